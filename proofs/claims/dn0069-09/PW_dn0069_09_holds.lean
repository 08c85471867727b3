import PyProof.Rows.All
import Wide.All
import OpenK.AllK
import Wide.FinOn
import KE.KRevSl
import Lean
import PySem.Challenge.RW_dn0069_09
set_option Elab.async false
set_option maxRecDepth 100000
set_option linter.all false
set_option genSizeOf false
set_option bootstrap.genMatcherCode false
section H09x
open PySem PySem.Calls PySem.W PyProof.Rows PySem.Builtin.Str
open PySem.W.X PySem.W.ZRun
set_option maxHeartbeats 0
namespace Mine
theorem wb {M : PySem.Model} {A : PySem.Around} {α β : Type} {E : PySem.Value → PySem.Shared → Prop} {s : PySem.Shared} {m : PySem.Sem α} {f : α → PySem.Sem β} {Q : β → PySem.Shared → Prop} (h : PySem.wpAny M A m (fun a s' => PySem.wpAny M A (f a) Q E s') E s) : PySem.wpAny M A (m >>= f) Q E s := PySem.wpAny_bind h
abbrev VP := PySem.Value → PySem.Shared → Prop
abbrev AP := PySem.Addr → Prop
abbrev SV := PySem.Str → Option PySem.Value
abbrev NAd := Nat → PySem.Addr
noncomputable abbrev tuO (x : Array PySem.Value) : Obj := ⟨.type "tuple",none,.seq x 0, #[]⟩
variable (P : Params)
noncomputable def hGo : List Nat → Option Stmt → Option Stmt
 | [],s => s
 | j :: r,some (.ClassDef _ _ _ b _ _ _ _ _ _ _) => hGo r b[j]?
 | j :: r,some (.FunctionDef _ _ b _ _ _ _ _ _ _) => hGo r b[j]?
 | _,_ => none
noncomputable def hAt (p : Program) (l : List Nat) : Option Stmt := match l with
 | [] => none
 | i :: r => hGo r p.main.body[i]?
noncomputable def hPs (s : Option Stmt) : Arguments := match s with
 | some (.FunctionDef _ a _ _ _ _ _ _ _ _) => a
 | _ => default
noncomputable def hBd (s : Option Stmt) : List Stmt := match s with
 | some (.FunctionDef _ _ b _ _ _ _ _ _ _) => b
 | _ => []
noncomputable def hSc (s : Option Stmt) : Scope := match s with
 | some (.FunctionDef _ _ _ _ _ _ s _ _ _) => s
 | _ => default
noncomputable abbrev hs (x : String) : PySem.Str := PySem.Str.ofString x
noncomputable abbrev hk (P : Params) (x : String) (t : Nat) (v : PySem.Value) : DictEntry := ⟨PyData.keyHash P (hs x),.str (hs x) t,v⟩
noncomputable abbrev hW : Program := PySem.Challenge.pw_dn0069_09
noncomputable def view09 : Program := PySem.W.view PySem.Challenge.pw_dn0069_09 [0,1,3,5,7,8,10,12,13,15,16,17,18,19,20,22,23,25,26,28,30,31,32,33,34]
noncomputable def ho1 : Obj := ⟨.type "dict",none,.dict #[hk P "builtins" 162 (.ref 4),hk P "__main__" 163 (.ref 5),hk P "_sre" 244 (.ref 12)] 3, #[]⟩
noncomputable def ho2 : Obj := ⟨.none,none,.dict #[⟨PyData.keyHash P (⟨#[105,109,112,111,114,116,46,108,111,97,100,101,100,46,95,115,114,101]⟩),.str (⟨#[105,109,112,111,114,116,46,108,111,97,100,101,100,46,95,115,114,101]⟩) 183,.bool true⟩,hk P "class._frozen_importlib.BuiltinImporter" 185 (.ref 14),⟨PyData.keyHash P (⟨#[119,97,116,99,104,101,100,46,105,109,112,111,114,116]⟩),.str (⟨#[119,97,116,99,104,101,100,46,105,109,112,111,114,116]⟩) 206,.ref 18⟩,hk P "class._frozen_importlib.ModuleSpec" 216 (.ref 22),hk P "sys.modules.booked-epoch" 245 (.int (3) 0),⟨PyData.keyHash P (⟨#[105,109,112,111,114,116,46,108,97,116,101,114,45,108,97,105,100,46,95,115,114,101]⟩),.str (⟨#[105,109,112,111,114,116,46,108,97,116,101,114,45,108,97,105,100,46,95,115,114,101]⟩) 270,.bool true⟩,hk P "watched.library" 272 (.ref 27),⟨PyData.keyHash P (hs "watched.library-objects"),.str (hs "watched.library-objects") 0,.str ((⟨#[12]⟩ : PySem.Str)) 0⟩,⟨PyData.keyHash P (hs "watched.library-deep._sre"),.str (hs "watched.library-deep._sre") 273,.str ((⟨#[4,0,0,11,4,0,0,11,4,0,0,3,4,0,0,11,8,4,100,105,99,116,2]⟩ : PySem.Str)) 0⟩] 9, #[]⟩
noncomputable def ho3 : Obj := ⟨.type "dict",none,.dict #[hk P "__name__" 165 (.str (hs "__main__") 164),hk P "__doc__" 166 (.none),hk P "__package__" 167 (.none),hk P "__loader__" 168 (.builtin "__main__.__loader__#opaque"),hk P "__spec__" 169 (.none),hk P "__annotations__" 170 (.ref 6),hk P "__builtins__" 171 (.ref 4),hk P "__file__" 173 (.str (hs "/claim/cut.py") 172),hk P "__cached__" 174 (.none),hk P "_sre" 275 (.ref 12)] 10, #[]⟩
noncomputable def ho11 : Obj := ⟨.type "dict",none,.dict #[hk P "__name__" 247 (.str (hs "_sre") 246),hk P "__doc__" 248 (.none),hk P "__package__" 250 (.str (hs "") 249),hk P "__loader__" 251 (.builtin "off-the-table:_sre.__loader__:shared#opaque"),hk P "__spec__" 252 (.builtin "off-the-table:_sre.__spec__:shared#opaque"),hk P "compile" 253 (.builtin "_sre.compile"),hk P "template" 254 (.builtin "off-the-table:_sre.template:shared#opaque"),hk P "getcodesize" 255 (.builtin "off-the-table:_sre.getcodesize:shared#opaque"),hk P "ascii_iscased" 256 (.builtin "off-the-table:_sre.ascii_iscased:shared#opaque"),hk P "unicode_iscased" 257 (.builtin "off-the-table:_sre.unicode_iscased:shared#opaque"),hk P "ascii_tolower" 258 (.builtin "off-the-table:_sre.ascii_tolower:shared#opaque"),hk P "unicode_tolower" 259 (.builtin "off-the-table:_sre.unicode_tolower:shared#opaque"),hk P "MAGIC" 261 (.int (20230612) 260),hk P "CODESIZE" 263 (.int (4) 262),hk P "MAXREPEAT" 265 (.int (4294967295) 264),hk P "MAXGROUPS" 267 (.int (1073741823) 266),hk P "copyright" 269 (.str (hs " SRE 2.2.2 Copyright (c) 1997-2002 by Secret Labs AB ") 268)] 17, #[]⟩
noncomputable def ho12 : Obj := ⟨.type "module",(some 11),.plain, #[]⟩
noncomputable def ho13 : Obj := ⟨.type "dict",none,.dict #[hk P "__module__" 189 (.str (hs "_frozen_importlib") 186),hk P "__firstlineno__" 190 (.int (971) 187),hk P "__doc__" 191 (.builtin "_frozen_importlib.BuiltinImporter.__doc__:str#opaque"),hk P "_ORIGIN" 192 (.str (hs "built-in") 188),hk P "find_spec" 193 (.builtin "_frozen_importlib.BuiltinImporter.find_spec#opaque"),hk P "create_module" 194 (.builtin "_frozen_importlib.BuiltinImporter.create_module#opaque"),hk P "exec_module" 195 (.builtin "_frozen_importlib.BuiltinImporter.exec_module#opaque"),hk P "get_code" 196 (.builtin "_frozen_importlib.BuiltinImporter.get_code#opaque"),hk P "get_source" 197 (.builtin "_frozen_importlib.BuiltinImporter.get_source#opaque"),hk P "is_package" 198 (.builtin "_frozen_importlib.BuiltinImporter.is_package#opaque"),hk P "load_module" 199 (.builtin "_frozen_importlib.BuiltinImporter.load_module#opaque"),hk P "__static_attributes__" 200 (.ref 15),hk P "__dict__" 202 (.ref 16),hk P "__weakref__" 204 (.ref 17)] 14, #[]⟩
noncomputable def ho14 : Obj := ⟨.type "type",none,.cls ⟨hs "BuiltinImporter",[.type "object"],[.ref 14,.type "object"],13,hs "BuiltinImporter",true,[],[],false,none,false⟩, #[]⟩
noncomputable def ho15 : Obj := tuO #[]
noncomputable def ho16 : Obj := ⟨.type "getset_descriptor",none,.fields #[.str (hs "__dict__") 201,.ref 14,.builtin "function.__dict__",.builtin "function.__dict__#set"], #[]⟩
noncomputable def ho17 : Obj := ⟨.type "getset_descriptor",none,.fields #[.str (hs "__weakref__") 203,.ref 14,.builtin "ExceptionGroup.__weakref__",.none], #[]⟩
noncomputable def ho18 : Obj := ⟨.none,none,.seq #[.int (13) 0,.str ((⟨#[6,189,10,95,95,109,111,100,117,108,101,95,95,6,186,17,95,102,114,111,122,101,110,95,105,109,112,111,114,116,108,105,98,6,190,15,95,95,102,105,114,115,116,108,105,110,101,110,111,95,95,4,187,0,971,6,191,7,95,95,100,111,99,95,95,9,52,95,102,114,111,122,101,110,95,105,109,112,111,114,116,108,105,98,46,66,117,105,108,116,105,110,73,109,112,111,114,116,101,114,46,95,95,100,111,99,95,95,58,115,116,114,35,111,112,97,113,117,101,6,192,7,95,79,82,73,71,73,78,6,188,8,98,117,105,108,116,45,105,110,6,193,9,102,105,110,100,95,115,112,101,99,9,50,95,102,114,111,122,101,110,95,105,109,112,111,114,116,108,105,98,46,66,117,105,108,116,105,110,73,109,112,111,114,116,101,114,46,102,105,110,100,95,115,112,101,99,35,111,112,97,113,117,101,6,194,13,99,114,101,97,116,101,95,109,111,100,117,108,101,9,54,95,102,114,111,122,101,110,95,105,109,112,111,114,116,108,105,98,46,66,117,105,108,116,105,110,73,109,112,111,114,116,101,114,46,99,114,101,97,116,101,95,109,111,100,117,108,101,35,111,112,97,113,117,101,6,195,11,101,120,101,99,95,109,111,100,117,108,101,9,52,95,102,114,111,122,101,110,95,105,109,112,111,114,116,108,105,98,46,66,117,105,108,116,105,110,73,109,112,111,114,116,101,114,46,101,120,101,99,95,109,111,100,117,108,101,35,111,112,97,113,117,101,6,196,8,103,101,116,95,99,111,100,101,9,49,95,102,114,111,122,101,110,95,105,109,112,111,114,116,108,105,98,46,66,117,105,108,116,105,110,73,109,112,111,114,116,101,114,46,103,101,116,95,99,111,100,101,35,111,112,97,113,117,101,6,197,10,103,101,116,95,115,111,117,114,99,101,9,51,95,102,114,111,122,101,110,95,105,109,112,111,114,116,108,105,98,46,66,117,105,108,116,105,110,73,109,112,111,114,116,101,114,46,103,101,116,95,115,111,117,114,99,101,35,111,112,97,113,117,101,6,198,10,105,115,95,112,97,99,107,97,103,101,9,51,95,102,114,111,122,101,110,95,105,109,112,111,114,116,108,105,98,46,66,117,105,108,116,105,110,73,109,112,111,114,116,101,114,46,105,115,95,112,97,99,107,97,103,101,35,111,112,97,113,117,101,6,199,11,108,111,97,100,95,109,111,100,117,108,101,9,52,95,102,114,111,122,101,110,95,105,109,112,111,114,116,108,105,98,46,66,117,105,108,116,105,110,73,109,112,111,114,116,101,114,46,108,111,97,100,95,109,111,100,117,108,101,35,111,112,97,113,117,101,6,200,21,95,95,115,116,97,116,105,99,95,97,116,116,114,105,98,117,116,101,115,95,95,4,0,0,15,6,202,8,95,95,100,105,99,116,95,95,4,0,0,16,6,204,11,95,95,119,101,97,107,114,101,102,95,95,4,0,0,17]⟩ : PySem.Str)) 0,.bool true,.bool true,.str (hs "") 205,.int (21) 0,.str ((⟨#[6,227,10,95,95,109,111,100,117,108,101,95,95,6,217,17,95,102,114,111,122,101,110,95,105,109,112,111,114,116,108,105,98,6,228,15,95,95,102,105,114,115,116,108,105,110,101,110,111,95,95,4,218,0,562,6,229,7,95,95,100,111,99,95,95,9,47,95,102,114,111,122,101,110,95,105,109,112,111,114,116,108,105,98,46,77,111,100,117,108,101,83,112,101,99,46,95,95,100,111,99,95,95,58,115,116,114,35,111,112,97,113,117,101,6,230,8,95,95,105,110,105,116,95,95,9,44,95,102,114,111,122,101,110,95,105,109,112,111,114,116,108,105,98,46,77,111,100,117,108,101,83,112,101,99,46,95,95,105,110,105,116,95,95,35,111,112,97,113,117,101,6,231,8,95,95,114,101,112,114,95,95,9,44,95,102,114,111,122,101,110,95,105,109,112,111,114,116,108,105,98,46,77,111,100,117,108,101,83,112,101,99,46,95,95,114,101,112,114,95,95,35,111,112,97,113,117,101,6,232,6,95,95,101,113,95,95,9,42,95,102,114,111,122,101,110,95,105,109,112,111,114,116,108,105,98,46,77,111,100,117,108,101,83,112,101,99,46,95,95,101,113,95,95,35,111,112,97,113,117,101,6,233,6,99,97,99,104,101,100,9,42,95,102,114,111,122,101,110,95,105,109,112,111,114,116,108,105,98,46,77,111,100,117,108,101,83,112,101,99,46,99,97,99,104,101,100,35,111,112,97,113,117,101,6,234,6,112,97,114,101,110,116,9,42,95,102,114,111,122,101,110,95,105,109,112,111,114,116,108,105,98,46,77,111,100,117,108,101,83,112,101,99,46,112,97,114,101,110,116,35,111,112,97,113,117,101,6,235,12,104,97,115,95,108,111,99,97,116,105,111,110,9,48,95,102,114,111,122,101,110,95,105,109,112,111,114,116,108,105,98,46,77,111,100,117,108,101,83,112,101,99,46,104,97,115,95,108,111,99,97,116,105,111,110,35,111,112,97,113,117,101,6,236,21,95,95,115,116,97,116,105,99,95,97,116,116,114,105,98,117,116,101,115,95,95,4,0,0,23,6,238,8,95,95,100,105,99,116,95,95,4,0,0,24,6,240,11,95,95,119,101,97,107,114,101,102,95,95,4,0,0,25,6,241,8,95,95,104,97,115,104,95,95,0]⟩ : PySem.Str)) 0,.bool true,.bool true,.str (hs "") 242] 1, #[]⟩
noncomputable def ho19 : Obj := ⟨.type "list",none,.seq #[] 0, #[]⟩
noncomputable def ho20 : Obj := ⟨.type "dict",none,.dict #[hk P "name" 208 (.str (hs "_sre") 207),hk P "loader" 209 (.ref 14),hk P "origin" 210 (.str (hs "built-in") 184),hk P "loader_state" 211 (.none),hk P "submodule_search_locations" 212 (.none),hk P "_uninitialized_submodules" 213 (.ref 19),hk P "_set_fileattr" 214 (.bool false),hk P "_cached" 215 (.none),hk P "_initializing" 243 (.bool false)] 9, #[]⟩
noncomputable def ho21 : Obj := ⟨.type "dict",none,.dict #[hk P "__module__" 227 (.str (hs "_frozen_importlib") 217),hk P "__firstlineno__" 228 (.int (562) 218),hk P "__doc__" 229 (.builtin "_frozen_importlib.ModuleSpec.__doc__:str#opaque"),hk P "__init__" 230 (.builtin "_frozen_importlib.ModuleSpec.__init__#opaque"),hk P "__repr__" 231 (.builtin "_frozen_importlib.ModuleSpec.__repr__#opaque"),hk P "__eq__" 232 (.builtin "_frozen_importlib.ModuleSpec.__eq__#opaque"),hk P "cached" 233 (.builtin "_frozen_importlib.ModuleSpec.cached#opaque"),hk P "parent" 234 (.builtin "_frozen_importlib.ModuleSpec.parent#opaque"),hk P "has_location" 235 (.builtin "_frozen_importlib.ModuleSpec.has_location#opaque"),hk P "__static_attributes__" 236 (.ref 23),hk P "__dict__" 238 (.ref 24),hk P "__weakref__" 240 (.ref 25),hk P "__hash__" 241 (.none)] 13, #[]⟩
noncomputable def ho22 : Obj := ⟨.type "type",none,.cls ⟨hs "ModuleSpec",[.type "object"],[.ref 22,.type "object"],21,hs "ModuleSpec",true,[],[],false,none,false⟩, #[]⟩
noncomputable def ho23 : Obj := tuO #[.str (hs "_cached") 219,.str (hs "_set_fileattr") 220,.str (hs "_uninitialized_submodules") 221,.str (hs "loader") 222,.str (hs "loader_state") 223,.str (hs "name") 224,.str (hs "origin") 225,.str (hs "submodule_search_locations") 226]
noncomputable def ho24 : Obj := ⟨.type "getset_descriptor",none,.fields #[.str (hs "__dict__") 237,.ref 22,.builtin "function.__dict__",.builtin "function.__dict__#set"], #[]⟩
noncomputable def ho25 : Obj := ⟨.type "getset_descriptor",none,.fields #[.str (hs "__weakref__") 239,.ref 22,.builtin "ExceptionGroup.__weakref__",.none], #[]⟩
noncomputable def ho26 : Obj := ⟨.ref 22,(some 20),.plain, #[]⟩
noncomputable def ho27 : Obj := ⟨.none,none,.seq #[.int (11) 0,.str ((⟨#[6,247,8,95,95,110,97,109,101,95,95,6,246,4,95,115,114,101,6,248,7,95,95,100,111,99,95,95,0,6,250,11,95,95,112,97,99,107,97,103,101,95,95,6,249,0,6,251,10,95,95,108,111,97,100,101,114,95,95,4,0,0,14,6,252,8,95,95,115,112,101,99,95,95,4,0,0,26,6,253,7,99,111,109,112,105,108,101,9,12,95,115,114,101,46,99,111,109,112,105,108,101,6,254,8,116,101,109,112,108,97,116,101,9,13,95,115,114,101,46,116,101,109,112,108,97,116,101,6,255,11,103,101,116,99,111,100,101,115,105,122,101,9,16,95,115,114,101,46,103,101,116,99,111,100,101,115,105,122,101,6,256,13,97,115,99,105,105,95,105,115,99,97,115,101,100,9,18,95,115,114,101,46,97,115,99,105,105,95,105,115,99,97,115,101,100,6,257,15,117,110,105,99,111,100,101,95,105,115,99,97,115,101,100,9,20,95,115,114,101,46,117,110,105,99,111,100,101,95,105,115,99,97,115,101,100,6,258,13,97,115,99,105,105,95,116,111,108,111,119,101,114,9,18,95,115,114,101,46,97,115,99,105,105,95,116,111,108,111,119,101,114,6,259,15,117,110,105,99,111,100,101,95,116,111,108,111,119,101,114,9,20,95,115,114,101,46,117,110,105,99,111,100,101,95,116,111,108,111,119,101,114,6,261,5,77,65,71,73,67,4,260,0,20230612,6,263,8,67,79,68,69,83,73,90,69,4,262,0,4,6,265,9,77,65,88,82,69,80,69,65,84,4,264,0,4294967295,6,267,9,77,65,88,71,82,79,85,80,83,4,266,0,1073741823,6,269,9,99,111,112,121,114,105,103,104,116,6,268,53,32,83,82,69,32,50,46,50,46,50,32,67,111,112,121,114,105,103,104,116,32,40,99,41,32,49,57,57,55,45,50,48,48,50,32,98,121,32,83,101,99,114,101,116,32,76,97,98,115,32,65,66,32]⟩ : PySem.Str)) 0,.bool true,.bool false,.str (hs "_sre") 271] 0, #[]⟩
noncomputable def hp0 : Heap := ⟨Array.mk [boot_o_0 P,ho1 P,ho2 P,ho3 P,boot_o_4 P,boot_o_5 P,boot_o_6 P,boot_o_7 P,boot_o_8 P,boot_o_9 P,boot_o_10 P,ho11 P,ho12,ho13 P,ho14,ho15,ho16,ho17,ho18,ho19,ho20 P,ho21 P,ho22,ho23,ho24,ho25,ho26,ho27],{ }⟩
noncomputable def ho28 : Obj := tuO #[]
noncomputable def ho29 : Obj := ⟨.none,none,.fields #[], #[]⟩
noncomputable def ho30 : Obj := ⟨.type "code",none,.fields #[.str (hs "<module>") 277,.str (hs "<module>") 278,.str (hs "/claim/cut.py") 279,.int (1) 0,.int (0) 0,.int (0) 0,.int (0) 0,.int (0) 0,.ref 28,.bool false,.int (276) 0,.ref 29,.none,.none,.none,.none,.int (280) 0,.int (1) 0,.str (hs "/claim/cut.py") 281], #[]⟩
noncomputable def ho31 : Obj := ⟨.type "frame",none,.plain, #[some (.ref 30),some (.ref 3),some (.ref 3),none,some (.str (hs "__main__") 164),none,some (.ref 0)]⟩
noncomputable def hp_pre : Heap := ⟨Array.mk [boot_o_0 P,ho1 P,ho2 P,ho3 P,boot_o_4 P,boot_o_5 P,boot_o_6 P,boot_o_7 P,boot_o_8 P,boot_o_9 P,boot_o_10 P,ho11 P,ho12,ho13 P,ho14,ho15,ho16,ho17,ho18,ho19,ho20 P,ho21 P,ho22,ho23,ho24,ho25,ho26,ho27,ho28,ho29,ho30,ho31],{ }⟩
noncomputable def ho3x : Obj := ⟨.type "dict",none,.dict #[hk P "__name__" 165 (.str (hs "os") 289),hk P "__doc__" 166 (.none),hk P "__package__" 167 (.none),hk P "__loader__" 168 (.builtin "__main__.__loader__#opaque"),hk P "__spec__" 169 (.none),hk P "__annotations__" 170 (.ref 6),hk P "__builtins__" 171 (.ref 4),hk P "__file__" 173 (.str (hs "/claim/cut.py") 172),hk P "__cached__" 174 (.none),hk P "_sre" 275 (.ref 12),hk P "_wall" 288 (.ref 38),hk P "_plain_name" 299 (.ref 45)] 12, #[]⟩
noncomputable def ho29x : Obj := ⟨.none,none,.fields #[.int (2) 0,.int (0) 0,.ref 37,.int (6) 0,.int (0) 0,.ref 44], #[]⟩
noncomputable def ho32 : Obj := tuO #[]
noncomputable def ho33 : Obj := ⟨.none,none,.fields #[], #[]⟩
noncomputable def ho34 : Obj := tuO #[.str (hs "k") 285]
noncomputable def ho35 : Obj := tuO #[]
noncomputable def ho36 : Obj := ⟨.none,none,.func ⟨hs "_wall",hs "_wall",hPs (hAt hW [1]),.stmts (hBd (hAt hW [1])),hSc (hAt hW [1]),0,[],.none,.none,.none,.none,none,.none,.none,0⟩, #[]⟩
noncomputable def ho37 : Obj := ⟨.type "code",none,.fields #[.str (hs "_wall") 282,.str (hs "_wall") 283,.str (hs "/claim/cut.py") 284,.int (2) 0,.int (1) 0,.int (0) 0,.int (0) 0,.int (3) 0,.ref 32,.bool true,.int (276) 0,.ref 33,.none,.ref 34,.ref 35,.ref 36,.int (286) 0,.int (2) 0,.str (hs "/claim/cut.py") 287], #[]⟩
noncomputable def ho38 : Obj := ⟨.type "function",none,.func ⟨hs "_wall",hs "_wall",hPs (hAt hW [1]),.stmts (hBd (hAt hW [1])),hSc (hAt hW [1]),3,[],.none,.none,.none,.str (hs "__main__") 164,none,.ref 37,.none,0⟩, #[]⟩
noncomputable def ho39 : Obj := tuO #[]
noncomputable def ho40 : Obj := ⟨.none,none,.fields #[], #[]⟩
noncomputable def ho41 : Obj := tuO #[.str (hs "x") 294,.str (hs "what") 295,.str (hs "kind") 296]
noncomputable def ho42 : Obj := tuO #[]
noncomputable def ho43 : Obj := ⟨.none,none,.func ⟨hs "_plain_name",hs "_plain_name",hPs (hAt hW [3]),.stmts (hBd (hAt hW [3])),hSc (hAt hW [3]),0,[],.none,.none,.none,.none,none,.none,.none,0⟩, #[]⟩
noncomputable def ho44 : Obj := ⟨.type "code",none,.fields #[.str (hs "_plain_name") 291,.str (hs "_plain_name") 292,.str (hs "/claim/cut.py") 293,.int (6) 0,.int (2) 0,.int (0) 0,.int (0) 0,.int (3) 0,.ref 39,.bool true,.int (276) 0,.ref 40,.none,.ref 41,.ref 42,.ref 43,.int (297) 0,.int (6) 0,.str (hs "/claim/cut.py") 298], #[]⟩
noncomputable def ho45 : Obj := ⟨.type "function",none,.func ⟨hs "_plain_name",hs "_plain_name",hPs (hAt hW [3]),.stmts (hBd (hAt hW [3])),hSc (hAt hW [3]),3,[],.none,.none,.none,.str (hs "os") 289,none,.ref 44,.none,0⟩, #[]⟩
noncomputable def hp3 : Heap := ⟨Array.mk [boot_o_0 P,ho1 P,ho2 P,ho3x P,boot_o_4 P,boot_o_5 P,boot_o_6 P,boot_o_7 P,boot_o_8 P,boot_o_9 P,boot_o_10 P,ho11 P,ho12,ho13 P,ho14,ho15,ho16,ho17,ho18,ho19,ho20 P,ho21 P,ho22,ho23,ho24,ho25,ho26,ho27,ho28,ho29x,ho30,ho31,ho32,ho33,ho34,ho35,ho36,ho37,ho38,ho39,ho40,ho41,ho42,ho43,ho44,ho45],{ }⟩
noncomputable def ho3xx : Obj := ⟨.type "dict",none,.dict #[hk P "__name__" 165 (.str (hs "abc") 300),hk P "__doc__" 166 (.none),hk P "__package__" 167 (.none),hk P "__loader__" 168 (.builtin "__main__.__loader__#opaque"),hk P "__spec__" 169 (.none),hk P "__annotations__" 170 (.ref 6),hk P "__builtins__" 171 (.ref 4),hk P "__file__" 173 (.str (hs "/claim/cut.py") 172),hk P "__cached__" 174 (.none),hk P "_sre" 275 (.ref 12),hk P "_wall" 288 (.ref 38),hk P "_plain_name" 299 (.ref 45)] 12, #[]⟩
noncomputable def hp4 : Heap := ⟨Array.mk [boot_o_0 P,ho1 P,ho2 P,ho3xx P,boot_o_4 P,boot_o_5 P,boot_o_6 P,boot_o_7 P,boot_o_8 P,boot_o_9 P,boot_o_10 P,ho11 P,ho12,ho13 P,ho14,ho15,ho16,ho17,ho18,ho19,ho20 P,ho21 P,ho22,ho23,ho24,ho25,ho26,ho27,ho28,ho29x,ho30,ho31,ho32,ho33,ho34,ho35,ho36,ho37,ho38,ho39,ho40,ho41,ho42,ho43,ho44,ho45],{ }⟩
noncomputable def ho3xxx : Obj := ⟨.type "dict",none,.dict #[hk P "__name__" 165 (.str (hs "law_dn0069_09") 711),hk P "__doc__" 166 (.none),hk P "__package__" 167 (.none),hk P "__loader__" 168 (.builtin "__main__.__loader__#opaque"),hk P "__spec__" 169 (.none),hk P "__annotations__" 170 (.ref 6),hk P "__builtins__" 171 (.ref 4),hk P "__file__" 173 (.str (hs "/claim/cut.py") 172),hk P "__cached__" 174 (.none),hk P "_sre" 275 (.ref 12),hk P "_wall" 288 (.ref 38),hk P "_plain_name" 299 (.ref 45),hk P "ABCMeta" 325 (.ref 62),hk P "_ABCLike" 368 (.ref 95),hk P "_abc_plain_meta" 375 (.ref 104),hk P "fspath" 387 (.ref 111),hk P "commonprefix" 400 (.ref 118),hk P "_check_arg_types" 411 (.ref 125),hk P "_get_sep" 420 (.ref 132),hk P "join" 431 (.ref 139),hk P "split" 442 (.ref 146),hk P "splitroot" 451 (.ref 153),hk P "normpath" 466 (.ref 160),hk P "abspath" 473 (.ref 167),hk P "relpath" 490 (.ref 175),hk P "commonpath" 496 (.ref 180),hk P "_twin_re_1" 534 (.ref 185),hk P "_special_chars_map" 682 (.ref 187),hk P "escape" 689 (.ref 197),hk P "_translate" 710 (.ref 204),hk P "_law_one" 726 (.ref 211),hk P "_law_takes" 732 (.ref 216),hk P "_law_means" 738 (.ref 221),hk P "_law_dressed" 746 (.ref 228),hk P "law" 752 (.ref 233)] 35, #[]⟩
noncomputable def ho29xx : Obj := ⟨.none,none,.fields #[.int (2) 0,.int (0) 0,.ref 37,.int (6) 0,.int (0) 0,.ref 44,.int (12) 0,.int (0) 0,.ref 51,.int (17) 0,.int (0) 0,.ref 70,.int (32) 0,.int (0) 0,.ref 103,.int (36) 0,.int (0) 0,.ref 110,.int (53) 0,.int (0) 0,.ref 117,.int (64) 0,.int (0) 0,.ref 124,.int (76) 0,.int (0) 0,.ref 131,.int (81) 0,.int (0) 0,.ref 138,.int (98) 0,.int (0) 0,.ref 145,.int (106) 0,.int (0) 0,.ref 152,.int (120) 0,.int (0) 0,.ref 159,.int (145) 0,.int (0) 0,.ref 166,.int (153) 0,.int (0) 0,.ref 174,.int (182) 0,.int (0) 0,.ref 179,.int (214) 0,.int (0) 0,.ref 196,.int (221) 0,.int (0) 0,.ref 203,.int (284) 0,.int (0) 0,.ref 210,.int (308) 0,.int (0) 0,.ref 215,.int (316) 0,.int (0) 0,.ref 220,.int (322) 0,.int (0) 0,.ref 227,.int (325) 0,.int (0) 0,.ref 232], #[]⟩
noncomputable def ho46 : Obj := tuO #[.type "type"]
noncomputable def ho47 : Obj := ⟨.type "builtin_function_or_method",none,.fields #[.builtin "type.__prepare__",.type "type"], #[]⟩
noncomputable def ho48 : Obj := ⟨.type "dict",none,.dict #[hk P "__module__" 309 (.str (hs "abc") 300),hk P "__qualname__" 311 (.str (hs "ABCMeta") 310),hk P "__firstlineno__" 313 (.int (12) 312),hk P "register" 321 (.ref 59),hk P "__static_attributes__" 322 (.ref 60)] 5, #[]⟩
noncomputable def ho49 : Obj := tuO #[]
noncomputable def ho50 : Obj := ⟨.none,none,.fields #[.int (14) 0,.int (4) 0,.ref 58], #[]⟩
noncomputable def ho51 : Obj := ⟨.type "code",none,.fields #[.str (hs "ABCMeta") 304,.str (hs "ABCMeta") 305,.str (hs "/claim/cut.py") 306,.int (12) 0,.int (0) 0,.int (0) 0,.int (0) 0,.int (0) 0,.ref 49,.bool false,.int (276) 0,.ref 50,.none,.none,.none,.none,.int (307) 0,.int (12) 0,.str (hs "/claim/cut.py") 308], #[]⟩
noncomputable def ho52 : Obj := ⟨.type "frame",none,.plain, #[some (.ref 51),some (.ref 3),some (.ref 48),none,some (.str (hs "abc") 300),none,some (.ref 0)]⟩
noncomputable def ho53 : Obj := tuO #[]
noncomputable def ho54 : Obj := ⟨.none,none,.fields #[], #[]⟩
noncomputable def ho55 : Obj := tuO #[.str (hs "cls") 317,.str (hs "subclass") 318]
noncomputable def ho56 : Obj := tuO #[]
noncomputable def ho57 : Obj := ⟨.none,none,.func ⟨hs "register",hs "ABCMeta.register",hPs (hAt hW [5,0]),.stmts (hBd (hAt hW [5,0])),hSc (hAt hW [5,0]),0,[],.none,.none,.none,.none,none,.none,.none,0⟩, #[]⟩
noncomputable def ho58 : Obj := ⟨.type "code",none,.fields #[.str (hs "register") 314,.str (hs "ABCMeta.register") 315,.str (hs "/claim/cut.py") 316,.int (14) 0,.int (2) 0,.int (0) 0,.int (0) 0,.int (3) 0,.ref 53,.bool true,.int (276) 0,.ref 54,.none,.ref 55,.ref 56,.ref 57,.int (319) 0,.int (14) 0,.str (hs "/claim/cut.py") 320], #[]⟩
noncomputable def ho59 : Obj := ⟨.type "function",none,.func ⟨hs "register",hs "ABCMeta.register",hPs (hAt hW [5,0]),.stmts (hBd (hAt hW [5,0])),hSc (hAt hW [5,0]),3,[],.none,.none,.none,.str (hs "abc") 300,none,.ref 58,.none,0⟩, #[]⟩
noncomputable def ho60 : Obj := tuO #[]
noncomputable def ho61 : Obj := ⟨.type "dict",none,.dict #[hk P "__module__" 309 (.str (hs "abc") 300),hk P "__firstlineno__" 313 (.int (12) 312),hk P "register" 321 (.ref 59),hk P "__static_attributes__" 322 (.ref 60),hk P "__doc__" 323 (.none)] 2, #[]⟩
noncomputable def ho62 : Obj := ⟨.type "type",none,.cls ⟨hs "ABCMeta",[.type "type"],[.ref 62,.type "type",.type "object"],61,hs "ABCMeta",true,[],[.ref 95],false,none,false⟩, #[some (.ref 46),none,some (.str (hs "ABCMeta") 302),some (.str (hs "ABCMeta") 310),some (.builtin "type.__new__"),some (.bool true)]⟩
noncomputable def ho63 : Obj := ⟨.type "super",none,.fields #[.ref 62,.ref 62,.ref 62], #[]⟩
noncomputable def ho64 : Obj := ⟨.type "builtin_function_or_method",none,.fields #[.builtin "object.__init_subclass__",.ref 62], #[]⟩
noncomputable def ho65 : Obj := tuO #[.ref 62]
noncomputable def ho66 : Obj := ⟨.type "builtin_function_or_method",none,.fields #[.builtin "type.__prepare__",.type "type"], #[]⟩
noncomputable def ho67 : Obj := ⟨.type "dict",none,.dict #[hk P "__module__" 335 (.str (hs "collections.abc") 326),hk P "__qualname__" 337 (.str (hs "_ABCLike") 336),hk P "__firstlineno__" 339 (.int (17) 338),hk P "__instancecheck__" 348 (.ref 78),hk P "__subclasscheck__" 356 (.ref 85),hk P "register" 364 (.ref 92),hk P "__static_attributes__" 365 (.ref 93)] 7, #[]⟩
noncomputable def ho68 : Obj := tuO #[]
noncomputable def ho69 : Obj := ⟨.none,none,.fields #[.int (19) 0,.int (4) 0,.ref 77,.int (25) 0,.int (4) 0,.ref 84,.int (30) 0,.int (4) 0,.ref 91], #[]⟩
noncomputable def ho70 : Obj := ⟨.type "code",none,.fields #[.str (hs "_ABCLike") 330,.str (hs "_ABCLike") 331,.str (hs "/claim/cut.py") 332,.int (17) 0,.int (0) 0,.int (0) 0,.int (0) 0,.int (0) 0,.ref 68,.bool false,.int (276) 0,.ref 69,.none,.none,.none,.none,.int (333) 0,.int (17) 0,.str (hs "/claim/cut.py") 334], #[]⟩
noncomputable def ho71 : Obj := ⟨.type "frame",none,.plain, #[some (.ref 70),some (.ref 3),some (.ref 67),none,some (.str (hs "collections.abc") 326),none,some (.ref 0)]⟩
noncomputable def ho72 : Obj := tuO #[]
noncomputable def ho73 : Obj := ⟨.none,none,.fields #[], #[]⟩
noncomputable def ho74 : Obj := tuO #[.str (hs "cls") 343,.str (⟨#[105,110,115,116,97,110,99,101]⟩) 344,.str (hs "C") 345]
noncomputable def ho75 : Obj := tuO #[]
noncomputable def ho76 : Obj := ⟨.none,none,.func ⟨hs "__instancecheck__",hs "_ABCLike.__instancecheck__",hPs (hAt hW [7,0]),.stmts (hBd (hAt hW [7,0])),hSc (hAt hW [7,0]),0,[],.none,.none,.none,.none,none,.none,.none,0⟩, #[]⟩
noncomputable def ho77 : Obj := ⟨.type "code",none,.fields #[.str (hs "__instancecheck__") 340,.str (hs "_ABCLike.__instancecheck__") 341,.str (hs "/claim/cut.py") 342,.int (19) 0,.int (2) 0,.int (0) 0,.int (0) 0,.int (3) 0,.ref 72,.bool true,.int (276) 0,.ref 73,.none,.ref 74,.ref 75,.ref 76,.int (346) 0,.int (19) 0,.str (hs "/claim/cut.py") 347], #[]⟩
noncomputable def ho78 : Obj := ⟨.type "function",none,.func ⟨hs "__instancecheck__",hs "_ABCLike.__instancecheck__",hPs (hAt hW [7,0]),.stmts (hBd (hAt hW [7,0])),hSc (hAt hW [7,0]),3,[],.none,.none,.none,.str (hs "collections.abc") 326,none,.ref 77,.none,0⟩, #[]⟩
noncomputable def ho79 : Obj := tuO #[]
noncomputable def ho80 : Obj := ⟨.none,none,.fields #[], #[]⟩
noncomputable def ho81 : Obj := tuO #[.str (hs "cls") 352,.str (hs "C") 353]
noncomputable def ho82 : Obj := tuO #[]
noncomputable def ho83 : Obj := ⟨.none,none,.func ⟨hs "__subclasscheck__",hs "_ABCLike.__subclasscheck__",hPs (hAt hW [7,1]),.stmts (hBd (hAt hW [7,1])),hSc (hAt hW [7,1]),0,[],.none,.none,.none,.none,none,.none,.none,0⟩, #[]⟩
noncomputable def ho84 : Obj := ⟨.type "code",none,.fields #[.str (hs "__subclasscheck__") 349,.str (hs "_ABCLike.__subclasscheck__") 350,.str (hs "/claim/cut.py") 351,.int (25) 0,.int (2) 0,.int (0) 0,.int (0) 0,.int (3) 0,.ref 79,.bool true,.int (276) 0,.ref 80,.none,.ref 81,.ref 82,.ref 83,.int (354) 0,.int (25) 0,.str (hs "/claim/cut.py") 355], #[]⟩
noncomputable def ho85 : Obj := ⟨.type "function",none,.func ⟨hs "__subclasscheck__",hs "_ABCLike.__subclasscheck__",hPs (hAt hW [7,1]),.stmts (hBd (hAt hW [7,1])),hSc (hAt hW [7,1]),3,[],.none,.none,.none,.str (hs "collections.abc") 326,none,.ref 84,.none,0⟩, #[]⟩
noncomputable def ho86 : Obj := tuO #[]
noncomputable def ho87 : Obj := ⟨.none,none,.fields #[], #[]⟩
noncomputable def ho88 : Obj := tuO #[.str (hs "cls") 360,.str (hs "subclass") 361]
noncomputable def ho89 : Obj := tuO #[]
noncomputable def ho90 : Obj := ⟨.none,none,.func ⟨hs "register",hs "_ABCLike.register",hPs (hAt hW [7,2]),.stmts (hBd (hAt hW [7,2])),hSc (hAt hW [7,2]),0,[],.none,.none,.none,.none,none,.none,.none,0⟩, #[]⟩
noncomputable def ho91 : Obj := ⟨.type "code",none,.fields #[.str (hs "register") 357,.str (hs "_ABCLike.register") 358,.str (hs "/claim/cut.py") 359,.int (30) 0,.int (2) 0,.int (0) 0,.int (0) 0,.int (3) 0,.ref 86,.bool true,.int (276) 0,.ref 87,.none,.ref 88,.ref 89,.ref 90,.int (362) 0,.int (30) 0,.str (hs "/claim/cut.py") 363], #[]⟩
noncomputable def ho92 : Obj := ⟨.type "function",none,.func ⟨hs "register",hs "_ABCLike.register",hPs (hAt hW [7,2]),.stmts (hBd (hAt hW [7,2])),hSc (hAt hW [7,2]),3,[],.none,.none,.none,.str (hs "collections.abc") 326,none,.ref 91,.none,0⟩, #[]⟩
noncomputable def ho93 : Obj := tuO #[]
noncomputable def ho94 : Obj := ⟨.type "dict",none,.dict #[hk P "__module__" 335 (.str (hs "collections.abc") 326),hk P "__firstlineno__" 339 (.int (17) 338),hk P "__instancecheck__" 348 (.ref 78),hk P "__subclasscheck__" 356 (.ref 85),hk P "register" 364 (.ref 92),hk P "__static_attributes__" 365 (.ref 93),hk P "__doc__" 366 (.none)] 2, #[]⟩
noncomputable def ho95 : Obj := ⟨.type "type",none,.cls ⟨hs "_ABCLike",[.ref 62],[.ref 95,.ref 62,.type "type",.type "object"],94,hs "_ABCLike",true,[],[],false,none,false⟩, #[some (.ref 65),none,some (.str (hs "_ABCLike") 328),some (.str (hs "_ABCLike") 336),some (.builtin "type.__new__"),some (.bool true)]⟩
noncomputable def ho96 : Obj := ⟨.type "super",none,.fields #[.ref 95,.ref 95,.ref 95], #[]⟩
noncomputable def ho97 : Obj := ⟨.type "builtin_function_or_method",none,.fields #[.builtin "object.__init_subclass__",.ref 95], #[]⟩
noncomputable def ho98 : Obj := tuO #[]
noncomputable def ho99 : Obj := ⟨.none,none,.fields #[], #[]⟩
noncomputable def ho100 : Obj := tuO #[.str (hs "C") 372]
noncomputable def ho101 : Obj := tuO #[]
noncomputable def ho102 : Obj := ⟨.none,none,.func ⟨hs "_abc_plain_meta",hs "_abc_plain_meta",hPs (hAt hW [8]),.stmts (hBd (hAt hW [8])),hSc (hAt hW [8]),0,[],.none,.none,.none,.none,none,.none,.none,0⟩, #[]⟩
noncomputable def ho103 : Obj := ⟨.type "code",none,.fields #[.str (hs "_abc_plain_meta") 369,.str (hs "_abc_plain_meta") 370,.str (hs "/claim/cut.py") 371,.int (32) 0,.int (1) 0,.int (0) 0,.int (0) 0,.int (3) 0,.ref 98,.bool true,.int (276) 0,.ref 99,.none,.ref 100,.ref 101,.ref 102,.int (373) 0,.int (32) 0,.str (hs "/claim/cut.py") 374], #[]⟩
noncomputable def ho104 : Obj := ⟨.type "function",none,.func ⟨hs "_abc_plain_meta",hs "_abc_plain_meta",hPs (hAt hW [8]),.stmts (hBd (hAt hW [8])),hSc (hAt hW [8]),3,[],.none,.none,.none,.str (hs "collections.abc") 326,none,.ref 103,.none,0⟩, #[]⟩
noncomputable def ho105 : Obj := tuO #[]
noncomputable def ho106 : Obj := ⟨.none,none,.fields #[], #[]⟩
noncomputable def ho107 : Obj := tuO #[.str (hs "path") 381,.str (hs "kind") 382,.str (hs "hook") 383,.str (hs "given") 384]
noncomputable def ho108 : Obj := tuO #[]
noncomputable def ho109 : Obj := ⟨.none,none,.func ⟨hs "fspath",hs "fspath",hPs (hAt hW [10]),.stmts (hBd (hAt hW [10])),hSc (hAt hW [10]),0,[],.none,.none,.none,.none,none,.none,.none,0⟩, #[]⟩
noncomputable def ho110 : Obj := ⟨.type "code",none,.fields #[.str (hs "fspath") 378,.str (hs "fspath") 379,.str (hs "/claim/cut.py") 380,.int (36) 0,.int (1) 0,.int (0) 0,.int (0) 0,.int (3) 0,.ref 105,.bool true,.int (276) 0,.ref 106,.none,.ref 107,.ref 108,.ref 109,.int (385) 0,.int (36) 0,.str (hs "/claim/cut.py") 386], #[]⟩
noncomputable def ho111 : Obj := ⟨.type "function",none,.func ⟨hs "fspath",hs "fspath",hPs (hAt hW [10]),.stmts (hBd (hAt hW [10])),hSc (hAt hW [10]),3,[],.none,.none,.none,.str (hs "os") 376,none,.ref 110,.none,0⟩, #[]⟩
noncomputable def ho112 : Obj := tuO #[]
noncomputable def ho113 : Obj := ⟨.none,none,.fields #[], #[]⟩
noncomputable def ho114 : Obj := tuO #[.str (hs "m") 393,.str (hs "s1") 394,.str (hs "s2") 395,.str (hs "i") 396,.str (hs "c") 397]
noncomputable def ho115 : Obj := tuO #[]
noncomputable def ho116 : Obj := ⟨.none,none,.func ⟨hs "commonprefix",hs "commonprefix",hPs (hAt hW [12]),.stmts (hBd (hAt hW [12])),hSc (hAt hW [12]),0,[],.none,.none,.none,.none,none,.none,.none,0⟩, #[]⟩
noncomputable def ho117 : Obj := ⟨.type "code",none,.fields #[.str (hs "commonprefix") 390,.str (hs "commonprefix") 391,.str (hs "/claim/cut.py") 392,.int (53) 0,.int (1) 0,.int (0) 0,.int (0) 0,.int (3) 0,.ref 112,.bool true,.int (276) 0,.ref 113,.none,.ref 114,.ref 115,.ref 116,.int (398) 0,.int (53) 0,.str (hs "/claim/cut.py") 399], #[]⟩
noncomputable def ho118 : Obj := ⟨.type "function",none,.func ⟨hs "commonprefix",hs "commonprefix",hPs (hAt hW [12]),.stmts (hBd (hAt hW [12])),hSc (hAt hW [12]),3,[],.none,.none,.none,.str (hs "cpy313.genericpath") 388,none,.ref 117,.none,0⟩, #[]⟩
noncomputable def ho119 : Obj := tuO #[]
noncomputable def ho120 : Obj := ⟨.none,none,.fields #[], #[]⟩
noncomputable def ho121 : Obj := tuO #[.str (hs "funcname") 404,.str (hs "args") 405,.str (hs "hasstr") 406,.str (hs "hasbytes") 407,.str (hs "s") 408]
noncomputable def ho122 : Obj := tuO #[]
noncomputable def ho123 : Obj := ⟨.none,none,.func ⟨hs "_check_arg_types",hs "_check_arg_types",hPs (hAt hW [13]),.stmts (hBd (hAt hW [13])),hSc (hAt hW [13]),0,[],.none,.none,.none,.none,none,.none,.none,0⟩, #[]⟩
noncomputable def ho124 : Obj := ⟨.type "code",none,.fields #[.str (hs "_check_arg_types") 401,.str (hs "_check_arg_types") 402,.str (hs "/claim/cut.py") 403,.int (64) 0,.int (1) 0,.int (0) 0,.int (0) 0,.int (7) 0,.ref 119,.bool true,.int (276) 0,.ref 120,.none,.ref 121,.ref 122,.ref 123,.int (409) 0,.int (64) 0,.str (hs "/claim/cut.py") 410], #[]⟩
noncomputable def ho125 : Obj := ⟨.type "function",none,.func ⟨hs "_check_arg_types",hs "_check_arg_types",hPs (hAt hW [13]),.stmts (hBd (hAt hW [13])),hSc (hAt hW [13]),3,[],.none,.none,.none,.str (hs "cpy313.genericpath") 388,none,.ref 124,.none,0⟩, #[]⟩
noncomputable def ho126 : Obj := tuO #[]
noncomputable def ho127 : Obj := ⟨.none,none,.fields #[], #[]⟩
noncomputable def ho128 : Obj := tuO #[.str (hs "path") 417]
noncomputable def ho129 : Obj := tuO #[]
noncomputable def ho130 : Obj := ⟨.none,none,.func ⟨hs "_get_sep",hs "_get_sep",hPs (hAt hW [15]),.stmts (hBd (hAt hW [15])),hSc (hAt hW [15]),0,[],.none,.none,.none,.none,none,.none,.none,0⟩, #[]⟩
noncomputable def ho131 : Obj := ⟨.type "code",none,.fields #[.str (hs "_get_sep") 414,.str (hs "_get_sep") 415,.str (hs "/claim/cut.py") 416,.int (76) 0,.int (1) 0,.int (0) 0,.int (0) 0,.int (3) 0,.ref 126,.bool true,.int (276) 0,.ref 127,.none,.ref 128,.ref 129,.ref 130,.int (418) 0,.int (76) 0,.str (hs "/claim/cut.py") 419], #[]⟩
noncomputable def ho132 : Obj := ⟨.type "function",none,.func ⟨hs "_get_sep",hs "_get_sep",hPs (hAt hW [15]),.stmts (hBd (hAt hW [15])),hSc (hAt hW [15]),3,[],.none,.none,.none,.str (hs "cpy313.posixpath") 412,none,.ref 131,.none,0⟩, #[]⟩
noncomputable def ho133 : Obj := tuO #[]
noncomputable def ho134 : Obj := ⟨.none,none,.fields #[], #[]⟩
noncomputable def ho135 : Obj := tuO #[.str (hs "a") 424,.str (hs "p") 425,.str (hs "sep") 426,.str (hs "path") 427,.str (hs "b") 428]
noncomputable def ho136 : Obj := tuO #[]
noncomputable def ho137 : Obj := ⟨.none,none,.func ⟨hs "join",hs "join",hPs (hAt hW [16]),.stmts (hBd (hAt hW [16])),hSc (hAt hW [16]),0,[],.none,.none,.none,.none,none,.none,.none,0⟩, #[]⟩
noncomputable def ho138 : Obj := ⟨.type "code",none,.fields #[.str (hs "join") 421,.str (hs "join") 422,.str (hs "/claim/cut.py") 423,.int (81) 0,.int (1) 0,.int (0) 0,.int (0) 0,.int (7) 0,.ref 133,.bool true,.int (276) 0,.ref 134,.none,.ref 135,.ref 136,.ref 137,.int (429) 0,.int (81) 0,.str (hs "/claim/cut.py") 430], #[]⟩
noncomputable def ho139 : Obj := ⟨.type "function",none,.func ⟨hs "join",hs "join",hPs (hAt hW [16]),.stmts (hBd (hAt hW [16])),hSc (hAt hW [16]),3,[],.none,.none,.none,.str (hs "cpy313.posixpath") 412,none,.ref 138,.none,0⟩, #[]⟩
noncomputable def ho140 : Obj := tuO #[]
noncomputable def ho141 : Obj := ⟨.none,none,.fields #[], #[]⟩
noncomputable def ho142 : Obj := tuO #[.str (hs "p") 435,.str (hs "sep") 436,.str (hs "i") 437,.str (hs "head") 438,.str (hs "tail") 439]
noncomputable def ho143 : Obj := tuO #[]
noncomputable def ho144 : Obj := ⟨.none,none,.func ⟨hs "split",hs "split",hPs (hAt hW [17]),.stmts (hBd (hAt hW [17])),hSc (hAt hW [17]),0,[],.none,.none,.none,.none,none,.none,.none,0⟩, #[]⟩
noncomputable def ho145 : Obj := ⟨.type "code",none,.fields #[.str (hs "split") 432,.str (hs "split") 433,.str (hs "/claim/cut.py") 434,.int (98) 0,.int (1) 0,.int (0) 0,.int (0) 0,.int (3) 0,.ref 140,.bool true,.int (276) 0,.ref 141,.none,.ref 142,.ref 143,.ref 144,.int (440) 0,.int (98) 0,.str (hs "/claim/cut.py") 441], #[]⟩
noncomputable def ho146 : Obj := ⟨.type "function",none,.func ⟨hs "split",hs "split",hPs (hAt hW [17]),.stmts (hBd (hAt hW [17])),hSc (hAt hW [17]),3,[],.none,.none,.none,.str (hs "cpy313.posixpath") 412,none,.ref 145,.none,0⟩, #[]⟩
noncomputable def ho147 : Obj := tuO #[]
noncomputable def ho148 : Obj := ⟨.none,none,.fields #[], #[]⟩
noncomputable def ho149 : Obj := tuO #[.str (hs "p") 446,.str (hs "sep") 447,.str (hs "empty") 448]
noncomputable def ho150 : Obj := tuO #[]
noncomputable def ho151 : Obj := ⟨.none,none,.func ⟨hs "splitroot",hs "splitroot",hPs (hAt hW [18]),.stmts (hBd (hAt hW [18])),hSc (hAt hW [18]),0,[],.none,.none,.none,.none,none,.none,.none,0⟩, #[]⟩
noncomputable def ho152 : Obj := ⟨.type "code",none,.fields #[.str (hs "splitroot") 443,.str (hs "splitroot") 444,.str (hs "/claim/cut.py") 445,.int (106) 0,.int (1) 0,.int (0) 0,.int (0) 0,.int (3) 0,.ref 147,.bool true,.int (276) 0,.ref 148,.none,.ref 149,.ref 150,.ref 151,.int (449) 0,.int (106) 0,.str (hs "/claim/cut.py") 450], #[]⟩
noncomputable def ho153 : Obj := ⟨.type "function",none,.func ⟨hs "splitroot",hs "splitroot",hPs (hAt hW [18]),.stmts (hBd (hAt hW [18])),hSc (hAt hW [18]),3,[],.none,.none,.none,.str (hs "cpy313.posixpath") 412,none,.ref 152,.none,0⟩, #[]⟩
noncomputable def ho154 : Obj := tuO #[]
noncomputable def ho155 : Obj := ⟨.none,none,.fields #[], #[]⟩
noncomputable def ho156 : Obj := tuO #[.str (hs "path") 455,.str (hs "sep") 456,.str (hs "dot") 457,.str (hs "dotdot") 458,.str (hs "_") 459,.str (hs "initial_slashes") 460,.str (hs "comps") 461,.str (hs "new_comps") 462,.str (hs "comp") 463]
noncomputable def ho157 : Obj := tuO #[]
noncomputable def ho158 : Obj := ⟨.none,none,.func ⟨hs "normpath",hs "normpath",hPs (hAt hW [19]),.stmts (hBd (hAt hW [19])),hSc (hAt hW [19]),0,[],.none,.none,.none,.none,none,.none,.none,0⟩, #[]⟩
noncomputable def ho159 : Obj := ⟨.type "code",none,.fields #[.str (hs "normpath") 452,.str (hs "normpath") 453,.str (hs "/claim/cut.py") 454,.int (120) 0,.int (1) 0,.int (0) 0,.int (0) 0,.int (3) 0,.ref 154,.bool true,.int (276) 0,.ref 155,.none,.ref 156,.ref 157,.ref 158,.int (464) 0,.int (120) 0,.str (hs "/claim/cut.py") 465], #[]⟩
noncomputable def ho160 : Obj := ⟨.type "function",none,.func ⟨hs "normpath",hs "normpath",hPs (hAt hW [19]),.stmts (hBd (hAt hW [19])),hSc (hAt hW [19]),3,[],.none,.none,.none,.str (hs "cpy313.posixpath") 412,none,.ref 159,.none,0⟩, #[]⟩
noncomputable def ho161 : Obj := tuO #[]
noncomputable def ho162 : Obj := ⟨.none,none,.fields #[], #[]⟩
noncomputable def ho163 : Obj := tuO #[.str (hs "path") 470]
noncomputable def ho164 : Obj := tuO #[]
noncomputable def ho165 : Obj := ⟨.none,none,.func ⟨hs "abspath",hs "abspath",hPs (hAt hW [20]),.stmts (hBd (hAt hW [20])),hSc (hAt hW [20]),0,[],.none,.none,.none,.none,none,.none,.none,0⟩, #[]⟩
noncomputable def ho166 : Obj := ⟨.type "code",none,.fields #[.str (hs "abspath") 467,.str (hs "abspath") 468,.str (hs "/claim/cut.py") 469,.int (145) 0,.int (1) 0,.int (0) 0,.int (0) 0,.int (3) 0,.ref 161,.bool true,.int (276) 0,.ref 162,.none,.ref 163,.ref 164,.ref 165,.int (471) 0,.int (145) 0,.str (hs "/claim/cut.py") 472], #[]⟩
noncomputable def ho167 : Obj := ⟨.type "function",none,.func ⟨hs "abspath",hs "abspath",hPs (hAt hW [20]),.stmts (hBd (hAt hW [20])),hSc (hAt hW [20]),3,[],.none,.none,.none,.str (hs "cpy313.posixpath") 412,none,.ref 166,.none,0⟩, #[]⟩
noncomputable def ho168 : Obj := tuO #[.none]
noncomputable def ho169 : Obj := tuO #[]
noncomputable def ho170 : Obj := ⟨.none,none,.fields #[], #[]⟩
noncomputable def ho171 : Obj := tuO #[.str (hs "path") 477,.str (hs "start") 478,.str (hs "curdir") 479,.str (hs "sep") 480,.str (hs "pardir") 481,.str (hs "start_tail") 482,.str (hs "path_tail") 483,.str (hs "start_list") 484,.str (hs "path_list") 485,.str (hs "i") 486,.str (hs "rel_list") 487]
noncomputable def ho172 : Obj := tuO #[]
noncomputable def ho173 : Obj := ⟨.none,none,.func ⟨hs "relpath",hs "relpath",hPs (hAt hW [21]),.stmts (hBd (hAt hW [21])),hSc (hAt hW [21]),0,[],.none,.none,.none,.none,none,.none,.none,0⟩, #[]⟩
noncomputable def ho174 : Obj := ⟨.type "code",none,.fields #[.str (hs "relpath") 474,.str (hs "relpath") 475,.str (hs "/claim/cut.py") 476,.int (153) 0,.int (2) 0,.int (0) 0,.int (0) 0,.int (3) 0,.ref 169,.bool true,.int (276) 0,.ref 170,.none,.ref 171,.ref 172,.ref 173,.int (488) 0,.int (153) 0,.str (hs "/claim/cut.py") 489], #[]⟩
noncomputable def ho175 : Obj := ⟨.type "function",none,.func ⟨hs "relpath",hs "relpath",hPs (hAt hW [21]),.stmts (hBd (hAt hW [21])),hSc (hAt hW [21]),3,[],.ref 168,.none,.none,.str (hs "cpy313.posixpath") 412,none,.ref 174,.none,0⟩, #[]⟩
noncomputable def ho176 : Obj := tuO #[]
noncomputable def ho177 : Obj := ⟨.none,none,.fields #[], #[]⟩
noncomputable def ho178 : Obj := ⟨.none,none,.func ⟨hs "commonpath",hs "commonpath",hPs (hAt hW [22]),.stmts (hBd (hAt hW [22])),hSc (hAt hW [22]),0,[],.none,.none,.none,.none,none,.none,.none,0⟩, #[]⟩
noncomputable def ho179 : Obj := ⟨.type "code",none,.fields #[.str (hs "commonpath") 491,.str (hs "commonpath") 492,.str (hs "/claim/cut.py") 493,.int (182) 0,.int (1) 0,.int (0) 0,.int (0) 0,.int (3) 0,.ref 176,.bool true,.int (276) 0,.ref 177,.none,.none,.none,.ref 178,.int (494) 0,.int (182) 0,.str (hs "/claim/cut.py") 495], #[]⟩
noncomputable def ho180 : Obj := ⟨.type "function",none,.func ⟨hs "commonpath",hs "commonpath",hPs (hAt hW [22]),.stmts (hBd (hAt hW [22])),hSc (hAt hW [22]),3,[],.none,.none,.none,.str (hs "cpy313.posixpath") 412,none,.ref 179,.none,0⟩, #[]⟩
noncomputable def ho181 : Obj := ⟨.type "list",none,.seq #[.int (14) 500,.int (14) 501,.int (4) 502,.int (1) 503,.int (1) 504,.int (9) 505,.int (0) 506,.int (64) 507,.int (0) 508,.int (1342177280) 509,.int (0) 510,.int (0) 511,.int (0) 512,.int (0) 513,.int (0) 514,.int (17) 515,.int (0) 516,.int (13) 517,.int (11) 518,.int (9) 519,.int (0) 520,.int (64) 521,.int (0) 522,.int (1342177280) 523,.int (0) 524,.int (0) 525,.int (0) 526,.int (0) 527,.int (0) 528,.int (17) 529,.int (1) 530,.int (1) 531] 0, #[]⟩
noncomputable def ho182 : Obj := ⟨.type "dict",none,.dict #[] 0, #[]⟩
noncomputable def ho183 : Obj := tuO #[.none,.none]
noncomputable def ho184 : Obj := tuO #[.int (14) 0,.int (14) 0,.int (4) 0,.int (1) 0,.int (1) 0,.int (9) 0,.int (0) 0,.int (64) 0,.int (0) 0,.int (1342177280) 0,.int (0) 0,.int (0) 0,.int (0) 0,.int (0) 0,.int (0) 0,.int (17) 0,.int (0) 0,.int (13) 0,.int (11) 0,.int (9) 0,.int (0) 0,.int (64) 0,.int (0) 0,.int (1342177280) 0,.int (0) 0,.int (0) 0,.int (0) 0,.int (0) 0,.int (0) 0,.int (17) 0,.int (1) 0,.int (1) 0]
noncomputable def ho185 : Obj := ⟨.type "re.Pattern",none,.fields #[.str (hs "([&~|])") 498,.int (32) 533,.int (1) 0,.none,.none,.ref 184,.int (0) 0], #[]⟩
noncomputable def ho186 : Obj := ⟨.type "bytes_iterator",none,.fields #[.none,.int (24) 0], #[]⟩
noncomputable def ho187 : Obj := ⟨.type "dict",none,.dict #[⟨40,.int (40) 538,.str (hs "\\(") 542⟩,⟨41,.int (41) 544,.str (hs "\\)") 548⟩,⟨91,.int (91) 550,.str (hs "\\[") 554⟩,⟨93,.int (93) 556,.str (hs "\\]") 560⟩,⟨123,.int (123) 562,.str (hs "\\{") 566⟩,⟨125,.int (125) 568,.str (hs "\\}") 572⟩,⟨63,.int (63) 574,.str (hs "\\?") 578⟩,⟨42,.int (42) 580,.str (hs "\\*") 584⟩,⟨43,.int (43) 586,.str (hs "\\+") 590⟩,⟨45,.int (45) 592,.str (hs "\\-") 596⟩,⟨124,.int (124) 598,.str (hs "\\|") 602⟩,⟨94,.int (94) 604,.str (hs "\\^") 608⟩,⟨36,.int (36) 610,.str (hs "\\$") 614⟩,⟨92,.int (92) 616,.str (hs "\\\\") 620⟩,⟨46,.int (46) 622,.str (hs "\\.") 626⟩,⟨38,.int (38) 628,.str (hs "\\&") 632⟩,⟨126,.int (126) 634,.str (hs "\\~") 638⟩,⟨35,.int (35) 640,.str (hs "\\#") 644⟩,⟨32,.int (32) 646,.str (hs "\\ ") 650⟩,⟨9,.int (9) 652,.str ((⟨#[92,9]⟩ : PySem.Str)) 656⟩,⟨10,.int (10) 658,.str ((⟨#[92,10]⟩ : PySem.Str)) 662⟩,⟨13,.int (13) 664,.str ((⟨#[92,13]⟩ : PySem.Str)) 668⟩,⟨11,.int (11) 670,.str ((⟨#[92,11]⟩ : PySem.Str)) 674⟩,⟨12,.int (12) 676,.str ((⟨#[92,12]⟩ : PySem.Str)) 680⟩] 24, #[]⟩
noncomputable def ho188 : Obj := ⟨.type "dict",none,.dict #[] 2, #[]⟩
noncomputable def ho189 : Obj := tuO #[]
noncomputable def ho190 : Obj := ⟨.type "StopIteration",none,.fields #[.ref 189,.none,.none,.none,.bool false,.none], #[]⟩
noncomputable def ho191 : Obj := tuO #[]
noncomputable def ho192 : Obj := ⟨.none,none,.fields #[], #[]⟩
noncomputable def ho193 : Obj := tuO #[.str (hs "pattern") 686]
noncomputable def ho194 : Obj := tuO #[]
noncomputable def ho195 : Obj := ⟨.none,none,.func ⟨hs "escape",hs "escape",hPs (hAt hW [26]),.stmts (hBd (hAt hW [26])),hSc (hAt hW [26]),0,[],.none,.none,.none,.none,none,.none,.none,0⟩, #[]⟩
noncomputable def ho196 : Obj := ⟨.type "code",none,.fields #[.str (hs "escape") 683,.str (hs "escape") 684,.str (hs "/claim/cut.py") 685,.int (214) 0,.int (1) 0,.int (0) 0,.int (0) 0,.int (3) 0,.ref 191,.bool true,.int (276) 0,.ref 192,.none,.ref 193,.ref 194,.ref 195,.int (687) 0,.int (214) 0,.str (hs "/claim/cut.py") 688], #[]⟩
noncomputable def ho197 : Obj := ⟨.type "function",none,.func ⟨hs "escape",hs "escape",hPs (hAt hW [26]),.stmts (hBd (hAt hW [26])),hSc (hAt hW [26]),3,[],.none,.none,.none,.str (hs "re") 535,none,.ref 196,.none,0⟩, #[]⟩
noncomputable def ho198 : Obj := tuO #[]
noncomputable def ho199 : Obj := ⟨.none,none,.fields #[], #[]⟩
noncomputable def ho200 : Obj := tuO #[.str (hs "pat") 695,.str (hs "STAR") 696,.str (hs "QUESTION_MARK") 697,.str (hs "res") 698,.str (hs "add") 699,.str (hs "i") 700,.str (hs "n") 701,.str (hs "c") 702,.str (hs "j") 703,.str (hs "stuff") 704,.str (hs "chunks") 705,.str (hs "k") 706,.str (hs "chunk") 707]
noncomputable def ho201 : Obj := tuO #[]
noncomputable def ho202 : Obj := ⟨.none,none,.func ⟨hs "_translate",hs "_translate",hPs (hAt hW [28]),.stmts (hBd (hAt hW [28])),hSc (hAt hW [28]),0,[],.none,.none,.none,.none,none,.none,.none,0⟩, #[]⟩
noncomputable def ho203 : Obj := ⟨.type "code",none,.fields #[.str (hs "_translate") 692,.str (hs "_translate") 693,.str (hs "/claim/cut.py") 694,.int (221) 0,.int (3) 0,.int (0) 0,.int (0) 0,.int (3) 0,.ref 198,.bool true,.int (276) 0,.ref 199,.none,.ref 200,.ref 201,.ref 202,.int (708) 0,.int (221) 0,.str (hs "/claim/cut.py") 709], #[]⟩
noncomputable def ho204 : Obj := ⟨.type "function",none,.func ⟨hs "_translate",hs "_translate",hPs (hAt hW [28]),.stmts (hBd (hAt hW [28])),hSc (hAt hW [28]),3,[],.none,.none,.none,.str (hs "cpy313.fnmatch") 690,none,.ref 203,.none,0⟩, #[]⟩
noncomputable def ho205 : Obj := tuO #[]
noncomputable def ho206 : Obj := ⟨.none,none,.fields #[], #[]⟩
noncomputable def ho207 : Obj := tuO #[.str (hs "part") 716,.str (hs "sign") 717,.str (hs "body") 718,.str (hs "barred") 719,.str (hs "k") 720,.str (hs "found") 721,.str (hs "low") 722,.str (hs "high") 723]
noncomputable def ho208 : Obj := tuO #[]
noncomputable def ho209 : Obj := ⟨.none,none,.func ⟨hs "_law_one",hs "_law_one",hPs (hAt hW [30]),.stmts (hBd (hAt hW [30])),hSc (hAt hW [30]),0,[],.none,.none,.none,.none,none,.none,.none,0⟩, #[]⟩
noncomputable def ho210 : Obj := ⟨.type "code",none,.fields #[.str (hs "_law_one") 713,.str (hs "_law_one") 714,.str (hs "/claim/cut.py") 715,.int (284) 0,.int (2) 0,.int (0) 0,.int (0) 0,.int (3) 0,.ref 205,.bool true,.int (276) 0,.ref 206,.none,.ref 207,.ref 208,.ref 209,.int (724) 0,.int (284) 0,.str (hs "/claim/cut.py") 725], #[]⟩
noncomputable def ho211 : Obj := ⟨.type "function",none,.func ⟨hs "_law_one",hs "_law_one",hPs (hAt hW [30]),.stmts (hBd (hAt hW [30])),hSc (hAt hW [30]),3,[],.none,.none,.none,.str (hs "law_dn0069_09") 711,none,.ref 210,.none,0⟩, #[]⟩
noncomputable def ho212 : Obj := tuO #[]
noncomputable def ho213 : Obj := ⟨.none,none,.fields #[], #[]⟩
noncomputable def ho214 : Obj := ⟨.none,none,.func ⟨hs "_law_takes",hs "_law_takes",hPs (hAt hW [31]),.stmts (hBd (hAt hW [31])),hSc (hAt hW [31]),0,[],.none,.none,.none,.none,none,.none,.none,0⟩, #[]⟩
noncomputable def ho215 : Obj := ⟨.type "code",none,.fields #[.str (hs "_law_takes") 727,.str (hs "_law_takes") 728,.str (hs "/claim/cut.py") 729,.int (308) 0,.int (3) 0,.int (0) 0,.int (0) 0,.int (3) 0,.ref 212,.bool true,.int (276) 0,.ref 213,.none,.none,.none,.ref 214,.int (730) 0,.int (308) 0,.str (hs "/claim/cut.py") 731], #[]⟩
noncomputable def ho216 : Obj := ⟨.type "function",none,.func ⟨hs "_law_takes",hs "_law_takes",hPs (hAt hW [31]),.stmts (hBd (hAt hW [31])),hSc (hAt hW [31]),3,[],.none,.none,.none,.str (hs "law_dn0069_09") 711,none,.ref 215,.none,0⟩, #[]⟩
noncomputable def ho217 : Obj := tuO #[]
noncomputable def ho218 : Obj := ⟨.none,none,.fields #[], #[]⟩
noncomputable def ho219 : Obj := ⟨.none,none,.func ⟨hs "_law_means",hs "_law_means",hPs (hAt hW [32]),.stmts (hBd (hAt hW [32])),hSc (hAt hW [32]),0,[],.none,.none,.none,.none,none,.none,.none,0⟩, #[]⟩
noncomputable def ho220 : Obj := ⟨.type "code",none,.fields #[.str (hs "_law_means") 733,.str (hs "_law_means") 734,.str (hs "/claim/cut.py") 735,.int (316) 0,.int (2) 0,.int (0) 0,.int (0) 0,.int (3) 0,.ref 217,.bool true,.int (276) 0,.ref 218,.none,.none,.none,.ref 219,.int (736) 0,.int (316) 0,.str (hs "/claim/cut.py") 737], #[]⟩
noncomputable def ho221 : Obj := ⟨.type "function",none,.func ⟨hs "_law_means",hs "_law_means",hPs (hAt hW [32]),.stmts (hBd (hAt hW [32])),hSc (hAt hW [32]),3,[],.none,.none,.none,.str (hs "law_dn0069_09") 711,none,.ref 220,.none,0⟩, #[]⟩
noncomputable def ho222 : Obj := tuO #[]
noncomputable def ho223 : Obj := ⟨.none,none,.fields #[], #[]⟩
noncomputable def ho224 : Obj := tuO #[.str (hs "code") 742,.str (hs "pieces") 743]
noncomputable def ho225 : Obj := tuO #[]
noncomputable def ho226 : Obj := ⟨.none,none,.func ⟨hs "_law_dressed",hs "_law_dressed",hPs (hAt hW [33]),.stmts (hBd (hAt hW [33])),hSc (hAt hW [33]),0,[],.none,.none,.none,.none,none,.none,.none,0⟩, #[]⟩
noncomputable def ho227 : Obj := ⟨.type "code",none,.fields #[.str (hs "_law_dressed") 739,.str (hs "_law_dressed") 740,.str (hs "/claim/cut.py") 741,.int (322) 0,.int (1) 0,.int (0) 0,.int (0) 0,.int (3) 0,.ref 222,.bool true,.int (276) 0,.ref 223,.none,.ref 224,.ref 225,.ref 226,.int (744) 0,.int (322) 0,.str (hs "/claim/cut.py") 745], #[]⟩
noncomputable def ho228 : Obj := ⟨.type "function",none,.func ⟨hs "_law_dressed",hs "_law_dressed",hPs (hAt hW [33]),.stmts (hBd (hAt hW [33])),hSc (hAt hW [33]),3,[],.none,.none,.none,.str (hs "law_dn0069_09") 711,none,.ref 227,.none,0⟩, #[]⟩
noncomputable def ho229 : Obj := tuO #[]
noncomputable def ho230 : Obj := ⟨.none,none,.fields #[], #[]⟩
noncomputable def ho231 : Obj := ⟨.none,none,.func ⟨hs "law",hs "law",hPs (hAt hW [34]),.stmts (hBd (hAt hW [34])),hSc (hAt hW [34]),0,[],.none,.none,.none,.none,none,.none,.none,0⟩, #[]⟩
noncomputable def ho232 : Obj := ⟨.type "code",none,.fields #[.str (hs "law") 747,.str (hs "law") 748,.str (hs "/claim/cut.py") 749,.int (325) 0,.int (1) 0,.int (0) 0,.int (0) 0,.int (3) 0,.ref 229,.bool true,.int (276) 0,.ref 230,.none,.none,.none,.ref 231,.int (750) 0,.int (325) 0,.str (hs "/claim/cut.py") 751], #[]⟩
noncomputable def ho233 : Obj := ⟨.type "function",none,.func ⟨hs "law",hs "law",hPs (hAt hW [34]),.stmts (hBd (hAt hW [34])),hSc (hAt hW [34]),3,[],.none,.none,.none,.str (hs "law_dn0069_09") 711,none,.ref 232,.none,0⟩, #[]⟩
noncomputable def hp34 : Heap := ⟨Array.mk [boot_o_0 P,ho1 P,ho2 P,ho3xxx P,boot_o_4 P,boot_o_5 P,boot_o_6 P,boot_o_7 P,boot_o_8 P,boot_o_9 P,boot_o_10 P,ho11 P,ho12,ho13 P,ho14,ho15,ho16,ho17,ho18,ho19,ho20 P,ho21 P,ho22,ho23,ho24,ho25,ho26,ho27,ho28,ho29xx,ho30,ho31,ho32,ho33,ho34,ho35,ho36,ho37,ho38,ho39,ho40,ho41,ho42,ho43,ho44,ho45,ho46,ho47,ho48 P,ho49,ho50,ho51,ho52,ho53,ho54,ho55,ho56,ho57,ho58,ho59,ho60,ho61 P,ho62,ho63,ho64,ho65,ho66,ho67 P,ho68,ho69,ho70,ho71,ho72,ho73,ho74,ho75,ho76,ho77,ho78,ho79,ho80,ho81,ho82,ho83,ho84,ho85,ho86,ho87,ho88,ho89,ho90,ho91,ho92,ho93,ho94 P,ho95,ho96,ho97,ho98,ho99,ho100,ho101,ho102,ho103,ho104,ho105,ho106,ho107,ho108,ho109,ho110,ho111,ho112,ho113,ho114,ho115,ho116,ho117,ho118,ho119,ho120,ho121,ho122,ho123,ho124,ho125,ho126,ho127,ho128,ho129,ho130,ho131,ho132,ho133,ho134,ho135,ho136,ho137,ho138,ho139,ho140,ho141,ho142,ho143,ho144,ho145,ho146,ho147,ho148,ho149,ho150,ho151,ho152,ho153,ho154,ho155,ho156,ho157,ho158,ho159,ho160,ho161,ho162,ho163,ho164,ho165,ho166,ho167,ho168,ho169,ho170,ho171,ho172,ho173,ho174,ho175,ho176,ho177,ho178,ho179,ho180,ho181,ho182,ho183,ho184,ho185,ho186,ho187,ho188,ho189,ho190,ho191,ho192,ho193,ho194,ho195,ho196,ho197,ho198,ho199,ho200,ho201,ho202,ho203,ho204,ho205,ho206,ho207,ho208,ho209,ho210,ho211,ho212,ho213,ho214,ho215,ho216,ho217,ho218,ho219,ho220,ho221,ho222,ho223,ho224,ho225,ho226,ho227,ho228,ho229,ho230,ho231,ho232,ho233],{ }⟩
noncomputable def zk : Frag := [(2,ho2 P),(3,ho3xxx P),(110,ho110),(111,ho111),(117,ho117),(118,ho118),(131,ho131),(132,ho132),(138,ho138),(139,ho139),(145,ho145),(146,ho146),(152,ho152),(153,ho153),(159,ho159),(160,ho160),(166,ho166),(167,ho167),(168,ho168),(174,ho174),(175,ho175),(179,ho179),(180,ho180),(184,ho184),(185,ho185),(187,ho187),(196,ho196),(197,ho197),(199,ho199),(203,ho203),(204,ho204),(210,ho210),(211,ho211),(215,ho215),(216,ho216),(220,ho220),(221,ho221),(227,ho227),(228,ho228),(232,ho232),(233,ho233)]
noncomputable abbrev zas : List Addr := [2,3,110,111,117,118,131,132,138,139,145,146,152,153,159,160,166,167,168,174,175,179,180,184,185,187,196,197,199,203,204,210,211,215,216,220,221,227,228,232,233]
theorem zkeys (P : Params) : zas = (zk P).map (·.1) := rfl
noncomputable abbrev hPr : Program := PySem.Challenge.rw_dn0069_09.row.prog
noncomputable abbrev hB : List Stmt := behindTheImports hPr
noncomputable def hEnv : Env := { scope := hPr.main.scope,locals := mainNs,globals := mainNs,cells := [],code := PySem.Value.ref 30,frame := some 31 }
noncomputable abbrev hC : Code := .body hB hEnv
theorem hpre (w : World) (os : OsState) : topGo treeTable hPr w 28 (some (PySem.Value.ref 6)) 12 (⟨hp0 (w).params,Array.mk [],{ },276,os⟩ : Shared) (topStub hPr) = some ((⟨hp_pre (w).params,Array.mk [],{ },282,os⟩ : Shared),⟨denote treeTable hC,hC,{ line := 0,col := 0,endLine := 0,endCol := 0 },[topFrame ({ line := 0,col := 0,endLine := 0,endCol := 0 } : Pos)]⟩) := by kernel_rfl
theorem hblock (w : World) (os : OsState) : segRun treeTable hPr w 28 (some (PySem.Value.ref 6)) 1 (0 + 1) (⟨hp_pre (w).params,Array.mk [],{ },282,os⟩ : Shared) (blockOf hB hEnv hC { line := 0,col := 0,endLine := 0,endCol := 0 } [topFrame ({ line := 0,col := 0,endLine := 0,endCol := 0 } : Pos)]) = some (.next,(⟨hp_pre (w).params,Array.mk [],{ },282,os⟩ : Shared),hC,{ line := 0,col := 0,endLine := 0,endCol := 0 }) := by kernel_rfl
theorem hseg3 (w : World) : ∀ os : OsState,segRun treeTable hPr (w) 28 (some (PySem.Value.ref 6)) 1 (69 + 1) (⟨hp_pre (w).params,Array.mk [],{ },282,os⟩ : Shared) (piecesOf ((hB.drop 0).take 3) hEnv hC { line := 0,col := 0,endLine := 0,endCol := 0 } [topFrame ({ line := 0,col := 0,endLine := 0,endCol := 0 } : Pos)]) = some (.next,(⟨hp3 (w).params,Array.mk [],{ },300,os⟩ : Shared),hC,{ line := 6,col := 0,endLine := 10,endCol := 12 }) := by
 intro os; kernel_rfl
theorem hseg4 (w : World) : ∀ os : OsState,segRun treeTable hPr (w) 28 (some (PySem.Value.ref 6)) 1 (9 + 1) (⟨hp3 (w).params,Array.mk [],{ },300,os⟩ : Shared) (piecesOf ((hB.drop 3).take 1) hEnv hC { line := 6,col := 0,endLine := 10,endCol := 12 } [topFrame ({ line := 0,col := 0,endLine := 0,endCol := 0 } : Pos)]) = some (.next,(⟨hp4 (w).params,Array.mk [],{ },302,os⟩ : Shared),hC,{ line := 11,col := 0,endLine := 11,endCol := 8 }) := by
 intro os; kernel_rfl
theorem rows2 (r0 r1 : String) {P : World → Prop} (h00 : ∀ w : World,P ((w.withFollow r1 false).withFollow r0 false)) (h01 : ∀ w : World,P ((w.withFollow r1 true).withFollow r0 false)) (h10 : ∀ w : World,P ((w.withFollow r1 false).withFollow r0 true)) (h11 : ∀ w : World,P ((w.withFollow r1 true).withFollow r0 true)) : ∀ w,P w := (fun w => byRow2 r0 (P := fun w => P w) (fun w => byRow2 r1 (P := fun w => P (w.withFollow r0 false)) h00 h01 w) (fun w => byRow2 r1 (P := fun w => P (w.withFollow r0 true)) h10 h11 w) w)
noncomputable abbrev hS34 (w : World) : Prop := ∀ os : OsState,segRun treeTable hPr (w) 28 (some (PySem.Value.ref 6)) 1 (2513 + 1) (⟨hp4 (w).params,Array.mk [],{ },302,os⟩ : Shared) (piecesOf ((hB.drop 4).take 30) hEnv hC { line := 11,col := 0,endLine := 11,endCol := 8 } [topFrame ({ line := 0,col := 0,endLine := 0,endCol := 0 } : Pos)]) = some (.next,(⟨hp34 (w).params,Array.mk [],{ },753,os⟩ : Shared),hC,{ line := 325,col := 0,endLine := 382,endCol := 15 })
theorem zjs (w : World) : hS34 (World.withFollow (World.withFollow w "special-get-raises" false) "comprehension-iter-twice" false) := by
 intro os; kernel_rfl
theorem zjr (w : World) : hS34 (World.withFollow (World.withFollow w "special-get-raises" true) "comprehension-iter-twice" false) := by
 intro os; kernel_rfl
theorem zjq (w : World) : hS34 (World.withFollow (World.withFollow w "special-get-raises" false) "comprehension-iter-twice" true) := by
 intro os; kernel_rfl
theorem zjp (w : World) : hS34 (World.withFollow (World.withFollow w "special-get-raises" true) "comprehension-iter-twice" true) := by
 intro os; kernel_rfl
theorem hseg34 (w : World) : ∀ os : OsState,segRun treeTable hPr (w) 28 (some (PySem.Value.ref 6)) 1 (2513 + 1) (⟨hp4 (w).params,Array.mk [],{ },302,os⟩ : Shared) (piecesOf ((hB.drop 4).take 30) hEnv hC { line := 11,col := 0,endLine := 11,endCol := 8 } [topFrame ({ line := 0,col := 0,endLine := 0,endCol := 0 } : Pos)]) = some (.next,(⟨hp34 (w).params,Array.mk [],{ },753,os⟩ : Shared),hC,{ line := 325,col := 0,endLine := 382,endCol := 15 }) := rows2 "comprehension-iter-twice" "special-get-raises" (P := hS34) zjs zjr zjq zjp w
theorem hfin (w : World) (os : OsState) : topRun treeTable hPr w 28 (some (PySem.Value.ref 6)) (1 + 1) (⟨hp34 (w).params,Array.mk [],{ },753,os⟩ : Shared) (restOf [] hEnv hC { line := 325,col := 0,endLine := 382,endCol := 15 } [topFrame ({ line := 0,col := 0,endLine := 0,endCol := 0 } : Pos)]) = some (⟨hp34 (w).params,Array.mk [],{ },753,os⟩ : Shared) := by kernel_rfl
theorem hcat : hB = (((hB.drop 0).take 3) ++ (((hB.drop 3).take 1) ++ (((hB.drop 4).take 30) ++ []))) := by kernel_rfl
theorem hrun (w : World) (os : OsState) : topRun treeTable hPr w 28 (some (PySem.Value.ref 6)) (12 + ((0 + 1) + ((69 + 1) + ((9 + 1) + ((2513 + 1) + (1 + 1)))))) (⟨hp0 (w).params,Array.mk [],{ },276,os⟩ : Shared) (topStub hPr) = some (⟨hp34 (w).params,Array.mk [],{ },753,os⟩ : Shared) := by
 have k := (piece_app (hseg3 w os) (piece_app (hseg4 w os) (piece_app (hseg34 w os) (hfin w os))))
 rw [← hcat] at k
 exact go_top (hpre w os) (piece_block (hblock w os) k)
theorem hsize (w : World) : ((hp0 w.params).isNs mainGlobals && (Array.mk [] : Array GenState).size == 0,(hp0 w.params).objs.size,(hp0 w.params).nsMap mainGlobals "__annotations__") = (true,28,(some (PySem.Value.ref 6) : Option PySem.Value)) := by kernel_rfl
theorem hlooks (w : World) : (fun os => ((staticsOk (importedModules hPr.main.body) (hp0 w.params) (hp34 w.params) && namesBound hPr (hp34 w.params) && gensDone (⟨hp34 (w).params,Array.mk [],{ },753,os⟩ : Shared) && laidKept (hp0 w.params) (hp34 w.params)),openSeen view09 [PySem.Str.ofString "relpath",PySem.Str.ofString "_twin_re_1",PySem.Str.ofString "_special_chars_map"] (importedModules hPr.main.body) (fun s => xlAt view09 [] s && recOk (RowW.records PySem.Challenge.rw_dn0069_09.row.toRowW) s) true (⟨hp34 (w).params,Array.mk [],{ },753,os⟩ : Shared),obsZ zas (⟨hp34 (w).params,Array.mk [],{ },753,os⟩ : Shared))) = fun _ => (true,openGood view09 [PySem.Str.ofString "relpath",PySem.Str.ofString "_twin_re_1",PySem.Str.ofString "_special_chars_map"],valZ zk 234 753 w) := by kernel_rfl
theorem hopen (w : World) : (fencedOpening treeTable hPr w 5308).map (fun s => (s.heap,s.gens,s.drawn,s.toks)) = some (hp0 w.params,Array.mk [],{ },276) := by kernel_rfl
theorem said09 : PySem.Challenge.rw_dn0069_09.wellSaid = true := by
 kernel_rfl
theorem hleft : LeftO hPr view09 [PySem.Str.ofString "relpath",PySem.Str.ofString "_twin_re_1",PySem.Str.ofString "_special_chars_map"] (fun s => xlAt view09 [] s && recOk (RowW.records PySem.Challenge.rw_dn0069_09.row.toRowW) s) (obsZ zas) (valZ zk 234 753) 5308 := LeftO.of_pieces (H₀ := hp0) (H₁ := hp34) (gs₀ := Array.mk []) (gs₁ := Array.mk []) (d₀ := { }) (d₁ := { }) (k₀ := 276) (k₁ := 753) (m₀ := 28) (ann := some (PySem.Value.ref 6)) (M := (12 + ((0 + 1) + ((69 + 1) + ((9 + 1) + ((2513 + 1) + (1 + 1))))))) hopen hsize hrun (by kernel_rfl) hlooks
end Mine
end H09x
section
open PySem
namespace Mine
noncomputable abbrev lobj (vs : Array Value) (n : Nat) : Obj := { cls := .type "list",data := .seq vs n }
noncomputable abbrev tobj (vs : Array Value) (n : Nat) : Obj := { cls := .type "tuple",data := .seq vs n }
noncomputable abbrev appObj (a : Addr) : Obj := { cls := .type "builtin_function_or_method",data := .fields #[.builtin "list.append",.ref a] }
theorem zcL : builtinKind "issubclass.nested" = none := by decide +kernel
theorem zcq : plainId "issubclass.nested" = true := by decide +kernel
theorem zch (a b c : Value) : argsOk "issubclass.nested" ⟨[a,b,c],[]⟩ := by unfold argsOk; kernel_rfl
theorem zfv : isSubtype (.type "str") (.type "str") = pure true := by rw [isSubtype_type]; kernel_rfl
section
variable {prog : Program} {w : World} {A : Around} {E : VP}
theorem zdd (dep : Int) (tk : Tok) : Meets (Builtin.«issubclass.nested» ⟨[.type "str",.type "str",.int dep tk],[]⟩) (fun _ R s => R (.ok (.ret (.bool true))) s) :=
 .of_wp fun prog w A R s h => by
  obtain ⟨hh,g,d,t,os⟩ := s
  have f1 := zfv
  have f2 : typeOf (.type "str") = pure (.type "type") := rfl
  repeat (any_goals (first | assumption | (rw [f1]) | wp_step))
  all_goals exact ⟨_,rfl,h⟩
theorem zcA {tp : Addr} {c2 : Value} {n : Nat} {tk : Tok} {s : Shared} {Q : Fin → Shared → Prop} (htp : s.heap.get? tp = some { cls := .type "tuple",data := .seq [Value.type "str",c2].toArray n })
  (hq : ∀ tk',Q (.done (.ret (.bool true))) { s with toks := tk' }) : wpAny (model prog w) A (Builtin.«issubclass.nested» ⟨[.type "str",.ref tp,.int 0 tk],[]⟩) Q E s := by
 obtain ⟨h,g,d,t,os⟩ := s
 have hT2 : (⟨h,g,d,t,os⟩ : Shared).TypeIs (.ref tp) "tuple" := ⟨_,htp,rfl⟩
 have f1 := F.isi_sub_tuple
 repeat (any_goals (first | assumption | ((with_reducible show wpAny _ _ (call (Value.builtin "issubclass.nested") _ _) _ _ _); refine call_function_meets zcL zcq F.entry_issubclass_nested (zch _ _ _) (zdd _ _) ?_) | wp_step))
 exact hq _
theorem zde {tp : Addr} {c2 : Value} {n : Nat} {s : Shared} {Q : VP} (htp : s.heap.get? tp = some { cls := .type "tuple",data := .seq [Value.type "str",c2].toArray n })
  (hq : ∀ tk',Q (.bool true) { s with toks := tk' }) : wpAny (model prog w) A (call (.builtin "issubclass") [.type "str",.ref tp]) Q E s := by
 have g : Meets (Builtin.«issubclass» ⟨[.type "str",.ref tp],[]⟩) (fun _ R s => s.heap.get? tp = some { cls := .type "tuple",data := .seq [Value.type "str",c2].toArray n } ∧ ∀ tk',R (.ok (.ret (.bool true))) { s with toks := tk' }) :=
  fun _ _ _ _ _ hs => PyProof.Rows.issubclass_outer (zcA hs.1 fun tk' => hs.2 tk')
 exact PyProof.Rows.call_issubclass g ⟨htp,fun tk' => hq tk'⟩
end
theorem zfw : isSubtype (.type "str") (.type "list") = pure false := by rw [isSubtype_type]; kernel_rfl
theorem zeQ : isSubtype (.type "str") (.type "tuple") = pure false := by rw [isSubtype_type]; kernel_rfl
theorem zd7 : isSubtype (.type "list") (.type "list") = pure true := by rw [isSubtype_type]; kernel_rfl
section
variable {prog : Program} {w : World} {A : Around} {E : VP}
theorem zcB {x : Str} {u : Tok} {T : String} (hne : (Value.type "str" == Value.type T) = false) (hty : typeOf (.type T) = pure (.type "type")) (hsub : isSubtype (.type "str") (.type T) = pure false) (dep : Int) (tk : Tok) :
  Meets (Builtin.«isinstance.nested» ⟨[.str x u,.type T,.int dep tk],[]⟩) (fun _ R s => ∀ tk',R (.ok (.ret (.bool false))) { s with toks := tk' }) :=
 .of_wp fun prog w A R s h => by
  obtain ⟨hh,g,d,t,os⟩ := s
  exact isinstance_nested_false_str hne hty hsub ⟨_,rfl,h _⟩
theorem zfc {a : Addr} {vs : Array Value} {n : Nat} (dep : Int) (tk : Tok) :
  Meets (Builtin.«isinstance.nested» ⟨[.ref a,.type "list",.int dep tk],[]⟩) (fun _ R s => s.heap.get? a = some (lobj vs n) ∧ ∀ tk',R (.ok (.ret (.bool true))) { s with toks := tk' }) :=
 .of_wp fun prog w A R s h => by
  obtain ⟨hh,g,d,t,os⟩ := s
  obtain ⟨hl,h⟩ := h
  have hT : (⟨hh,g,d,t,os⟩ : Shared).TypeIs (.ref a) "list" := ⟨_,hl,rfl⟩
  refine isinstance_nested_true rfl hT rfl zd7 ⟨_,rfl,h _⟩
set_option maxHeartbeats 4000000 in
theorem zfb {x : Str} {u : Tok} {tp : Addr} {n : Nat} {tk : Tok} {s : Shared} {Q : Fin → Shared → Prop} (htp : s.heap.get? tp = some { cls := .type "tuple",data := .seq [Value.type "list",Value.type "tuple"].toArray n })
  (hq : ∀ tk',Q (.done (.ret (.bool false))) { s with toks := tk' }) : wpAny (model prog w) A (Builtin.«isinstance.nested» ⟨[.str x u,.ref tp,.int 0 tk],[]⟩) Q E s := by
 obtain ⟨h,g,d,t,os⟩ := s
 have hT2 : (⟨h,g,d,t,os⟩ : Shared).TypeIs (.ref tp) "tuple" := ⟨_,htp,rfl⟩
 have hx : ∀ t',(⟨h,g,d,t',os⟩ : Shared).TypeIs (.str x u) "str" := fun _ => rfl
 have f1 := F.isi_sub_tuple
 have k1 := fun tk => zcB (x := x) (u := u) (T := "list") (by decide) rfl zfw 1 tk
 have k2 := fun tk => zcB (x := x) (u := u) (T := "tuple") (by decide) rfl zeQ 1 tk
 repeat (any_goals (first | assumption | exact hx _ | ((with_reducible show wpAny _ _ (call (Value.builtin "isinstance.nested") _ _) _ _ _); refine call_function_meets F.kind_isinstance_nested F.plain_isinstance_nested F.entry_isinstance_nested (F.args_isinstance_nested_3 _ _ _) (by first | exact k1 _ | exact k2 _) (fun tk' => ?_)) | wp_step))
 all_goals exact hq _
theorem zei {a : Addr} {vs : Array Value} {k : Nat} {tp : Addr} {n : Nat} {c2 : Value} {tk : Tok} {s : Shared} {Q : Fin → Shared → Prop} (hl : s.heap.get? a = some (lobj vs k)) (htp : s.heap.get? tp = some { cls := .type "tuple",data := .seq [Value.type "list",c2].toArray n })
  (hq : ∀ tk',Q (.done (.ret (.bool true))) { s with toks := tk' }) : wpAny (model prog w) A (Builtin.«isinstance.nested» ⟨[.ref a,.ref tp,.int 0 tk],[]⟩) Q E s := by
 obtain ⟨h,g,d,t,os⟩ := s
 have hT2 : (⟨h,g,d,t,os⟩ : Shared).TypeIs (.ref tp) "tuple" := ⟨_,htp,rfl⟩
 have hx : ∀ t',(⟨h,g,d,t',os⟩ : Shared).TypeIs (.ref a) "list" := fun _ => ⟨_,hl,rfl⟩
 have f1 := F.isi_sub_tuple
 have k1 := fun tk => zfc (a := a) (vs := vs) (n := k) 1 tk
 repeat (any_goals (first | assumption | exact hx _ | ((with_reducible show wpAny _ _ (call (Value.builtin "isinstance.nested") _ _) _ _ _); refine call_function_meets F.kind_isinstance_nested F.plain_isinstance_nested F.entry_isinstance_nested (F.args_isinstance_nested_3 _ _ _) (k1 _) ⟨hl,fun tk' => ?_⟩) | wp_step))
 all_goals exact hq _
theorem zf3 {x : Str} {u : Tok} {tp : Addr} {n : Nat} {s : Shared} {Q : VP} (htp : s.heap.get? tp = some { cls := .type "tuple",data := .seq [Value.type "list",Value.type "tuple"].toArray n })
  (hq : ∀ tk',Q (.bool false) { s with toks := tk' }) : wpAny (model prog w) A (call (.builtin "isinstance") [.str x u,.ref tp]) Q E s := by
 have g : Meets (Builtin.«isinstance» ⟨[.str x u,.ref tp],[]⟩) (fun _ R s => s.heap.get? tp = some { cls := .type "tuple",data := .seq [Value.type "list",Value.type "tuple"].toArray n } ∧ ∀ tk',R (.ok (.ret (.bool false))) { s with toks := tk' }) :=
  fun _ _ _ _ s hs => isinstance_outer (zfb hs.1 fun tk' => hs.2 tk') (Shared.TypeIs.not_mainsLoader (T := "str") (s := s) rfl)
 exact call_isinstance g ⟨htp,fun tk' => hq tk'⟩
theorem zfl {a : Addr} {vs : Array Value} {k : Nat} {tp : Addr} {n : Nat} {c2 : Value} {s : Shared} {Q : VP} (hl : s.heap.get? a = some (lobj vs k)) (htp : s.heap.get? tp = some { cls := .type "tuple",data := .seq [Value.type "list",c2].toArray n })
  (hq : ∀ tk',Q (.bool true) { s with toks := tk' }) : wpAny (model prog w) A (call (.builtin "isinstance") [.ref a,.ref tp]) Q E s := by
 have g : Meets (Builtin.«isinstance» ⟨[.ref a,.ref tp],[]⟩) (fun _ R s => s.heap.get? a = some (lobj vs k) ∧ s.heap.get? tp = some { cls := .type "tuple",data := .seq [Value.type "list",c2].toArray n } ∧ ∀ tk',R (.ok (.ret (.bool true))) { s with toks := tk' }) :=
  fun _ _ _ _ s hs => isinstance_outer (zei hs.1 hs.2.1 fun tk' => hs.2.2 tk') (Shared.TypeIs.not_mainsLoader (T := "list") (s := s) ⟨_,hs.1,rfl⟩)
 exact call_isinstance g ⟨hl,htp,fun tk' => hq tk'⟩
end
section
variable {prog : Program} {w : World} {A : Around} {E : VP} {s : Shared}
theorem zgq {l : Addr} {items : Array Value} {n k : Nat} {i : Int} {t : Tok} {v : Value} {Q : Unit → Shared → Prop} (hl : s.heap.IsList l items) (ho : s.heap.get? l = some { cls := .type "list",dict := none,data := .seq items n,slots := #[] }) (hfit : Builtin.List.listFitsIndex i = true)
  (hj : seqIndex? i items.size = some k) (hk : k < items.size)
  (hQ : Q () { s with heap := s.heap.update l (Obj.mapSeq fun xs => xs.setIfInBounds k v) }) : wpAny (model prog w) A (setItem (.ref l) (.int i t) v) Q E s := by
 unfold setItem
 try with_reducible refine wpAny_holding ?_
 first | refine wb (wpAny_pure ?_) | skip
 refine wb (wpAny_sequenceKey hl.typeIs (by decide) ?_)
 refine wb (wpAny_callSpecial?_slot (name := Str.ofString "__setitem__") hl.typeIs slot_list_setitem
  (wpAny_call_entry slot_list_setitem hl.typeIs entry_list_setitem ?_ (args_list_setitem _ _ _)))
 show wpAny _ _ (Builtin.List.listSubscript? (.int i t) >>= _) _ _ s
 refine wb (wpAny_listSubscript_int hfit ?_)
 clear hfit
 have hx' : items[k]? = some items[k] := Array.getElem?_eq_getElem hk
 cases i with
 | ofNat j =>
  have ejk : j = k := by
   unfold seqIndex? at hj
   simp at hj
   split at hj <;> omega
  subst ejk
  show wpAny _ _ ((seqItemAt l j >>= fun r => pure (r.map (j, ·))) >>= _) _ _ s
  refine wb (wb (wpAny_seqItemAt ho rfl (wpAny_pure ?_)))
  rw [hx']
  show wpAny _ _ (setSeqItemAt l j v >>= _) _ _ s
  refine wb (wpAny_setSeqItemAt ho rfl ?_)
  first
   | exact wb (wpAny_pure (wpAny_pure ⟨.none,rfl,wpAny_pure hQ⟩))
   | exact wpAny_pure ⟨.none,rfl,wpAny_pure hQ⟩
 | negSucc j =>
  show wpAny _ _ ((Builtin.List.listItems (.ref l) >>= fun xs => pure ((seqIndex? (Int.negSucc j) xs.size).bind fun j => xs[j]?.map (j, ·))) >>= _) _ _ s
  refine wb (wb ?_)
  unfold Builtin.List.listItems
  refine wb (wpAny_seqItems ho rfl (wpAny_pure (wpAny_pure ?_)))
  rw [hj,Option.bind_some,hx']
  show wpAny _ _ (setSeqItemAt l k v >>= _) _ _ s
  refine wb (wpAny_setSeqItemAt ho rfl ?_)
  first
   | exact wb (wpAny_pure (wpAny_pure ⟨.none,rfl,wpAny_pure hQ⟩))
   | exact wpAny_pure ⟨.none,rfl,wpAny_pure hQ⟩
end
theorem slot_md_get : PySem.Slot "method_descriptor" "__get__" "method_descriptor.__get__" :=
 PySem.Slot.of (owner := "method_descriptor") (n := "__get__") (by rw [typeLookup_type,builtinLookup_eq_fast]; kernel_rfl) (by decide +kernel) (by decide +kernel) (by decide +kernel)
  (by first | exact .inl (by decide +kernel) | exact .inr (by decide +kernel)) (by rw [isSubtype_type]; kernel_rfl)
theorem zfX : entryFor table "method_descriptor.__get__" = some Builtin.«method_descriptor.__get__» := entryFor_of_tree (by kernel_rfl)
theorem zfn (a b c : Value) : argsOk "method_descriptor.__get__" ⟨[a,b,c],[]⟩ := by unfold argsOk; kernel_rfl
theorem zja : typeLookup (.type "method_descriptor") "__set__" = pure none := by rw [typeLookup_type,builtinLookup_eq_fast]; kernel_rfl
theorem zfH : typeLookup (.type "method_descriptor") "__delete__" = pure none := by rw [typeLookup_type,builtinLookup_eq_fast]; kernel_rfl
theorem zgF : builtinKind "list.append" = some .method := by decide +kernel
theorem zdJ : isSubtype (.type "list") (.type "module") = pure false := by rw [isSubtype_type]; kernel_rfl
section
variable {prog : Program} {w : World} {A : Around} {E : VP} {s : Shared}
theorem zgP {l : Addr} {items : Array Value} {n : Nat} {x : Value} {Q : Unit → Shared → Prop} (hl : s.heap.get? l = some (lobj items n)) (h : Q () s) : wpAny (model prog w) A (checkBoundCall "list.append" ⟨[.ref l,x],[]⟩) Q E s := by
 obtain ⟨hp,g,d,tk,os⟩ := s
 have hT : (⟨hp,g,d,tk,os⟩ : Shared).TypeIs (.ref l) "list" := ⟨_,hl,rfl⟩
 have f1 := zdJ
 have f2 := zgF
 unfold checkBoundCall
 repeat (any_goals (first | assumption | wp_step))
theorem zim {b l : Addr} {items : Array Value} {n : Nat} {x : Value} {R : Result → Shared → Prop} (hb : s.heap.get? b = some (appObj l)) (hl : s.heap.get? l = some (lobj items n))
  (h : codeAny (model prog w) A (.builtin "list.append" ⟨[.ref l,x],[]⟩) R s) : codeAny (model prog w) A (.call (.ref b) ⟨[x],[]⟩) R s := by
 refine codeAny_of_tree ?_
 show wpAny _ _ (callAny (.ref b) _) _ _ _
 unfold callAny
 refine wb (wpAny_load hb ?_)
 refine wb (zgP hl ?_)
 exact wpAny_pure ⟨Code.quiet_builtin _ (by decide +kernel),h⟩
theorem zgV {l : Addr} {items : Array Value} {n : Nat} {x : Value} {R : Result → Shared → Prop} (hl : s.heap.get? l = some (lobj items n)) (hsz : items.size ≤ sizeLine)
  (h : R (.ok (.ret .none)) { s with heap := s.heap.update l (Obj.mapSeq fun y => y.push x) }) : codeAny (model prog w) A (.builtin "list.append" ⟨[.ref l,x],[]⟩) R s := by
 refine codeAny_builtin F.entry_list_append ?_
 exact list_append l items n x hsz prog w _ _ s ⟨hl,h⟩
theorem zfJ {b l : Addr} {Q : Keeper → Shared → Prop} (hb : s.heap.get? b = some (appObj l)) (h : Q .machine s) : wpAny (model prog w) A (keeperOf (.ref b)) Q E s := by
 unfold keeperOf
 exact wb (wpAny_load hb (wpAny_pure h))
theorem zep {b l : Addr} {pos : Pos} {args : List (Bool × Sem Value)} {Q : VP} (hplain : args.any (·.1) = false)
  (h : wpAny (model prog w) A (evalArgs (.ref b) true args []) (fun a s₁ => s₁.heap.get? b = some (appObj l) ∧ wpAny (model prog w) A (call (.ref b) a.pos a.kw) Q E s₁) E s) :
  wpAny (model prog w) A (callWith pos (.ref b) [] args []) Q E s := by
 unfold callWith
 refine wb (wpAny_holding (wpAny_mono h (fun a s₁ h₁ => wb (wpAny_standAt ?_)) fun _ _ x => x))
 simp only [hplain,List.any_nil,Bool.or_false]
 refine wb (zfJ h₁.1 ?_)
 exact wb (wpAny_mono h₁.2 (fun r s₂ hr => wb (wpAny_holding (wpAny_point (wpAny_pure hr)))) fun _ _ x => x)
theorem sub_list_list : isSubtype (.type "list") (.type "list") = pure true := by rw [isSubtype_type]; kernel_rfl
theorem zfG (l : Addr) (items : Array Value) (n : Nat) :
  Meets (Builtin.«method_descriptor.__get__» ⟨[.builtin "list.append",.ref l,.type "list"],[]⟩) (fun A R s => s.heap.get? l = some (lobj items n) ∧ R (.ok (.ret (.ref s.heap.objs.size))) { s with heap := s.heap.push (appObj l) }) :=
 Meets.of_wp fun prog w A R s hs => by
  obtain ⟨hp,g,d,tk,os⟩ := s
  obtain ⟨hl,h⟩ := hs
  have hT : (⟨hp,g,d,tk,os⟩ : Shared).TypeIs (.ref l) "list" := ⟨_,hl,rfl⟩
  have f1 := sub_list_list
  have f2 : (Manifest.toldItsClass.contains "list.append") = false := by decide +kernel
  unfold Builtin.«method_descriptor.__get__»
  simp only [f2]
  repeat (any_goals (first | assumption | wp_step))
  rw [show (".".intercalate ("list.append".cutAt '.').dropLast) = "list" by decide +kernel]
  rw [f1]
  refine wpAny_pure ?_
  rw [if_neg (by decide)]
  refine wpAny_pure ?_
  show wpAny _ _ (newFields "builtin_function_or_method" [.builtin "list.append",.ref l] >>= fun v => ret v) _ _ _
  exact wb (wpAny_newObj_type (wpAny_pure ⟨_,rfl,h⟩))
theorem zgU : (["__module__", "__name__", "__qualname__", "__doc__", "__annotations__"] : List Str).contains "append" = false := by decide +kernel
theorem zbu (l : Addr) (items : Array Value) (n : Nat) (u : Tok) :
  Meets (Builtin.«object.__getattribute__» ⟨[.ref l,.str "append" u],[]⟩) (fun A R s => s.heap.get? l = some (lobj items n) ∧ R (.ok (.ret (.ref s.heap.objs.size))) { s with heap := s.heap.push (appObj l) }) :=
 Meets.of_wp fun prog w A R s hs => by
  obtain ⟨hp,g,d,tk,os⟩ := s
  obtain ⟨hl,h⟩ := hs
  have hT : (⟨hp,g,d,tk,os⟩ : Shared).TypeIs (.ref l) "list" := ⟨_,hl,rfl⟩
  have hM : (⟨hp,g,d,tk,os⟩ : Shared).TypeIs (.builtin "list.append") "method_descriptor" := F.type_list_append
  have f1 := F.slot_list_append.lookup
  have f2 := slot_md_get.lookup
  have f3 := zja
  have f4 := zfH
  have f5 := zgU
  unfold Builtin.«object.__getattribute__»
  repeat (any_goals (first | assumption | ((with_reducible show wpAny _ _ (call (Value.builtin "method_descriptor.__get__") _ _) _ _ _); refine call_meets slot_md_get hM zfX (zfn _ _ _) (zfG l items n) ⟨hl, ?_⟩) | wp_step))
  exact wpAny_pure ⟨_,rfl,h⟩
theorem zej {l : Addr} {items : Array Value} {n : Nat} {Q : VP} (hl : s.heap.get? l = some (lobj items n)) (h : Q (.ref s.heap.objs.size) { s with heap := s.heap.push (appObj l),toks := s.toks + 1 }) :
  wpAny (model prog w) A (getAttr (.ref l) "append" true) Q E s := by
 obtain ⟨hp,g,d,tk,os⟩ := s
 have hT : ∀ tk',(⟨hp,g,d,tk',os⟩ : Shared).TypeIs (.ref l) "list" := fun _ => ⟨_,hl,rfl⟩
 have f3 := F.slot_list_getattribute.lookup
 have f4 := F.slot_list_getattribute.bind (.ref l)
 have f5 := am_list_getattr_none
 unfold getAttr getAttrBy
 repeat (any_goals (first | assumption | exact hT _ | ((with_reducible show wpAny _ _ (call (Value.builtin "list.__getattribute__") _ _) _ _ _); refine call_meets F.slot_list_getattribute (hT _) am_entry_list_getattribute (F.args_list_getattribute_2 _ _) (zbu l items n _) ⟨hl, ?_⟩) | wp_step))
 show wpAny _ _ (handedOut (.ref _)) _ _ _
 exact wpAny_pure h
end
theorem zd8 : isSubtype (.type "KeyError") (.type "LookupError") = pure true := by rw [isSubtype_type]; kernel_rfl
section
variable {prog : Program} {w : World} {A : Around} {E : VP} {s : Shared}
theorem zit {d : Addr} {f : Int → Option Value} {c : Nat} {t : PySem.Str} {u : Tok} {Q : Builtin.Str.Mapped → Shared → Prop} (hm : s.heap.MapOf (intKind prog w) d f) (hv : f (c : Int) = some (.str t u)) (h : ∀ k,Q (.text t) { s with toks := k }) :
  wpAny (model prog w) A (Builtin.Str.tableLookup (.ref d) c) Q E s := by
 unfold Builtin.Str.tableLookup
 refine wb (wpAny_attempt (wb (wpAny_mkInt (wpAny_getItem_of (knd := intKind prog w) (k := (c : Int)) (v := .str t u) (by simp [intKind,Value.isInt]) hm hv ?_))))
 obtain ⟨hh,g,dd,tk,os⟩ := s
 repeat (any_goals (first | assumption | wp_step))
 exact h _
theorem zhO {d : Addr} {f : Int → Option Value} {c : Nat} {Q : Builtin.Str.Mapped → Shared → Prop} (hh : A.handled = none) (hm : s.heap.MapOf (intKind prog w) d f) (hd : (d == sysModules) = false) (hv : f (c : Int) = none)
  (h : ∀ h' k,(∀ b o,s.heap.get? b = some o → h'.get? b = some o) → Q .keep { s with heap := h',toks := k }) :
  wpAny (model prog w) A (Builtin.Str.tableLookup (.ref d) c) Q E s := by
 unfold Builtin.Str.tableLookup
 refine wb (wpAny_attempt (wb (wpAny_mkInt (wpAny_getItem_missing_of (knd := intKind prog w) (k := (c : Int)) (by simp [intKind,Value.isInt]) hd hh hm hv fun h' e ne => ?_))))
 obtain ⟨ob,t,g1,g2,g3⟩ := ne.there
 show wpAny _ _ (do if ← isInstance (.ref e) (.type "LookupError") then rule "str.translate.not-in-table"; pure Builtin.Str.Mapped.keep else throw (.ref e)) _ _ _
 refine wb (wpAny_isInstance (T := "KeyError") (b := true) ⟨ob,g1,g2⟩ zd8 ?_)
 rw [if_pos rfl]
 exact wb (wpAny_rule (wpAny_pure (h _ _ ne.keeps)))
set_option maxHeartbeats 2000000 in
theorem zeO {d : Addr} {f : Int → Option Value} {c x : Nat} {t u : Tok} (hc : c < 128) :
  MeetsIn prog w (Builtin.«str.translate» ⟨[.str ⟨#[c]⟩ t,.ref d],[]⟩) (fun A R s => (s.heap.MapOf (intKind prog w) d f ∧ f (c : Int) = some (.str ⟨#[92,x]⟩ u)) ∧ ∀ k k',R (.ok (.ret (.str ⟨#[92,x]⟩ k))) { s with toks := k' }) :=
 .of_wp fun A R s hs => by
  obtain ⟨hh,g,dd,tk,os⟩ := s
  obtain ⟨⟨hm,hv⟩,h⟩ := hs
  have hc' : decide (c < 128) = true := by simpa using hc
  repeat (any_goals (first | assumption | ((with_reducible show wpAny _ _ (Builtin.Str.tableLookup _ _) _ _ _); refine zit hm hv fun k => ?_) | wp_step))
  exact ⟨_,rfl,h _ _⟩
set_option maxHeartbeats 2000000 in
theorem zd6 {d : Addr} {f : Int → Option Value} {c : Nat} {t : Tok} (hc : c < 128) (hd : (d == sysModules) = false) :
  MeetsIn prog w (Builtin.«str.translate» ⟨[.str ⟨#[c]⟩ t,.ref d],[]⟩) (fun A R s => (s.heap.MapOf (intKind prog w) d f ∧ f (c : Int) = none ∧ A.handled = none) ∧ ∀ h' k k',(∀ b o,s.heap.get? b = some o → h'.get? b = some o) → R (.ok (.ret (.str ⟨#[c]⟩ k))) { s with heap := h',toks := k' }) :=
 .of_wp fun A R s hs => by
  obtain ⟨hh,g,dd,tk,os⟩ := s
  obtain ⟨⟨hm,hv,hA⟩,h⟩ := hs
  have hc' : decide (c < 128) = true := by simpa using hc
  repeat (any_goals (first | assumption | ((with_reducible show wpAny _ _ (Builtin.Str.tableLookup _ _) _ _ _); refine zhO hA hm hd hv fun h' k hk => ?_) | wp_step))
  exact ⟨_,rfl,h _ _ _ hk⟩
end
end Mine
end
section MpZ0x
open PySem
namespace Mine
open PySem.Builtin PySem.Builtin.Re
noncomputable def reCode : Array Nat := #[14,14,4,1,1,9,0,64,0,1342177280,0,0,0,0,0,17,0,13,11,9,0,64,0,1342177280,0,0,0,0,0,17,1,1]
theorem zbA {m : Sre.M} (h : m.outcome.isSome = true) : ∀ n,m.runFor n = m
 | 0 => rfl
 | n + 1 => by unfold Sre.M.runFor; rw [if_pos h]
theorem zey : ∀ (a b : Nat) (m : Sre.M),m.runFor (a + b) = (m.runFor a).runFor b
 | 0,b,m => by rw [Nat.zero_add]; rfl
 | a + 1,b,m => by
  rw [Nat.succ_add]
  by_cases h : m.outcome.isSome = true
  ·rw [zbA h,zbA h,zbA h]
  ·have e1 : ∀ n,Sre.M.runFor (n + 1) m = Sre.M.runFor n m.step := fun n => by
    conv => lhs; unfold Sre.M.runFor
    rw [if_neg h]
   show Sre.M.runFor (a + b + 1) m = _
   rw [e1,e1]
   exact zey a b m.step
section
variable {prog : Program} {w : World} {A : Around} {E : VP} {s : Shared}
theorem zhC : ∀ (k t : Nat) (m : Sre.M),(m.runFor (4 * (k + 1))).outcome.isSome = true → k < t → ∀ {Q : Sre.M → Shared → Prop},Q (m.runFor (4 * (k + 1))) s → wpAny (model prog w) A (reDrive t m) Q E s
 | k,0,m,_,h,_,_ => absurd h (Nat.not_lt_zero _)
 | 0,t + 1,m,ho,h,Q,hQ => by
  unfold reDrive
  show wpAny _ _ (if (m.runFor 4).outcome.isSome = true then pure (m.runFor 4) else _) _ _ _
  rw [if_pos ho]
  exact wpAny_pure hQ
 | k + 1,t + 1,m,ho,h,Q,hQ => by
  unfold reDrive
  have e : m.runFor (4 * (k + 1 + 1)) = (m.runFor 4).runFor (4 * (k + 1)) := by
   rw [show 4 * (k + 1 + 1) = 4 + 4 * (k + 1) from Nat.add_comm (4 * (k + 1)) 4]
   exact zey 4 _ m
  rw [e] at ho hQ
  show wpAny _ _ (if (m.runFor 4).outcome.isSome = true then pure (m.runFor 4) else (do rule "sre.turn"; reDrive t (m.runFor 4))) _ _ _
  by_cases h4 : (m.runFor 4).outcome.isSome = true
  ·rw [if_pos h4]
   rw [zbA h4] at hQ
   exact wpAny_pure hQ
  ·rw [if_neg h4]
   exact wb (wpAny_rule (zhC k t (m.runFor 4) ho (Nat.lt_of_succ_lt_succ h) hQ))
theorem zgr (sn : Sre.Seen) : ∀ (l : List Nat) {Q : PUnit → Shared → Prop},Q ⟨⟩ s → wpAny (model prog w) A (forIn l PUnit.unit fun i _ => do
   if sn.has i then
    rule (Sre.names.getD i "")
    pure (ForInStep.yield PUnit.unit)
   else pure (ForInStep.yield PUnit.unit)) Q E s
 | [],Q,h => by rw [List.forIn_nil]; exact wpAny_pure h
 | i :: l,Q,h => by
  rw [List.forIn_cons]
  split
  ·exact wb (wb (wpAny_rule (wpAny_pure (zgr sn l h))))
  ·exact wb (wpAny_pure (zgr sn l h))
theorem zie {m : Sre.M} (k : Nat) (hk : k < 100) (h : (m.runFor (4 * (k + 1))).outcome = some .failed) {Q : Option Sre.M → Shared → Prop} (hQ : Q none s) : wpAny (model prog w) A (reRunToEnd m) Q E s := by
 unfold reRunToEnd
 refine wb (zhC k (2 ^ 64) m (by rw [h]; rfl) (Nat.lt_trans hk (by decide)) ?_)
 refine wb (zgr _ _ ?_)
 rw [h]
 exact wpAny_pure hQ
end
end Mine
end MpZ0x
section MpZ1x
open PySem
namespace Mine
open PySem.Builtin PySem.Builtin.Re
theorem zef : PlainAttrs "re.Pattern" :=
 ⟨⟨"object.__getattribute__",by rw [typeLookup_type,builtinLookup_eq_fast]; kernel_rfl,by decide +kernel⟩,by rw [typeLookup_type,builtinLookup_eq_fast]; kernel_rfl⟩
theorem zcW : PySem.Slot "re.Pattern" "sub" "re.Pattern.sub" :=
 PySem.Slot.of (owner := "re.Pattern") (n := "sub") (by rw [typeLookup_type,builtinLookup_eq_fast]; kernel_rfl) (by decide +kernel) (by decide +kernel) (by decide +kernel)
  (by first | exact .inl (by decide +kernel) | exact .inr (by decide +kernel)) (by rw [isSubtype_type]; kernel_rfl)
theorem zfr : typeOf (.builtin "re.Pattern.sub") = pure (.type "method_descriptor") := by show builtinType _ = _; rw [builtinType_eq_fast]; kernel_rfl
theorem zfi : entryFor table "re.Pattern.sub" = some Builtin.«re.Pattern.sub» := entryFor_of_tree (by kernel_rfl)
theorem zel : entryFor table "re.Pattern.sub.loop" = some Builtin.«re.Pattern.sub.loop» := entryFor_of_tree (by kernel_rfl)
theorem zeq (a b c : Value) : argsOk "re.Pattern.sub" ⟨[a,b,c],[]⟩ := by unfold argsOk; kernel_rfl
theorem zb2 : plainId "re.Pattern.sub.loop" = true := by decide +kernel
set_option genInjectivity false in
structure PatAt (h : Heap) (P C : Addr) (codes : Array Value) : Prop where
 pat : ∃ x t u v w y,h.get? P = some { cls := .type "re.Pattern",data := .fields #[.str x t,.int 32 u,.int 1 v,.none,.none,.ref C,.int 0 w] } ∧ y = (0 : Nat)
 code : ∃ n,h.get? C = some (tobj codes n)
 is : (codes.map reRawOf).map Int.toNat = reCode
theorem PatAt.keeps {h h' : Heap} {P C : Addr} {codes : Array Value} (x : PatAt h P C codes) (hk : ∀ b o,h.get? b = some o → h'.get? b = some o) : PatAt h' P C codes := by
 obtain ⟨a,t,u,v,w,y,e,r⟩ := x.pat
 obtain ⟨n,e2⟩ := x.code
 exact ⟨⟨a,t,u,v,w,y,hk _ _ e,r⟩,⟨n,hk _ _ e2⟩,x.is⟩
section
variable {prog : Program} {w : World} {A : Around} {E : VP} {s : Shared} {P C : Addr} {codes : Array Value} {a : Array Nat} {u : Tok}
theorem zgY (hp : PatAt s.heap P C codes) {Q : ReTarget → Shared → Prop} (hQ : Q { pattern := .ref P,string := .str ⟨a⟩ u,code := reCode,text := a,kind := 0,groups := 1,pos := 0,lim := a.size } s) :
  wpAny (model prog w) A (reWholeTarget (.ref P) (.str ⟨a⟩ u)) Q E s := by
 obtain ⟨hh,g,d,tk,os⟩ := s
 obtain ⟨x,t,u',v,w',_,e,_⟩ := hp.pat
 obtain ⟨n,ec⟩ := hp.code
 unfold reWholeTarget
 refine wb (wpAny_fieldsOf e rfl ?_)
 have ht : ∀ {Q : Array Nat × Nat → Shared → Prop},Q (a,0) ⟨hh,g,d,tk,os⟩ → wpAny (model prog w) A (reTextOf (.str ⟨a⟩ u)) Q E ⟨hh,g,d,tk,os⟩ := by
  intro Q h
  unfold reTextOf
  repeat (any_goals (first | assumption | wp_step))
 refine wb (ht ?_)
 have hr : ∀ {Q : Array Int → Shared → Prop},Q (codes.map reRawOf) ⟨hh,g,d,tk,os⟩ → wpAny (model prog w) A (reRawItems (.ref C)) Q E ⟨hh,g,d,tk,os⟩ := by
  intro Q h
  unfold reRawItems
  exact wb (wpAny_seqItems ec rfl (wpAny_pure h))
 dsimp only
 unfold reNoCollectionInside
 repeat (any_goals (first | assumption | ((with_reducible show wpAny _ _ (reRawItems _) _ _ _); refine hr ?_) | wp_step))
 have := hp.is
 rw [show (codes.map reRawOf).map (fun x => x.toNat) = reCode from this]
 exact hQ
end
end Mine
end MpZ1x
section
open PySem
namespace Mine
inductive D where
 | none
 | bool (b : Bool)
 | int (i : Int)
 | str (l : List Nat)
 | list (l : List D)
 | tup (l : List D)
 | tok (k : Nat)
 | ty (n : String)
 deriving Inhabited
abbrev CfT := Nat → List D → Option D
inductive R where
 | val (d : D)
 | own (l : List D)
 | bor (l : List D)
noncomputable def R.ds : R → D
 | .val d => d
 | .own l => .list l
 | .bor l => .list l
noncomputable def R.fz : R → Option D
 | .val d => some d
 | .own l => some (.list l)
 | .bor _ => none
inductive Slot where
 | unset
 | val (d : D)
 | own (l : List D)
 | app (j : Nat)
 | fdic (l : List D)
set_option genCtorIdx false in
inductive Op where
 | add | sub | mul | fdiv | mod | pow | neg
 | eq | ne | lt | le | gt | ge | is_ | isnot | in_ | notin
 | index | slice | slice3 | len | abs | sum
 | tyOf | isInst | isSub
 | rfind | find4 | startswith | endswith | rstrip | lstrip | replace | join | split | translate | resub | count | strIndex | resub0
 | listOf | tupleOf | sorted | min | max | fmt | lindex
 | other (n : Nat)
set_option genCtorIdx false in
set_option genInjectivity false in
inductive X where
 | const (d : D)
 | var (i : Nat)
 | op (o : Op) (a : X)
 | nil
 | cons (a r : X)
 | star (a : X)
 | and (a b : X)
 | or (a b : X)
 | not (a : X)
 | ite (c t e : X)
 | call (f : Nat) (a : X)
 | tup (a : X)
 | list (a : X)
 | comp (i : Nat) (it cond elt : X)
 | comp2 (i j : Nat) (it cond elt : X)
 | comp3 (i : Nat) (it : X) (j : Nat) (jt elt : X)
 | mapF (f : Nat) (a : X)
 | seqI (a : X)
 | rangeI (a : X)
 | enumI (a : X)
 | setI (i : Nat) (it elt : X)
 | dNot (i : Nat) (a : X)
 | dGet (i : Nat) (a : X)
 | dKeys (i : Nat)
inductive Out where
 | next
 | brk
 | cont
 | ret (d : D)
set_option genCtorIdx false in
set_option genInjectivity false in
inductive S where
 | skip
 | seq (a b : S)
 | fz (i : Nat)
 | assign (i : Nat) (x : X)
 | assignO (i : Nat) (x : X)
 | assign2 (i j : Nat) (x : X)
 | assign3 (i j k : Nat) (x : X)
 | assign1 (i : Nat) (x : X)
 | alias (i j : Nat)
 | append (i : Nat) (x : X)
 | appendVia (i j : Nat) (x : X)
 | aug (i : Nat) (x : X)
 | extend (i : Nat) (x : X)
 | pop (i : Nat)
 | setItem (i : Nat) (k x : X)
 | augItem (i : Nat) (k x : X)
 | delItem (i : Nat) (k : X)
 | ite (c : X) (a b : S)
 | while (c : X) (b : S)
 | forE (i : Nat) (it : X) (b : S)
 | forE2 (i j : Nat) (it : X) (b : S)
 | forN (is : List Nat) (it : X) (b : S)
 | ret (x : X)
 | brk
 | cont
 | assert (c : X)
 | try_ (b : S)
 | sem (f : (Nat → List D → Option D) → List Slot → Option (List Slot × Out))
 | dNew (i : Nat)
 | dSet (i : Nat) (k x : X)
 | dFz (i : Nat)
noncomputable def lim : Nat := 1000000
noncomputable def tokC : Nat → List Nat
 | 0 => [42]
 | _ => [63]
mutual
noncomputable def D.toPy : D → PyData
 | .none => .none
 | .bool b => .bool b
 | .int i => .int i
 | .str l => .str ⟨l.toArray⟩
 | .list l => .list (D.toPys l)
 | .tup l => .tuple (D.toPys l)
 | .tok k => .list [.str ⟨(tokC k).toArray⟩]
 | .ty _ => .none
noncomputable def D.toPys : List D → List PyData
 | [] => []
 | d :: r => d.toPy :: D.toPys r
end
mutual
noncomputable def D.ok : Nat → D → Bool
 | 0,_ => false
 | n + 1,.list l => D.oks n l
 | n + 1,.tup l => D.oks n l
 | _ + 1,.ty _ => false
 | n + 1,.tok k => decide (0 < n) && decide (k < 2)
 | _ + 1,_ => true
noncomputable def D.oks : Nat → List D → Bool
 | _,[] => true
 | n,d :: r => d.ok n && D.oks n r
end
noncomputable def D.truth : D → Option Bool
 | .none => some false
 | .bool b => some b
 | .int i => some (decide (i ≠ 0))
 | .str l => some (!l.isEmpty)
 | .list l => some (!l.isEmpty)
 | .tup l => some (!l.isEmpty)
 | _ => Option.none
noncomputable def eqD : D → D → Option Bool
 | .str a,.str b => some (decide (a = b))
 | .int a,.int b => some (decide (a = b))
 | a,b => if a.ok 9 && b.ok 9 then some (PyData.eqv a.toPy b.toPy) else none
noncomputable def inD (d : D) : D → Option Bool
 | .list l => if D.oks 8 l && d.ok 9 then some ((D.toPys l).any fun y => PyData.eqv y d.toPy) else none
 | .tup l => if D.oks 8 l && d.ok 9 then some ((D.toPys l).any fun y => PyData.eqv y d.toPy) else none
 | .str b => match d with
  | .str a => some (Txt.contains ⟨b.toArray⟩ ⟨a.toArray⟩)
  | _ => none
 | _ => none
noncomputable def noneB : D → Option Bool
 | .ty _ => none
 | .none => some true
 | _ => some false
noncomputable def isD (a : D) : D → Option Bool
 | .none => noneB a
 | .tok j => (match a with
  | .tok i => if i < 2 ∧ j < 2 then some (decide (i = j)) else none
  | .str _ => some false
  | .none => some false
  | _ => none)
 | .str _ => (match a with
  | .tok _ => some false
  | _ => none)
 | _ => none
noncomputable def ltL (a b : List Nat) : Bool := decide (a < b)
noncomputable def place (i : Int) (n : Nat) : Option Nat :=
 if 0 ≤ i then (if i < n then some i.toNat else none) else (if 0 ≤ i + n then some (i + n).toNat else none)
noncomputable def small (i : Int) : Bool := decide (-1000000000 ≤ i) && decide (i ≤ 1000000000)
noncomputable def clip (i : Int) (n : Nat) : Nat := if i < 0 then (i + n).toNat else if i < n then i.toNat else n
noncomputable def bound (d : D) (dflt n : Nat) : Option Nat := match d with
 | .none => some dflt
 | .int i => if small i then some (clip i n) else none
 | _ => none
noncomputable def cut {α : Type} (l : List α) (lo hi : Nat) : List α := (l.drop lo).take (hi - lo)
noncomputable def pick {α : Type} (l : List α) (lo hi st : Option Int) : List α :=
 (sliceRange (sliceBounds lo hi st l.length).1 (sliceBounds lo hi st l.length).2.1 (sliceBounds lo hi st l.length).2.2).filterMap (l[·]?)
noncomputable def partD : D → Option (Option Int)
 | .none => some none
 | .int i => if small i then some (some i) else none
 | _ => none
noncomputable def toInts : List D → Option (List Int)
 | [] => some []
 | .int i :: r => (toInts r).map (i :: ·)
 | _ :: _ => none
noncomputable def toStrs : List D → Option (List (List Nat))
 | [] => some []
 | .str s :: r => (toStrs r).map (s :: ·)
 | _ :: _ => none
noncomputable def strD (l : List Nat) : Option R := if l.length ≤ lim then some (.val (.str l)) else none
noncomputable def intD : D → Option Int
 | .int i => some i
 | _ => none
noncomputable def strO : D → Option (List Nat)
 | .str l => some l
 | _ => none
noncomputable def lstO : D → Option (List D)
 | .list l => some l
 | _ => none
noncomputable def two (f : D → D → Option R) : List D → Option R
 | [a,b] => f a b
 | _ => none
noncomputable def int2 (f : Int → Int → Option R) : List D → Option R := two fun a b => (intD a).bind fun a => (intD b).bind fun b => f a b
noncomputable def addD (a b : D) : Option R := match a with
 | .int a => (intD b).bind fun b => some (.val (.int (a + b)))
 | .str a => (strO b).bind fun b => if a.length + b.length ≤ lim then some (.val (.str (a ++ b))) else none
 | .list a => (lstO b).bind fun b => if a.length + b.length ≤ lim then some (.own (a ++ b)) else none
 | _ => none
noncomputable def opAdd : List D → Option R := two addD
noncomputable def opSub : List D → Option R := int2 fun a b => some (.val (.int (a - b)))
noncomputable def rep {α : Type} (l : List α) (n : Int) : List α := (List.replicate n.toNat l).flatten
noncomputable def mulBy (b : Int) : D → Option R
 | .int a => if small a || small b then some (.val (.int (a * b))) else none
 | .str a => if small b && decide (a.length * b.toNat ≤ lim) then some (.val (.str (rep a b))) else none
 | .list a => if small b && decide (a.length * b.toNat ≤ lim) then some (.own (rep a b)) else none
 | _ => none
noncomputable def opMul : List D → Option R := two fun a b => (intD b).bind fun b => mulBy b a
noncomputable def opDiv : List D → Option R := int2 fun a b => if b = 0 then none else some (.val (.int (Int.fdiv a b)))
noncomputable def opMod : List D → Option R := int2 fun a b => if b = 0 then none else some (.val (.int (Int.fmod a b)))
noncomputable def opBool (f : D → D → Option Bool) : List D → Option R
 | [a,b] => (f a b).map fun x => .val (.bool x)
 | _ => none
noncomputable def cmpD (f : Int → Int → Bool) (g : List Nat → List Nat → Bool) (a b : D) : Option R := match a with
 | .int a => (intD b).bind fun b => some (.val (.bool (f a b)))
 | .str a => (strO b).bind fun b => some (.val (.bool (g a b)))
 | _ => none
noncomputable def opCmp (f : Int → Int → Bool) (g : List Nat → List Nat → Bool) : List D → Option R := two (cmpD f g)
noncomputable def str3 (f : List Nat → List Nat → List Nat → Option R) : List D → Option R
 | [a,b,c] => (strO a).bind fun a => (strO b).bind fun b => (strO c).bind fun c => f a b c
 | _ => none
noncomputable def idxD (i : Int) : D → Option R
 | .str l => (match place i l.length with | some k => (l[k]?).map fun c => .val (.str [c]) | none => none)
 | .list l => (match place i l.length with | some k => (l[k]?).map .val | none => none)
 | .tup l => (match place i l.length with | some k => (l[k]?).map .val | none => none)
 | _ => none
noncomputable def opIndex : List D → Option R := two fun a b => (intD b).bind fun i => if small i then idxD i a else none
noncomputable def opSlice : List D → Option R
 | [.str l,a,b] => match bound a 0 l.length,bound b l.length l.length with
  | some lo,some hi => some (.val (.str (cut l lo hi)))
  | _,_ => none
 | [.list l,a,b] => match bound a 0 l.length,bound b l.length l.length with
  | some lo,some hi => some (.own (cut l lo hi))
  | _,_ => none
 | _ => none
noncomputable def opSlice3 : List D → Option R
 | [.list l,a,b,.int n] => match partD a,partD b with
  | some lo,some hi => if n ≠ 0 ∧ small n then some (.own (pick l lo hi (some n))) else none
  | _,_ => none
 | _ => none
noncomputable def opLen : List D → Option R
 | [.str l] => some (.val (.int l.length))
 | [.list l] => some (.val (.int l.length))
 | [.tup l] => some (.val (.int l.length))
 | _ => none
noncomputable def opAbs : List D → Option R
 | [.int i] => some (.val (.int i.natAbs))
 | _ => none
noncomputable def opSum : List D → Option R
 | [.list l] => (toInts l).map fun is => .val (.int is.sum)
 | _ => none
noncomputable def opNeg : List D → Option R
 | [.int i] => some (.val (.int (-i)))
 | _ => none
noncomputable def tyD : D → Option String
 | .str _ => some "str"
 | .int _ => some "int"
 | .bool _ => some "bool"
 | .list _ => some "list"
 | .tup _ => some "tuple"
 | _ => none
noncomputable def opTyOf : List D → Option R
 | [d] => (tyD d).map fun n => .val (.ty n)
 | _ => none
noncomputable def tyL : List D → Option (List String)
 | [] => some []
 | .ty a :: r => (tyL r).map (a :: ·)
 | _ :: _ => none
noncomputable def strB : D → Option Bool
 | .str _ => some true
 | .list _ => some false
 | _ => none
noncomputable def opIsInst : List D → Option R
 | [a,.ty n] => if strB a = some true then (if n = "str" then some (.val (.bool true)) else if n = "bytes" then some (.val (.bool false)) else none) else none
 | [a,.tup l] => if tyL l = some ["list", "tuple"] then (strB a).map fun b => .val (.bool (!b)) else none
 | _ => none
noncomputable def opIsSub : List D → Option R
 | [.ty n,.tup l] => if n = "str" ∧ tyL l = some ["str", "bytes"] then some (.val (.bool true)) else none
 | _ => none
noncomputable def opStr2 (f : PySem.Str → PySem.Str → R) : List D → Option R := two fun a b => (strO a).bind fun a => (strO b).bind fun b => some (f ⟨a.toArray⟩ ⟨b.toArray⟩)
noncomputable def opFind4 : List D → Option R
 | [.str a,.str b,.int i,.int j] => if small i ∧ small j then
   some (.val (.int (match Builtin.Str.occurrences ⟨a.toArray⟩ ⟨b.toArray⟩ (fromIndex a.length i) (min (fromIndex a.length j) a.length) 1 with | k :: _ => (k : Int) | [] => -1))) else none
 | _ => none
noncomputable def opReplace : List D → Option R := str3 fun a b _ => if (Builtin.Str.occurrences ⟨a.toArray⟩ ⟨b.toArray⟩ 0 a.length (a.length + 1)).isEmpty then some (.val (.str a)) else none
noncomputable def joinL (s : List Nat) : List (List Nat) → List Nat
 | [] => []
 | [a] => a
 | a :: r => a ++ s ++ joinL s r
noncomputable def opJoin : List D → Option R
 | [.str s,.list l] => match toStrs l with
  | some ls => if (joinL s ls).length ≤ lim then some (.val (.str (joinL s ls))) else none
  | none => none
 | _ => none
noncomputable def opSplit : List D → Option R
 | [.str a,.str b] => if b.length = 1 ∧ a.length + 2 ≤ lim then some (.own ((Txt.split ⟨a.toArray⟩ ⟨b.toArray⟩).map fun x => .str x.cps.toList)) else none
 | _ => none
noncomputable def special : List Nat := [40,41,91,93,123,125,63,42,43,45,124,94,36,92,46,38,126,35,32,9,10,13,11,12]
noncomputable def opTranslate : List D → Option R
 | [.str [c]] => if c < 128 then some (.val (.str (if special.contains c then [92,c] else [c]))) else none
 | _ => none
noncomputable def noHit : List (List Nat) := [[],[33],[46,45,97],[33,97],[97,45,99],[93],[33,33],[97,47,98],[97,45,98],[91],[42],[63],[97],[98],[97,98],[33,97,98],[33,98],[33,97,45,98],[46],[33,46]]
noncomputable def opResub : List D → Option R
 | [.str a] => if noHit.contains a then some (.val (.str a)) else if a = [124,38,126] then some (.val (.str [92,124,92,38,92,126])) else none
 | _ => none
noncomputable def opResub0 : List D → Option R
 | [.str a] => if noHit.contains a then some (.val (.str a)) else none
 | _ => none
noncomputable def opListOf : List D → Option R
 | [.list l] => some (.own l)
 | _ => none
noncomputable def opTupleOf : List D → Option R
 | [.list l] => some (.val (.tup l))
 | _ => none
noncomputable def ltSs : List (List Nat) → List (List Nat) → Bool
 | [],[] => false
 | [],_ :: _ => true
 | _ :: _,[] => false
 | a :: as,b :: bs => if a = b then ltSs as bs else ltL a b
noncomputable def insS (x : List Nat) : List (List Nat) → List (List Nat)
 | [] => [x]
 | y :: r => if ltL y x then y :: insS x r else x :: y :: r
noncomputable def sortS : List (List Nat) → List (List Nat)
 | [] => []
 | x :: r => insS x (sortS r)
noncomputable def opSorted : List D → Option R
 | [.list l] => match toStrs l with
  | some ls => if ls.length < 64 then some (.own ((sortS ls).map .str)) else none
  | none => none
 | _ => none
noncomputable def ltD : D → D → Option Bool
 | .str a,.str b => some (ltL a b)
 | .list a,.list b => match toStrs a,toStrs b with
  | some x,some y => some (ltSs x y)
  | _,_ => none
 | _,_ => none
noncomputable def gtD (a b : D) : Option Bool := ltD b a
noncomputable def bestGo (better : D → D → Option Bool) : D → List D → Option D
 | b,[] => some b
 | b,d :: r => match better d b with
  | some true => bestGo better d r
  | some false => bestGo better b r
  | none => none
noncomputable def opBest (better : D → D → Option Bool) : List D → Option R
 | [.list (d :: r)] => (bestGo better d r).map .val
 | [.tup (d :: r)] => (bestGo better d r).map .val
 | _ => none
noncomputable def opMax : List D → Option R
 | [.int a,.int b] => some (.val (.int (if b > a then b else a)))
 | ds => opBest gtD ds
noncomputable def opPow : List D → Option R := int2 fun a b => if 0 ≤ b ∧ b ≤ 64 ∧ 0 ≤ a ∧ a ≤ 16 then some (.val (.int (a ^ b.toNat))) else none
noncomputable def opLIndex : List D → Option R
 | [.list l,.str s] => match toStrs l with
  | some ls => if ls.contains s then some (.val (.int (ls.idxOf s))) else none
  | none => none
 | _ => none
noncomputable def opCount : List D → Option R
 | [.list l,.str s] => match toStrs l with
  | some ls => some (.val (.int (ls.count s)))
  | none => none
 | _ => none
noncomputable def opSIndex : List D → Option R
 | [.str a,.str b] => match Builtin.Str.occurrences ⟨a.toArray⟩ ⟨b.toArray⟩ 0 a.length 1 with
  | i :: _ => some (.val (.int (i : Nat)))
  | [] => none
 | _ => none
noncomputable def opFmt : List D → Option R := str3 fun a b c => strD (a ++ b ++ c)
noncomputable def opF : Op → List D → Option R
 | .add,ds => opAdd ds
 | .sub,ds => opSub ds
 | .mul,ds => opMul ds
 | .fdiv,ds => opDiv ds
 | .mod,ds => opMod ds
 | .neg,ds => opNeg ds
 | .eq,ds => opBool eqD ds
 | .ne,ds => opBool (fun a b => (eqD a b).map (!·)) ds
 | .lt,ds => opCmp (fun a b => decide (a < b)) ltL ds
 | .le,ds => opCmp (fun a b => decide (a ≤ b)) (fun a b => !ltL b a) ds
 | .gt,ds => opCmp (fun a b => decide (b < a)) (fun a b => ltL b a) ds
 | .ge,ds => opCmp (fun a b => decide (b ≤ a)) (fun a b => !ltL a b) ds
 | .is_,ds => opBool isD ds
 | .isnot,ds => opBool (fun a b => (isD a b).map (!·)) ds
 | .in_,ds => opBool inD ds
 | .notin,ds => opBool (fun a b => (inD a b).map (!·)) ds
 | .index,ds => opIndex ds
 | .slice,ds => opSlice ds
 | .slice3,ds => opSlice3 ds
 | .len,ds => opLen ds
 | .abs,ds => opAbs ds
 | .sum,ds => opSum ds
 | .tyOf,ds => opTyOf ds
 | .isInst,ds => opIsInst ds
 | .isSub,ds => opIsSub ds
 | .rfind,ds => opStr2 (fun a b => .val (.int (Txt.rfind a b))) ds
 | .find4,ds => opFind4 ds
 | .startswith,ds => opStr2 (fun a b => .val (.bool (Txt.startswith a b))) ds
 | .endswith,ds => opStr2 (fun a b => .val (.bool (Txt.endswith a b))) ds
 | .rstrip,ds => opStr2 (fun a b => .val (.str (Txt.rstripChars a b).cps.toList)) ds
 | .lstrip,ds => opStr2 (fun a b => .val (.str (Txt.lstripChars a b).cps.toList)) ds
 | .replace,ds => opReplace ds
 | .join,ds => opJoin ds
 | .split,ds => opSplit ds
 | .translate,ds => opTranslate ds
 | .resub,ds => opResub ds
 | .resub0,ds => opResub0 ds
 | .listOf,ds => opListOf ds
 | .tupleOf,ds => opTupleOf ds
 | .sorted,ds => opSorted ds
 | .fmt,ds => opFmt ds
 | .min,ds => opBest ltD ds
 | .max,ds => opMax ds
 | .pow,ds => opPow ds
 | .lindex,ds => opLIndex ds
 | .count,ds => opCount ds
 | .strIndex,ds => opSIndex ds
 | _,_ => none
noncomputable def fzAll : List R → Option (List D)
 | [] => some []
 | r :: rs => match r.fz,fzAll rs with
  | some d,some ds => some (d :: ds)
  | _,_ => none
noncomputable def truthR : Option (List R) → Option Bool
 | some [r] => r.ds.truth
 | _ => none
noncomputable def compGo (f : D → Option (Option D)) : List D → Option (List D)
 | [] => some []
 | d :: r => match f d with
  | none => none
  | some none => compGo f r
  | some (some y) => match compGo f r with
   | some ys => some (y :: ys)
   | none => none
noncomputable def flatGo (f : D → Option (List D)) : List D → Option (List D)
 | [] => some []
 | d :: r => match f d with
  | some a => (flatGo f r).map (a ++ ·)
  | none => none
noncomputable def dSlot (i : Nat) : Bool := i == 5
noncomputable def dictGet : List D → List Nat → Option D
 | [],_ => none
 | .tup [.str k,v] :: r,q => if k = q then some v else dictGet r q
 | _ :: _,_ => none
noncomputable def keyD : D → D
 | .tup [k,_] => k
 | d => d
noncomputable def itsR : Option (List R) → Option (List D)
 | some [.val (.list l)] => some l
 | _ => none
noncomputable def ownS : Slot → Option (List D)
 | .own l => some l
 | _ => none
noncomputable def fzS : Slot → Option (List D)
 | .fdic l => some l
 | _ => none
noncomputable def dicOwn (ρ : List Slot) (i : Nat) : Option (List D) := if dSlot i then (ρ[i]?).bind ownS else none
noncomputable def dicFz (ρ : List Slot) (i : Nat) : Option (List D) := (ρ[i]?).bind fzS
noncomputable def dicAt (ρ : List Slot) (i : Nat) : Option (List D) := (dicOwn ρ i).or (dicFz ρ i)
noncomputable def strV : Option (List R) → Option (List Nat)
 | some [.val (.str k)] => some k
 | _ => none
noncomputable def keyO : Option D → Option (List Nat)
 | some (.str k) => some k
 | _ => none
noncomputable def turnD (c e : Option (List R)) : Option (Option D) := match truthR c with
 | some true => (match e with
  | some [r] => r.fz.map some
  | _ => none)
 | some false => some none
 | none => none
noncomputable def upTo (n : Nat) (a b : Int) : List Int := (List.range n).map fun (k : Nat) => a + b * (k : Int)
noncomputable def rangeL (a b : Int) : List D := (upTo (b - a).toNat a 1).map .int
noncomputable def rangeDown (a b : Int) : List D := (upTo (a - b).toNat a (-1)).map .int
noncomputable def opRange : List D → Option (List D)
 | [.int n] => if small n && decide (n ≤ 1000000) then some (rangeL 0 n) else none
 | [.int a,.int n] => if small a && small n && decide (n - a ≤ 1000000) then some (rangeL a n) else none
 | [.int a,.int n,.int s] => if s = -1 ∧ small a ∧ small n ∧ a - n ≤ 1000000 then some (rangeDown a n) else none
 | _ => none
noncomputable def itemsOf : D → Option (List D)
 | .list l => some l
 | .tup l => some l
 | .str l => some (l.map fun c => .str [c])
 | _ => none
noncomputable def enumOf : D → Option (List D)
 | .list l => some l
 | .str l => some (l.map fun c => .str [c])
 | _ => none
noncomputable def enumL (k : Int) : List D → List D
 | [] => []
 | d :: r => .tup [.int k,d] :: enumL (k + 1) r
noncomputable def allSome {α : Type} : List (Option α) → Option (List α)
 | [] => some []
 | some a :: r => (allSome r).map (a :: ·)
 | none :: _ => none
section
variable (cf : CfT)
noncomputable def ev : X → List Slot → Option (List R)
 | .const d,_ => some [.val d]
 | .var i,ρ => match ρ[i]? with
  | some (.val d) => some [.val d]
  | some (.own l) => if dSlot i then none else some [.bor l]
  | _ => none
 | .op o a,ρ => match ev a ρ with
  | some rs => (opF o (rs.map R.ds)).map fun r => [r]
  | none => none
 | .nil,_ => some []
 | .cons a r,ρ => match ev a ρ with
  | some [x] => (ev r ρ).map fun xs => x :: xs
  | _ => none
 | .star a,ρ => match ev a ρ with
  | some [x] => (match x.fz with
   | some (.list l) => some (l.map .val)
   | some (.tup l) => some (l.map .val)
   | _ => none)
  | _ => none
 | .and a b,ρ => match ev a ρ with
  | some [x] => (match x.ds.truth with
   | some true => ev b ρ
   | some false => some [x]
   | none => none)
  | _ => none
 | .or a b,ρ => match ev a ρ with
  | some [x] => (match x.ds.truth with
   | some false => ev b ρ
   | some true => some [x]
   | none => none)
  | _ => none
 | .not a,ρ => match ev a ρ with
  | some [x] => x.ds.truth.map fun b => [.val (.bool (!b))]
  | _ => none
 | .ite c t e,ρ => match truthR (ev c ρ) with
  | some true => ev t ρ
  | some false => ev e ρ
  | none => none
 | .call f a,ρ => match ev a ρ with
  | some rs => (match fzAll rs with
   | some ds => (cf f ds).map fun d => [.val d]
   | none => none)
  | none => none
 | .tup a,ρ => match ev a ρ with
  | some rs => (match fzAll rs with
   | some ds => if ds.length ≤ lim then some [.val (.tup ds)] else none
   | none => none)
  | none => none
 | .list a,ρ => match ev a ρ with
  | some rs => (match fzAll rs with
   | some ds => if ds.length ≤ lim then some [.own ds] else none
   | none => none)
  | none => none
 | .comp i it c e,ρ => match ev it ρ with
  | some [.val (.list items)] => (compGo (fun d => turnD (ev c (ρ.set i (.val d))) (ev e (ρ.set i (.val d)))) items).map fun l => [.own l]
  | _ => none
 | .comp2 i j it c e,ρ => match ev it ρ with
  | some [.val (.list items)] => (compGo (fun d => match d with
    | .tup [a,b] => turnD (ev c ((ρ.set i (.val a)).set j (.val b))) (ev e ((ρ.set i (.val a)).set j (.val b)))
    | _ => none) items).map fun l => [.own l]
  | _ => none
 | .comp3 i it j jt e,ρ => match itsR (ev it ρ) with
  | some items => (match flatGo (fun d => match itsR (ev jt (ρ.set i (.val d))) with
    | some its => compGo (fun d' => turnD (some [.val (.bool true)]) (ev e ((ρ.set i (.val d)).set j (.val d')))) its
    | none => none) items with
   | some l => if l.length ≤ lim then some [.own l] else none
   | none => none)
  | none => none
 | .mapF f a,ρ => match ev a ρ with
  | some [x] => (match x.ds with
   | .list items => (allSome (items.map fun d => cf f [d])).map fun l => [.val (.tup l)]
   | .tup items => (allSome (items.map fun d => cf f [d])).map fun l => [.val (.tup l)]
   | _ => none)
  | _ => none
 | .dNot i a,ρ => match dicAt ρ i,strV (ev a ρ) with
  | some l,some k => some [.val (.bool (dictGet l k).isNone)]
  | _,_ => none
 | .dGet i a,ρ => match dicAt ρ i,strV (ev a ρ) with
  | some l,some k => (dictGet l k).map fun d => [.val d]
  | _,_ => none
 | .dKeys i,ρ => match dicFz ρ i with
  | some l => some [.val (.list (l.map keyD))]
  | none => none
 | .seqI a,ρ => match ev a ρ with
  | some [x] => (match x.fz with
   | some d => (itemsOf d).map fun l => [.val (.list l)]
   | none => none)
  | _ => none
 | .rangeI a,ρ => match ev a ρ with
  | some rs => (opRange (rs.map R.ds)).map fun l => [.val (.list l)]
  | none => none
 | .enumI a,ρ => match ev a ρ with
  | some [x] => (match x.fz with
   | some d => (enumOf d).map fun l => [.val (.list (enumL 0 l))]
   | none => none)
  | _ => none
 | .setI i it e,ρ => match ev it ρ with
  | some [.val (.list items)] => (match compGo (fun d => turnD (some [.val (.bool true)]) (ev e (ρ.set i (.val d)))) items with
   | some (.bool b :: r) => if r.all (fun d => match d with | .bool b' => b' == b | _ => false) then some [.val (.bool b)] else none
   | _ => none)
  | _ => none
noncomputable def ev1 (x : X) (ρ : List Slot) : Option D := match ev cf x ρ with
 | some [r] => r.fz
 | _ => none
noncomputable def evT (x : X) (ρ : List Slot) : Option Bool := truthR (ev cf x ρ)
noncomputable def evI (x : X) (ρ : List Slot) : Option (List D) := match ev cf x ρ with
 | some [.val (.list l)] => some l
 | _ => none
noncomputable def whileGo (c : List Slot → Option Bool) (b : List Slot → Option (List Slot × Out)) : Nat → List Slot → Option (List Slot × Out)
 | 0,_ => none
 | n + 1,ρ => match c ρ with
  | none => none
  | some false => some (ρ,.next)
  | some true => match b ρ with
   | none => none
   | some (ρ',.next) => whileGo c b n ρ'
   | some (ρ',.cont) => whileGo c b n ρ'
   | some (ρ',.brk) => some (ρ',.next)
   | some (ρ',.ret d) => some (ρ',.ret d)
noncomputable def forGo (st : D → List Slot → Option (List Slot)) (b : List Slot → Option (List Slot × Out)) : List D → List Slot → Option (List Slot × Out)
 | [],ρ => some (ρ,.next)
 | d :: r,ρ => match st d ρ with
  | none => none
  | some ρ₁ => match b ρ₁ with
   | none => none
   | some (ρ',.next) => forGo st b r ρ'
   | some (ρ',.cont) => forGo st b r ρ'
   | some (ρ',.brk) => some (ρ',.next)
   | some (ρ',.ret d) => some (ρ',.ret d)
noncomputable def put1 (i : Nat) (d : D) (ρ : List Slot) : Option (List Slot) := some (ρ.set i (.val d))
noncomputable def put2 (i j : Nat) (d : D) (ρ : List Slot) : Option (List Slot) := match d with
 | .tup [a,b] => some ((ρ.set i (.val a)).set j (.val b))
 | _ => none
noncomputable def setAll : List Slot → List Nat → List D → List Slot
 | ρ,i :: is,d :: ds => setAll (ρ.set i (.val d)) is ds
 | ρ,_,_ => ρ
noncomputable def putN (is : List Nat) (d : D) (ρ : List Slot) : Option (List Slot) := match d with
 | .tup l => if l.length = is.length then some (setAll ρ is l) else none
 | _ => none
noncomputable def ownAt (ρ : List Slot) (i : Nat) : Option (List D) := match ρ[i]? with
 | some (.own l) => if dSlot i then none else some l
 | _ => none
noncomputable def noApp (i : Nat) (ρ : List Slot) : Bool := ρ.all fun s => match s with | .app j => j != i | _ => true
noncomputable def wf : Nat := 100000
noncomputable def ex : S → List Slot → Option (List Slot × Out)
 | .skip,ρ => some (ρ,.next)
 | .seq a b,ρ => match ex a ρ with
  | some (ρ',.next) => ex b ρ'
  | some (ρ',o) => some (ρ',o)
  | none => none
 | .fz i,ρ => match ownAt ρ i with
  | some l => some (ρ.set i (.val (.list l)),.next)
  | none => some (ρ,.next)
 | .assign i x,ρ => (ev1 cf x ρ).map fun d => (ρ.set i (.val d),.next)
 | .assignO i x,ρ => if noApp i ρ then (match ev cf x ρ with
  | some [.own l] => if dSlot i then none else some (ρ.set i (.own l),.next)
  | some [.val d] => some (ρ.set i (.val d),.next)
  | _ => none) else none
 | .assign1 i x,ρ => match ev1 cf x ρ with
  | some d => some (ρ.set i (.val d),.next)
  | none => none
 | .assign2 i j x,ρ => match ev1 cf x ρ with
  | some (.tup [a,b]) => some ((ρ.set i (.val a)).set j (.val b),.next)
  | _ => none
 | .assign3 i j k x,ρ => match ev1 cf x ρ with
  | some (.tup [a,b,c]) => some (((ρ.set i (.val a)).set j (.val b)).set k (.val c),.next)
  | _ => none
 | .alias i j,ρ => match ownAt ρ j with
  | some _ => some (ρ.set i (.app j),.next)
  | none => none
 | .append i x,ρ => match ev1 cf x ρ,ownAt ρ i with
  | some d,some l => if l.length < lim then some (ρ.set i (.own (l ++ [d])),.next) else none
  | _,_ => none
 | .appendVia i j x,ρ => match ρ[i]? with
  | some (.app j') => if j' = j then (match ev1 cf x ρ,ownAt ρ j with
   | some d,some l => if l.length < lim then some (ρ.set j (.own (l ++ [d])),.next) else none
   | _,_ => none) else none
  | _ => none
 | .aug i x,ρ => match ρ[i]?,ev1 cf x ρ with
  | some (.val (.str a)),some (.str b) => if a.length + b.length ≤ lim then some (ρ.set i (.val (.str (a ++ b))),.next) else none
  | _,_ => none
 | .extend i x,ρ => match ev1 cf x ρ,ownAt ρ i with
  | some (.list m),some l => if l.length + m.length ≤ lim then some (ρ.set i (.own (l ++ m)),.next) else none
  | _,_ => none
 | .pop i,ρ => match ownAt ρ i with
  | some l => (match l.getLast? with
   | some (.str _) => some (ρ.set i (.own l.dropLast),.next)
   | _ => none)
  | none => none
 | .setItem i k x,ρ => match ev1 cf x ρ,ev1 cf k ρ,ownAt ρ i with
  | some d,some (.int n),some l => if small n then (match place n l.length with
   | some p => some (ρ.set i (.own (l.set p d)),.next)
   | none => none) else none
  | _,_,_ => none
 | .augItem i k x,ρ => match ev1 cf k ρ,ev1 cf x ρ,ownAt ρ i with
  | some (.int n),some (.str y),some l => if small n then (match place n l.length with
   | some p => (match l[p]? with
    | some (.str z) => if z.length + y.length ≤ lim then some (ρ.set i (.own (l.set p (.str (z ++ y)))),.next) else none
    | _ => none)
   | none => none) else none
  | _,_,_ => none
 | .delItem i k,ρ => match ev1 cf k ρ,ownAt ρ i with
  | some (.int n),some l => if 0 ≤ n ∧ n < l.length then some (ρ.set i (.own (l.eraseIdx n.toNat)),.next) else none
  | _,_ => none
 | .ite c a b,ρ => match evT cf c ρ with
  | some true => ex a ρ
  | some false => ex b ρ
  | none => none
 | .while c b,ρ => whileGo (evT cf c) (ex b) wf ρ
 | .forE i it b,ρ => match evI cf it ρ with
  | some items => forGo (put1 i) (ex b) items ρ
  | none => none
 | .forE2 i j it b,ρ => match evI cf it ρ with
  | some items => forGo (put2 i j) (ex b) items ρ
  | none => none
 | .forN is it b,ρ => match evI cf it ρ with
  | some items => forGo (putN is) (ex b) items ρ
  | none => none
 | .ret x,ρ => (ev1 cf x ρ).map fun d => (ρ,.ret d)
 | .brk,ρ => some (ρ,.brk)
 | .cont,ρ => some (ρ,.cont)
 | .assert c,ρ => match evT cf c ρ with
  | some true => some (ρ,.next)
  | _ => none
 | .try_ b,ρ => ex b ρ
 | .sem f,ρ => f cf ρ
 | .dNew i,ρ => if dSlot i && noApp i ρ then some (ρ.set i (.own []),.next) else none
 | .dSet i k x,ρ => match dicOwn ρ i,keyO (ev1 cf k ρ),ev1 cf x ρ with
  | some l,some q,some d => if (dictGet l q).isNone ∧ l.length < lim then some (ρ.set i (.own (l ++ [.tup [.str q,d]])),.next) else none
  | _,_,_ => none
 | .dFz i,ρ => match dicOwn ρ i with
  | some l => some (ρ.set i (.fdic l),.next)
  | none => none
theorem zbl {ρ : List Slot} {d} : ev cf (.const d) ρ = (some [.val d]) := rfl
theorem zcO {ρ : List Slot} {i} : ev cf (.var i) ρ = (match ρ[i]? with
  | some (.val d) => some [.val d]
  | some (.own l) => if dSlot i then none else some [.bor l]
  | _ => none) := rfl
theorem zlk {ρ : List Slot} {o a} : ev cf (.op o a) ρ = (match ev cf a ρ with
  | some rs => (opF o (rs.map R.ds)).map fun r => [r]
  | none => none) := rfl
theorem evq_nil {ρ : List Slot} : ev cf .nil ρ = (some []) := rfl
theorem zdo {ρ : List Slot} {a r} : ev cf (.cons a r) ρ = (match ev cf a ρ with
  | some [x] => (ev cf r ρ).map fun xs => x :: xs
  | _ => none) := rfl
theorem zkS {ρ : List Slot} {a} : ev cf (.star a) ρ = (match ev cf a ρ with
  | some [x] => (match x.fz with
   | some (.list l) => some (l.map .val)
   | some (.tup l) => some (l.map .val)
   | _ => none)
  | _ => none) := rfl
theorem zdW {ρ : List Slot} {a b} : ev cf (.and a b) ρ = (match ev cf a ρ with
  | some [x] => (match x.ds.truth with
   | some true => ev cf b ρ
   | some false => some [x]
   | none => none)
  | _ => none) := rfl
theorem zeI {ρ : List Slot} {a b} : ev cf (.or a b) ρ = (match ev cf a ρ with
  | some [x] => (match x.ds.truth with
   | some false => ev cf b ρ
   | some true => some [x]
   | none => none)
  | _ => none) := rfl
theorem zcQ {ρ : List Slot} {a} : ev cf (.not a) ρ = (match ev cf a ρ with
  | some [x] => x.ds.truth.map fun b => [.val (.bool (!b))]
  | _ => none) := rfl
theorem zdV {ρ : List Slot} {c t e} : ev cf (.ite c t e) ρ = (match truthR (ev cf c ρ) with
  | some true => ev cf t ρ
  | some false => ev cf e ρ
  | none => none) := rfl
theorem zhz {ρ : List Slot} {f a} : ev cf (.call f a) ρ = (match ev cf a ρ with
  | some rs => (match fzAll rs with
   | some ds => (cf f ds).map fun d => [.val d]
   | none => none)
  | none => none) := rfl
theorem zgL {ρ : List Slot} {a} : ev cf (.tup a) ρ = (match ev cf a ρ with
  | some rs => (match fzAll rs with
   | some ds => if ds.length ≤ lim then some [.val (.tup ds)] else none
   | none => none)
  | none => none) := rfl
theorem zfh {ρ : List Slot} {a} : ev cf (.list a) ρ = (match ev cf a ρ with
  | some rs => (match fzAll rs with
   | some ds => if ds.length ≤ lim then some [.own ds] else none
   | none => none)
  | none => none) := rfl
theorem zhy {ρ : List Slot} {i it c e} : ev cf (.comp i it c e) ρ = (match ev cf it ρ with
  | some [.val (.list items)] => (compGo (fun d => turnD (ev cf c (ρ.set i (.val d))) (ev cf e (ρ.set i (.val d)))) items).map fun l => [.own l]
  | _ => none) := rfl
theorem zfT {ρ : List Slot} {i it j jt e} : ev cf (.comp3 i it j jt e) ρ = (match itsR (ev cf it ρ) with
  | some items => (match flatGo (fun d => match itsR (ev cf jt (ρ.set i (.val d))) with
    | some its => compGo (fun d' => turnD (some [.val (.bool true)]) (ev cf e ((ρ.set i (.val d)).set j (.val d')))) its
    | none => none) items with
   | some l => if l.length ≤ lim then some [.own l] else none
   | none => none)
  | none => none) := rfl
theorem zhx {ρ : List Slot} {f a} : ev cf (.mapF f a) ρ = (match ev cf a ρ with
  | some [x] => (match x.ds with
   | .list items => (allSome (items.map fun d => cf f [d])).map fun l => [.val (.tup l)]
   | .tup items => (allSome (items.map fun d => cf f [d])).map fun l => [.val (.tup l)]
   | _ => none)
  | _ => none) := rfl
theorem zhw {ρ : List Slot} {a} : ev cf (.seqI a) ρ = (match ev cf a ρ with
  | some [x] => (match x.fz with
   | some d => (itemsOf d).map fun l => [.val (.list l)]
   | none => none)
  | _ => none) := rfl
theorem zcP {ρ : List Slot} {a} : ev cf (.rangeI a) ρ = (match ev cf a ρ with
  | some rs => (opRange (rs.map R.ds)).map fun l => [.val (.list l)]
  | none => none) := rfl
theorem zjH {ρ : List Slot} {a} : ev cf (.enumI a) ρ = (match ev cf a ρ with
  | some [x] => (match x.fz with
   | some d => (enumOf d).map fun l => [.val (.list (enumL 0 l))]
   | none => none)
  | _ => none) := rfl
theorem zhv {ρ : List Slot} {i it e} : ev cf (.setI i it e) ρ = (match ev cf it ρ with
  | some [.val (.list items)] => (match compGo (fun d => turnD (some [.val (.bool true)]) (ev cf e (ρ.set i (.val d)))) items with
   | some (.bool b :: r) => if r.all (fun d => match d with | .bool b' => b' == b | _ => false) then some [.val (.bool b)] else none
   | _ => none)
  | _ => none) := rfl
theorem zhs {ρ : List Slot} : ex cf .skip ρ = (some (ρ,.next)) := rfl
theorem zjz {ρ : List Slot} {a b} : ex cf (.seq a b) ρ = (match ex cf a ρ with
  | some (ρ',.next) => ex cf b ρ'
  | some (ρ',o) => some (ρ',o)
  | none => none) := rfl
theorem exq_fz {ρ : List Slot} {i} : ex cf (.fz i) ρ = (match ownAt ρ i with
  | some l => some (ρ.set i (.val (.list l)),.next)
  | none => some (ρ,.next)) := rfl
theorem zbX {ρ : List Slot} {i x} : ex cf (.assign i x) ρ = ((ev1 cf x ρ).map fun d => (ρ.set i (.val d),.next)) := rfl
theorem zce {ρ : List Slot} {i x} : ex cf (.assignO i x) ρ = (if noApp i ρ then (match ev cf x ρ with
  | some [.own l] => if dSlot i then none else some (ρ.set i (.own l),.next)
  | some [.val d] => some (ρ.set i (.val d),.next)
  | _ => none) else none) := rfl
theorem zgK {ρ : List Slot} {i j x} : ex cf (.assign2 i j x) ρ = (match ev1 cf x ρ with
  | some (.tup [a,b]) => some ((ρ.set i (.val a)).set j (.val b),.next)
  | _ => none) := rfl
theorem zdU {ρ : List Slot} {i j k x} : ex cf (.assign3 i j k x) ρ = (match ev1 cf x ρ with
  | some (.tup [a,b,c]) => some (((ρ.set i (.val a)).set j (.val b)).set k (.val c),.next)
  | _ => none) := rfl
theorem zjE {ρ : List Slot} {i j} : ex cf (.alias i j) ρ = (match ownAt ρ j with
  | some _ => some (ρ.set i (.app j),.next)
  | none => none) := rfl
theorem zeH {ρ : List Slot} {i x} : ex cf (.append i x) ρ = (match ev1 cf x ρ,ownAt ρ i with
  | some d,some l => if l.length < lim then some (ρ.set i (.own (l ++ [d])),.next) else none
  | _,_ => none) := rfl
theorem zfg {ρ : List Slot} {i j x} : ex cf (.appendVia i j x) ρ = (match ρ[i]? with
  | some (.app j') => if j' = j then (match ev1 cf x ρ,ownAt ρ j with
   | some d,some l => if l.length < lim then some (ρ.set j (.own (l ++ [d])),.next) else none
   | _,_ => none) else none
  | _ => none) := rfl
theorem exq_aug {ρ : List Slot} {i x} : ex cf (.aug i x) ρ = (match ρ[i]?,ev1 cf x ρ with
  | some (.val (.str a)),some (.str b) => if a.length + b.length ≤ lim then some (ρ.set i (.val (.str (a ++ b))),.next) else none
  | _,_ => none) := rfl
theorem exq_pop {ρ : List Slot} {i} : ex cf (.pop i) ρ = (match ownAt ρ i with
  | some l => (match l.getLast? with
   | some (.str _) => some (ρ.set i (.own l.dropLast),.next)
   | _ => none)
  | none => none) := rfl
theorem zgI {ρ : List Slot} {i k x} : ex cf (.setItem i k x) ρ = (match ev1 cf x ρ,ev1 cf k ρ,ownAt ρ i with
  | some d,some (.int n),some l => if small n then (match place n l.length with
   | some p => some (ρ.set i (.own (l.set p d)),.next)
   | none => none) else none
  | _,_,_ => none) := rfl
theorem zgJ {ρ : List Slot} {i k} : ex cf (.delItem i k) ρ = (match ev1 cf k ρ,ownAt ρ i with
  | some (.int n),some l => if 0 ≤ n ∧ n < l.length then some (ρ.set i (.own (l.eraseIdx n.toNat)),.next) else none
  | _,_ => none) := rfl
theorem zjC {ρ : List Slot} {c a b} : ex cf (.ite c a b) ρ = (match evT cf c ρ with
  | some true => ex cf a ρ
  | some false => ex cf b ρ
  | none => none) := rfl
theorem zfS {ρ : List Slot} {c b} : ex cf (.while c b) ρ = (whileGo (evT cf c) (ex cf b) wf ρ) := rfl
theorem zht {ρ : List Slot} {i it b} : ex cf (.forE i it b) ρ = (match evI cf it ρ with
  | some items => forGo (put1 i) (ex cf b) items ρ
  | none => none) := rfl
theorem zdT {ρ : List Slot} {i j it b} : ex cf (.forE2 i j it b) ρ = (match evI cf it ρ with
  | some items => forGo (put2 i j) (ex cf b) items ρ
  | none => none) := rfl
theorem zjB {ρ : List Slot} {x} : ex cf (.ret x) ρ = ((ev1 cf x ρ).map fun d => (ρ,.ret d)) := rfl
theorem zjD {ρ : List Slot} : ex cf .brk ρ = (some (ρ,.brk)) := rfl
theorem zhu {ρ : List Slot} : ex cf .cont ρ = (some (ρ,.cont)) := rfl
theorem zid {ρ : List Slot} {c} : ex cf (.assert c) ρ = (match evT cf c ρ with
  | some true => some (ρ,.next)
  | _ => none) := rfl
theorem zhr {ρ : List Slot} {b} : ex cf (.try_ b) ρ = (ex cf b ρ) := rfl
theorem zjA {ρ : List Slot} {f} : ex cf (.sem f) ρ = f cf ρ := rfl
end
set_option genInjectivity false in
structure Fn where
 np : Nat
 va : Bool
 ns : Nat
 body : S
noncomputable def bindD (f : Fn) (args : List D) : Option (List Slot) :=
 if f.va then (if f.np ≤ args.length ∧ args.length ≤ lim then some (((args.take f.np).map .val ++ [.val (.tup (args.drop f.np))]) ++ List.replicate (f.ns - f.np - 1) .unset) else none)
 else if args.length = f.np then some (args.map .val ++ List.replicate (f.ns - f.np) .unset) else none
noncomputable def callF (fns : Nat → Option Fn) : Nat → Nat → List D → Option D
 | 0,_,_ => none
 | n + 1,f,args => match fns f with
  | none => none
  | some fn => match bindD fn args with
   | none => none
   | some ρ => match ex (callF fns n) fn.body ρ with
    | some (_,.ret d) => some d
    | some (_,.next) => some .none
    | _ => none
end Mine
end
section
open PySem PySem.Calls PyProof.Rows
namespace Mine
set_option genInjectivity false in
structure Cx where
 prog : Program
 w : World
 h0 : Heap
 X : Addr → Prop
 XI : Heap → Prop
 T : Nat → Addr
 mg : Str → Option Value
 mb : Str → Option Value
 fa : Nat → Addr
section
variable (T : NAd) (F : AP) (h : Heap)
mutual
inductive Rep : Value → D → Prop
 | none : Rep .none .none
 | bool (b : Bool) : Rep (.bool b) (.bool b)
 | int (i : Int) (t : Tok) : Rep (.int i t) (.int i)
 | str {l : List Nat} (t : Tok) : (∀ c ∈ l,c < 0x110000) → l.length ≤ lim → Rep (.str ⟨l.toArray⟩ t) (.str l)
 | ty (n : String) : Rep (.type n) (.ty n)
 | list {a : Addr} {vs : List Value} {n : Nat} {ds : List D} : F a → h.get? a = some (lobj vs.toArray n) → vs.length ≤ lim → RepL vs ds → Rep (.ref a) (.list ds)
 | tup {a : Addr} {vs : List Value} {n : Nat} {ds : List D} : F a → h.get? a = some (tobj vs.toArray n) → vs.length ≤ lim → RepL vs ds → Rep (.ref a) (.tup ds)
 | tok {k : Nat} : (k < 2 → F (T k) ∧ ∃ n t,h.get? (T k) = some (lobj #[.str ⟨(tokC k).toArray⟩ t] n)) → Rep (.ref (T k)) (.tok k)
inductive RepL : List Value → List D → Prop
 | nil : RepL [] []
 | cons {v : Value} {vs : List Value} {d : D} {ds : List D} : Rep v d → RepL vs ds → RepL (v :: vs) (d :: ds)
end
end
section
variable {T : NAd} {F F' : AP} {h h' : Heap}
theorem Rep.mono (hF : ∀ a,F a → F' a) (hk : ∀ a o,F a → h.get? a = some o → h'.get? a = some o) {v : Value} {d : D} (r : Rep T F h v d) : Rep T F' h' v d :=
 Rep.rec (motive_1 := fun v d _ => Rep T F' h' v d) (motive_2 := fun vs ds _ => RepL T F' h' vs ds) .none .bool .int (fun t q z => .str t q z) .ty (fun f g z _ i => .list (hF _ f) (hk _ _ f g) z i) (fun f g z _ i => .tup (hF _ f) (hk _ _ f g) z i) (fun f => .tok fun h2 => let ⟨f,n,t,g⟩ := f h2; ⟨hF _ f,n,t,hk _ _ f g⟩) .nil (fun _ _ a b => .cons a b) r
theorem RepL.mono (hF : ∀ a,F a → F' a) (hk : ∀ a o,F a → h.get? a = some o → h'.get? a = some o) {vs : List Value} {ds : List D} (r : RepL T F h vs ds) : RepL T F' h' vs ds :=
 RepL.rec (motive_1 := fun v d _ => Rep T F' h' v d) (motive_2 := fun vs ds _ => RepL T F' h' vs ds) .none .bool .int (fun t q z => .str t q z) .ty (fun f g z _ i => .list (hF _ f) (hk _ _ f g) z i) (fun f g z _ i => .tup (hF _ f) (hk _ _ f g) z i) (fun f => .tok fun h2 => let ⟨f,n,t,g⟩ := f h2; ⟨hF _ f,n,t,hk _ _ f g⟩) .nil (fun _ _ a b => .cons a b) r
theorem RepL.ind {motive : List Value → List D → Prop} (hn : motive [] []) (hc : ∀ {v vs d ds},Rep T F h v d → RepL T F h vs ds → motive vs ds → motive (v :: vs) (d :: ds)) {vs : List Value} {ds : List D} (q : RepL T F h vs ds) : motive vs ds :=
 RepL.rec (motive_1 := fun _ _ _ => True) (motive_2 := fun vs ds _ => motive vs ds) trivial (fun _ => trivial) (fun _ _ => trivial) (fun _ _ _ => trivial) (fun _ => trivial) (fun _ _ _ _ _ => trivial) (fun _ _ _ _ _ => trivial) (fun _ => trivial) hn (fun a r _ i => hc a r i) q
theorem RepL.length {vs : List Value} {ds : List D} (q : RepL T F h vs ds) : vs.length = ds.length :=
 q.ind (motive := fun vs ds => vs.length = ds.length) rfl fun _ _ i => congrArg Nat.succ i
theorem RepL.append {vs ws : List Value} {ds es : List D} (q : RepL T F h vs ds) (k : RepL T F h ws es) : RepL T F h (vs ++ ws) (ds ++ es) :=
 q.ind (motive := fun vs ds => RepL T F h (vs ++ ws) (ds ++ es)) k fun a _ i => .cons a i
theorem RepL.get {vs : List Value} {ds : List D} (q : RepL T F h vs ds) : ∀ {k : Nat} {d : D},ds[k]? = some d → ∃ v,vs[k]? = some v ∧ Rep T F h v d :=
 q.ind (motive := fun vs ds => ∀ {k : Nat} {d : D},ds[k]? = some d → ∃ v,vs[k]? = some v ∧ Rep T F h v d) (fun e => nomatch e) fun a _ i => by
  intro k d e
  cases k with
  | zero => (injection e with e; subst e); exact ⟨_,rfl,a⟩
  | succ k => exact i (k := k) e
theorem RepL.getV {vs : List Value} {ds : List D} (r : RepL T F h vs ds) {k : Nat} {v : Value} (e : vs[k]? = some v) : ∃ d,ds[k]? = some d ∧ Rep T F h v d := by
 have hk : k < vs.length := by
  rcases Nat.lt_or_ge k vs.length with q | q
  ·exact q
  ·rw [List.getElem?_eq_none q] at e; injection e
 have hk' : k < ds.length := r.length ▸ hk
 obtain ⟨v',e',rv⟩ := r.get (List.getElem?_eq_getElem hk')
 rw [e] at e'; (injection e' with e'; subst e')
 exact ⟨_,List.getElem?_eq_getElem hk',rv⟩
theorem RepL.take {vs : List Value} {ds : List D} (n : Nat) (q : RepL T F h vs ds) : RepL T F h (vs.take n) (ds.take n) :=
 q.ind (motive := fun vs ds => ∀ n,RepL T F h (vs.take n) (ds.take n)) (fun n => by cases n <;> exact .nil) (fun a _ i n => by cases n with | zero => exact .nil | succ n => exact .cons a (i n)) n
theorem RepL.set {vs : List Value} {ds : List D} (n : Nat) {v : Value} {d : D} (q : RepL T F h vs ds) (k : Rep T F h v d) : RepL T F h (vs.set n v) (ds.set n d) :=
 q.ind (motive := fun vs ds => ∀ n,RepL T F h (vs.set n v) (ds.set n d)) (fun _ => .nil) (fun a r i n => by cases n with | zero => exact .cons k r | succ n => exact .cons a (i n)) n
theorem RepL.eraseIdx {vs : List Value} {ds : List D} (n : Nat) (q : RepL T F h vs ds) : RepL T F h (vs.eraseIdx n) (ds.eraseIdx n) :=
 q.ind (motive := fun vs ds => ∀ n,RepL T F h (vs.eraseIdx n) (ds.eraseIdx n)) (fun _ => .nil) (fun a r i n => by cases n with | zero => exact r | succ n => exact .cons a (i n)) n
theorem RepL.dropLast {vs : List Value} {ds : List D} (r : RepL T F h vs ds) : RepL T F h vs.dropLast ds.dropLast := by
 rw [List.dropLast_eq_take,List.dropLast_eq_take,r.length]; exact r.take _
theorem RepL.reverse {vs : List Value} {ds : List D} (q : RepL T F h vs ds) : RepL T F h vs.reverse ds.reverse :=
 q.ind (motive := fun vs ds => RepL T F h vs.reverse ds.reverse) .nil fun a _ i => by rw [List.reverse_cons,List.reverse_cons]; exact i.append (.cons a .nil)
theorem RepL.pickAt (is : List Nat) {vs : List Value} {ds : List D} (r : RepL T F h vs ds) : RepL T F h (is.filterMap (vs[·]?)) (is.filterMap (ds[·]?)) := by
 induction is with
 | nil => exact .nil
 | cons k is ih =>
  rcases Nat.lt_or_ge k ds.length with q | q
  ·obtain ⟨v,e,rv⟩ := r.get (List.getElem?_eq_getElem q)
   rw [List.filterMap_cons_some e,List.filterMap_cons_some (List.getElem?_eq_getElem q)]
   exact .cons rv ih
  ·rw [List.filterMap_cons_none (by simpa using r.length ▸ q),List.filterMap_cons_none (by simpa using q)]
   exact ih
theorem RepL.rep (n : Nat) {vs : List Value} {ds : List D} (r : RepL T F h vs ds) : RepL T F h (List.replicate n vs).flatten (List.replicate n ds).flatten := by
 induction n with
 | zero => simp; exact .nil
 | succ n ih => simp only [List.replicate_succ,List.flatten_cons]; exact r.append ih
theorem Rep.reads {v : Value} {d : D} {n : Nat} (r : Rep T F h v d) (q : d.ok n = true) : ∃ as,Reads h v d.toPy as := by
 have nx : ∀ {d : D} {n : Nat},d.ok n = true → ∃ k,n = k + 1 := fun {d n} q => by
  cases n with
  | zero => unfold D.ok at q; injection q
  | succ k => exact ⟨k,rfl⟩
 refine Rep.rec (motive_1 := fun v d _ => ∀ n,d.ok n = true → ∃ as,Reads h v d.toPy as) (motive_2 := fun vs ds _ => ∀ n,D.oks n ds = true → ∃ as,ReadsAll h vs (D.toPys ds) as) (fun _ _ => ⟨[],.none⟩) (fun b _ _ => ⟨[],.bool b⟩) (fun i t _ _ => ⟨[],.int i t⟩) (fun t _ _ _ _ => ⟨[],.str _ t⟩) (fun m n q => ?_) (fun f g _ _ ih n q => ?_) (fun f g _ _ ih n q => ?_) (fun f n q => ?_) (fun _ _ => ⟨[],.nil⟩) (fun _ _ i1 i2 n q => ?_) r n q
 ·obtain ⟨k,rfl⟩ := nx q; injection q
 ·obtain ⟨k,rfl⟩ := nx q
  obtain ⟨as,x⟩ := ih k q
  exact ⟨_,Reads.list g rfl rfl (by rw [List.toList_toArray]; exact x)⟩
 ·obtain ⟨k,rfl⟩ := nx q
  obtain ⟨as,x⟩ := ih k q
  exact ⟨_,Reads.tuple g rfl rfl (by rw [List.toList_toArray]; exact x)⟩
 ·obtain ⟨j,rfl⟩ := nx q
  obtain ⟨_,_,t,g⟩ := f (of_decide_eq_true (Bool.and_eq_true_iff.mp q).2)
  exact ⟨_,Reads.list g rfl rfl (.cons (.str _ t) .nil)⟩
 ·have q' := Bool.and_eq_true_iff.mp q
  obtain ⟨as,x⟩ := i1 n q'.1
  obtain ⟨bs,y⟩ := i2 n q'.2
  exact ⟨as ++ bs,.cons x y⟩
theorem RepL.reads {vs : List Value} {ds : List D} {n : Nat} (r : RepL T F h vs ds) (q : D.oks n ds = true) : ∃ as,ReadsAll h vs (D.toPys ds) as :=
 r.ind (motive := fun vs ds => D.oks n ds = true → ∃ as,ReadsAll h vs (D.toPys ds) as) (fun _ => ⟨[],.nil⟩) (fun a _ i q => by
  have q' := Bool.and_eq_true_iff.mp q
  obtain ⟨as,x⟩ := a.reads q'.1
  obtain ⟨bs,y⟩ := i q'.2
  exact ⟨as ++ bs,.cons x y⟩) q
end
section
variable {T : NAd} {F F' : AP} {h h' : Heap}
theorem zg3 {l : List Nat} (q : ∀ c ∈ l,c < 0x110000) : PyData.strOk ⟨l.toArray⟩ = true := by
 unfold PyData.strOk
 simpa [List.all_eq_true] using q
theorem Rep.lay {v : Value} {d : D} {n : Nat} (r : Rep T F h v d) (q : d.ok n = true) : d.toPy.canLay0 = true ∧ d.toPy.depth ≤ n := by
 have nx : ∀ {d : D} {n : Nat},d.ok n = true → ∃ k,n = k + 1 := fun {d n} q => by
  cases n with
  | zero => unfold D.ok at q; injection q
  | succ k => exact ⟨k,rfl⟩
 refine Rep.rec (motive_1 := fun v d _ => ∀ n,d.ok n = true → d.toPy.canLay0 = true ∧ d.toPy.depth ≤ n) (motive_2 := fun vs ds _ => ∀ n,D.oks n ds = true → PyData.canLayAll0 (D.toPys ds) = true ∧ PyData.depthAll (D.toPys ds) ≤ n) (fun _ _ => ⟨rfl,Nat.zero_le _⟩) (fun _ _ _ => ⟨rfl,Nat.zero_le _⟩) (fun _ _ _ _ => ⟨rfl,Nat.zero_le _⟩) (fun t p _ _ _ => ⟨zg3 p,Nat.zero_le _⟩) (fun m n q => ?_) (fun f g _ _ ih n q => ?_) (fun f g _ _ ih n q => ?_) (fun {k} f n q => ?_) (fun _ _ => ⟨rfl,Nat.zero_le _⟩) (fun _ _ i1 i2 n q => ?_) r n q
 ·obtain ⟨k,rfl⟩ := nx q; injection q
 ·obtain ⟨k,rfl⟩ := nx q
  have := ih k q
  simp only [D.toPy,PyData.canLay0,PyData.depth]
  exact ⟨this.1,by omega⟩
 ·obtain ⟨k,rfl⟩ := nx q
  have := ih k q
  simp only [D.toPy,PyData.canLay0,PyData.depth]
  exact ⟨this.1,by omega⟩
 ·obtain ⟨j,rfl⟩ := nx q
  have e : PyData.strOk ⟨(tokC k).toArray⟩ = true := zg3 (by cases k <;> simp [tokC])
  have hj : 0 < j := of_decide_eq_true (Bool.and_eq_true_iff.mp q).1
  simp only [D.toPy,PyData.canLay0,PyData.canLayAll0,PyData.depth,PyData.depthAll,e,Bool.and_self,true_and]; omega
 ·have q' := Bool.and_eq_true_iff.mp q
  have x := i1 n q'.1
  have y := i2 n q'.2
  simp only [D.toPys,PyData.canLayAll0,PyData.depthAll,x.1,y.1]
  exact ⟨rfl,by omega⟩
theorem RepL.lay {vs : List Value} {ds : List D} {n : Nat} (r : RepL T F h vs ds) (q : D.oks n ds = true) : PyData.canLayAll0 (D.toPys ds) = true ∧ PyData.depthAll (D.toPys ds) ≤ n :=
 r.ind (motive := fun vs ds => D.oks n ds = true → PyData.canLayAll0 (D.toPys ds) = true ∧ PyData.depthAll (D.toPys ds) ≤ n) (fun _ => ⟨rfl,Nat.zero_le _⟩) (fun a _ i q => by
  have q' := Bool.and_eq_true_iff.mp q
  have x := a.lay q'.1
  have y := i q'.2
  simp only [D.toPys,PyData.canLayAll0,PyData.depthAll,x.1,y.1]
  exact ⟨rfl,Nat.max_le.mpr ⟨x.2,y.2⟩⟩) q
theorem Rep.shaped {v : Value} {d : D} {n : Nat} (r : Rep T F h v d) (q : d.ok n = true) (hn : n ≤ 60) : PySem.SeqAt.shaped d.toPy = true := by
 have l := r.lay q
 unfold PySem.SeqAt.shaped
 rw [l.1,Bool.true_and]; exact decide_eq_true (by omega)
end
noncomputable def GensBare (a : Array GenState) : Prop := ∀ g ∈ a,g.bare = true
set_option genInjectivity false in
structure XCx extends Cx where
 XF : (Addr → Prop) → Heap → Prop
 cok : (Nat → List D → Option D) → Prop := fun _ => True
set_option genInjectivity false in
structure Wd (cx : XCx) (F : AP) (s : Shared) : Prop where
 base : ∀ a o,cx.h0.get? a = some o → ¬ cx.X a → s.heap.get? a = some o
 xi : cx.XF F s.heap
 gens : GensBare s.gens
 f0 : ∀ a o,cx.h0.get? a = some o → ¬ cx.X a → F a
 lt : ∀ a,F a → ∃ o,s.heap.get? a = some o
 nx : ∀ a,F a → ¬ cx.X a
 xex : ∀ a,cx.X a → ∃ o,s.heap.get? a = some o
set_option genInjectivity false in
structure CxOk (cx : XCx) : Prop where
 xi : ∀ F F' h h',cx.XF F h → (∀ a,F a → F' a) → (∀ a o,F a ∨ cx.X a → h.get? a = some o → h'.get? a = some o) → cx.XF F' h'
 glob : cx.h0.Ns mainGlobals cx.mg
 gx : ¬ cx.X mainGlobals
 blt : cx.h0.Ns builtinsNs cx.mb
 bx : ¬ cx.X builtinsNs
 bmb : ∀ x : Str,x ≠ "__name__" → cx.mb x = bootBuiltins x
 lim : cx.h0.NoLimit
 limx : ¬ cx.X cStatics
 seer : ∀ h : Heap,(∀ a o,cx.h0.get? a = some o → ¬ cx.X a → h.get? a = some o) → h.NoSeer
 tree : cx.prog.given.tree = none
 nb : ∃ mc,cx.h0.Ns cStatics mc ∧ mc sharingNotToldKey = none
 tinj : ∀ i j,cx.T i = cx.T j → i = j
set_option genInjectivity false in
structure Step (cx : XCx) (F : AP) (s : Shared) (F' : AP) (s' : Shared) : Prop where
 sub : ∀ a,F a → F' a
 new : ∀ a,F' a → F a ∨ s.heap.get? a = none
 keep : ∀ a o,s.heap.get? a = some o → ¬ cx.X a → s'.heap.get? a = some o
 os : s'.os = s.os
 wd : Wd cx F' s'
theorem zaE (h : Heap) : h.get? h.objs.size = none := by
 cases e : h.get? h.objs.size with
 | none => rfl
 | some o => exact absurd (Heap.lt_size e) (Nat.lt_irrefl _)
section
variable {cx : XCx} {F F' F'' : AP} {s s' s'' : Shared}
theorem Step.refl (w : Wd cx F s) : Step cx F s F s := ⟨fun _ h => h,fun _ h => .inl h,fun _ _ e _ => e,rfl,w⟩
theorem Step.fresh (x : Step cx F s F' s') {a : Addr} (nx : ¬ cx.X a) (h : s'.heap.get? a = none) : s.heap.get? a = none := by
 cases e : s.heap.get? a with
 | none => rfl
 | some o => rw [x.keep a o e nx] at h; injection h
theorem Step.trans (x : Step cx F s F' s') (y : Step cx F' s' F'' s'') : Step cx F s F'' s'' :=
 ⟨fun a h => y.sub a (x.sub a h),fun a h => by
  rcases y.new a h with q | q
  ·exact x.new a q
  ·exact .inr (x.fresh (y.wd.nx a h) q),fun a o e nx => y.keep a o (x.keep a o e nx) nx,y.os.trans x.os,y.wd⟩
theorem Wd.toks (w : Wd cx F s) (k : Nat) : Wd cx F { s with toks := k } := ⟨w.base,w.xi,w.gens,w.f0,w.lt,w.nx,w.xex⟩
theorem Step.toks (x : Step cx F s F' s') (k : Nat) : Step cx F s F' { s' with toks := k } := ⟨x.sub,x.new,x.keep,x.os,x.wd.toks k⟩
theorem Step.rep (x : Step cx F s F' s') (w : Wd cx F s) {v : Value} {d : D} (r : Rep cx.T F s.heap v d) : Rep cx.T F' s'.heap v d := r.mono x.sub fun a o f e => x.keep a o e (w.nx a f)
theorem Step.repL (x : Step cx F s F' s') (w : Wd cx F s) {v : List Value} {d : List D} (r : RepL cx.T F s.heap v d) : RepL cx.T F' s'.heap v d := r.mono x.sub fun a o f e => x.keep a o e (w.nx a f)
theorem Step.grown (ok : CxOk cx) (w : Wd cx F s) {h' : Heap} (k : Nat) (hk : ∀ a o,s.heap.get? a = some o → h'.get? a = some o) : Step cx F s F { s with heap := h',toks := k } :=
 ⟨fun _ h => h,fun _ h => .inl h,fun a o e _ => hk a o e,rfl,⟨fun a o e nx => hk a o (w.base a o e nx),ok.xi _ _ _ _ w.xi (fun _ h => h) (fun a o _ e => hk a o e),w.gens,w.f0,fun a f => let ⟨o,e⟩ := w.lt a f; ⟨o,hk a o e⟩,w.nx,fun a f => let ⟨o,e⟩ := w.xex a f; ⟨o,hk a o e⟩⟩⟩
theorem Step.push (ok : CxOk cx) (w : Wd cx F s) (o : Obj) (k : Nat) : Step cx F s F { s with heap := s.heap.push o,toks := k } :=
 Step.grown ok w k fun _ _ e => Heap.get?_push_of_some o e
theorem Wd.newNotX (w : Wd cx F s) {a : Addr} (h : s.heap.get? a = none) : ¬ cx.X a := fun x => by
 obtain ⟨o,e⟩ := w.xex a x
 rw [e] at h; injection h
theorem Wd.newNotF (w : Wd cx F s) {a : Addr} (h : s.heap.get? a = none) : ¬ F a := fun x => by
 obtain ⟨o,e⟩ := w.lt a x
 rw [e] at h; injection h
theorem Step.freeze (ok : CxOk cx) (w : Wd cx F s) (x : Step cx F s F' s') {a : Addr} {o : Obj} (h1 : s.heap.get? a = none) (h2 : s'.heap.get? a = some o) : Step cx F s (fun b => F' b ∨ b = a) s' :=
 ⟨fun b h => .inl (x.sub b h),fun b h => h.elim (x.new b) fun e => .inr (e ▸ h1),x.keep,x.os,
  ⟨x.wd.base,ok.xi _ _ _ _ x.wd.xi (fun _ h => .inl h) (fun _ _ _ e => e),x.wd.gens,fun b o h nx => .inl (x.wd.f0 b o h nx),fun b h => h.elim (x.wd.lt b) fun e => e ▸ ⟨o,h2⟩,
   fun b h => h.elim (x.wd.nx b) fun e => e ▸ w.newNotX h1,x.wd.xex⟩⟩
theorem Step.notF (x : Step cx F s F' s') {a : Addr} {o : Obj} (h : ¬ F a) (hl : s.heap.get? a = some o) : ¬ F' a := fun h' => by
 rcases x.new a h' with q | q
 ·exact h q
 ·rw [hl] at q; injection q
theorem Wd.glob (ok : CxOk cx) (w : Wd cx F s) : s.heap.Ns mainGlobals cx.mg := ok.glob.at' fun o e => w.base _ o e ok.gx
theorem Wd.blt (ok : CxOk cx) (w : Wd cx F s) : s.heap.Ns builtinsNs cx.mb := ok.blt.at' fun o e => w.base _ o e ok.bx
theorem Wd.lim (ok : CxOk cx) (w : Wd cx F s) : s.heap.NoLimit := ok.lim.at fun o e => w.base _ o e ok.limx
end
inductive BRep (cx : XCx) (F : AP) (h : Heap) : Value → D → Prop
 | rep {v : Value} {d : D} : Rep cx.T F h v d → BRep cx F h v d
 | own {a : Addr} {vs : List Value} {n : Nat} {l : List D} : ¬ cx.X a → h.get? a = some (lobj vs.toArray n) → vs.length ≤ lim → RepL cx.T F h vs l → BRep cx F h (.ref a) (.list l)
inductive BRepL (cx : XCx) (F : AP) (h : Heap) : List Value → List D → Prop
 | nil : BRepL cx F h [] []
 | cons {v : Value} {vs : List Value} {d : D} {ds : List D} : BRep cx F h v d → BRepL cx F h vs ds → BRepL cx F h (v :: vs) (d :: ds)
inductive RepR (cx : XCx) (F : AP) (lo : Heap) (h : Heap) : Value → R → Prop
 | val {v : Value} {d : D} : Rep cx.T F h v d → RepR cx F lo h v (.val d)
 | own {a : Addr} {vs : List Value} {n : Nat} {l : List D} : lo.get? a = none → ¬ F a → ¬ cx.X a → h.get? a = some (lobj vs.toArray n) → vs.length ≤ lim → RepL cx.T F h vs l → RepR cx F lo h (.ref a) (.own l)
 | bor {a : Addr} {vs : List Value} {n : Nat} {l : List D} : ¬ cx.X a → h.get? a = some (lobj vs.toArray n) → vs.length ≤ lim → RepL cx.T F h vs l → RepR cx F lo h (.ref a) (.bor l)
section
variable {cx : XCx} {F F' F'' : AP} {s s' s'' : Shared} {v : Value} {d : D} {r : R} {lo : Heap} {vs : List Value} {ds : List D}
theorem Step.brep (x : Step cx F s F' s') (w : Wd cx F s) (b : BRep cx F s.heap v d) : BRep cx F' s'.heap v d := by
 cases b with
 | rep q => exact .rep (x.rep w q)
 | own nx e z q => exact .own nx (x.keep _ _ e nx) z (x.repL w q)
theorem RepR.brep {h : Heap} (q : RepR cx F lo h v r) : BRep cx F h v r.ds := by
 cases q with
 | val q => exact .rep q
 | own _ _ nx e z q => exact .own nx e z q
 | bor nx e z q => exact .own nx e z q
theorem RepR.step (x : Step cx F s F' s') (w : Wd cx F s) (q : RepR cx F lo s.heap v r) : RepR cx F' lo s'.heap v r := by
 cases q with
 | val q => exact .val (x.rep w q)
 | own l nf nx e z q => exact .own l (x.notF nf e) nx (x.keep _ _ e nx) z (x.repL w q)
 | bor nx e z q => exact .bor nx (x.keep _ _ e nx) z (x.repL w q)
theorem RepR.low (x : Step cx F s F' s') {F'' : AP} {h : Heap} (q : RepR cx F'' s'.heap h v r) : RepR cx F'' s.heap h v r := by
 cases q with
 | val q => exact .val q
 | own l nf nx e z q => exact .own (x.fresh nx l) nf nx e z q
 | bor nx e z q => exact .bor nx e z q
theorem Step.fz (ok : CxOk cx) (w : Wd cx F s) (x : Step cx F s F' s') (q : RepR cx F' s.heap s'.heap v r) (e : r.fz = some d) :
  ∃ F'',Step cx F s F'' s' ∧ (∀ a,F' a → F'' a) ∧ Rep cx.T F'' s'.heap v d := by
 cases q with
 | val q => cases e; exact ⟨F',x,fun _ h => h,q⟩
 | own l nf nx g z q =>
  (injection e with e; subst e)
  exact ⟨_,x.freeze ok w l g,fun _ h => .inl h,.list (.inr rfl) g z (q.mono (fun _ h => .inl h) fun _ _ _ e => e)⟩
 | bor nx g z q => injection e
end
set_option genInjectivity false in
structure Bud (n : Nat) (A : Around) : Prop where
 hd : A.handled = none
 dp : A.depth + n < 890
 un : A.units + 10 * n + 200 < 9900
 fs : ∃ l,A.frames = some l
theorem Bud.lt {n k : Nat} {A : Around} (b : Bud n A) (h : k ≤ 200) : A.units + k < cLine := by have := b.un; show A.units + k < 9900; omega
set_option genInjectivity false in
structure BudE (n : Nat) (A : Around) : Prop extends Bud n A where
 sl : A.units + 10 * n + 207 < 9900
 fr : ∃ env l,A.frames = some (env :: l) ∧ env.scope.isGenerator = false ∧ env.scope.isCoroutine = false ∧ env.builtins = builtinsNs ∧ env.globals = mainGlobals
noncomputable def Post (cx : XCx) (F : AP) (s : Shared) (r : R) (Q : VP) : Prop :=
 ∀ v F' s',Step cx F s F' s' → RepR cx F' s.heap s'.heap v r → Q v s'
noncomputable def Ev (cx : XCx) (A : Around) (F : AP) (s : Shared) (t : Sem Value) (r : R) : Prop := ∀ Q E,Post cx F s r Q → wpAny (model cx.prog cx.w) A t Q E s
noncomputable def EvB (cx : XCx) (A : Around) (F : AP) (s : Shared) (t : Sem Bool) (b : Bool) : Prop := ∀ Q E,(∀ F' s',Step cx F s F' s' → Q b s') → wpAny (model cx.prog cx.w) A t Q E s
set_option genInjectivity false in
structure Sc where
 kinds : List (Str × NameKind)
 vars : List (Str × Nat)
 code : Option (Addr × PySem.Str) := none
 top : Bool := false
inductive KV (T : NAd) (F : AP) (h : Heap) : List (Str × Value) → List D → Prop
 | nil : KV T F h [] []
 | cons {k : List Nat} {v : Value} {d : D} {kvs : List (Str × Value)} {l : List D} : (∀ c ∈ k,c < 0x110000) → k.length ≤ lim → Rep T F h v d → KV T F h kvs l → KV T F h ((⟨k.toArray⟩,v) :: kvs) (.tup [.str k,d] :: l)
theorem KV.mono {T : NAd} {F F' : AP} {h h' : Heap} (hF : ∀ a,F a → F' a) (hk : ∀ a o,F a → h.get? a = some o → h'.get? a = some o) {kvs : List (Str × Value)} {l : List D} (q : KV T F h kvs l) : KV T F' h' kvs l := by
 induction q with
 | nil => exact .nil
 | cons a b r _ ih => exact .cons a b (r.mono hF hk) ih
inductive SlotRep (cx : XCx) (F : AP) (h : Heap) (ad : NAd) (i : Nat) : Option Value → Slot → Prop
 | unset {ov : Option Value} : SlotRep cx F h ad i ov .unset
 | val {v : Value} {d : D} : Rep cx.T F h v d → SlotRep cx F h ad i (some v) (.val d)
 | own {vs : List Value} {n : Nat} {l : List D} : ¬ F (ad i) → ¬ cx.X (ad i) → h.get? (ad i) = some (lobj vs.toArray n) → vs.length ≤ lim → RepL cx.T F h vs l → dSlot i = false → SlotRep cx F h ad i (some (.ref (ad i))) (.own l)
 | dic {kvs : List (Str × Value)} {l : List D} : ¬ F (ad i) → ¬ cx.X (ad i) → (ad i == sysModules) = false → h.DictOf (strKind cx.prog cx.w) (ad i) kvs → KV cx.T F h kvs l → l.length ≤ lim → dSlot i = true → SlotRep cx F h ad i (some (.ref (ad i))) (.own l)
 | fdic {a : Addr} {kvs : List (Str × Value)} {l : List D} : F a → (a == sysModules) = false → h.DictOf (strKind cx.prog cx.w) a kvs → KV cx.T F h kvs l → l.length ≤ lim → SlotRep cx F h ad i (some (.ref a)) (.fdic l)
 | app {b : Addr} {o : Obj} {j : Nat} : F b → h.get? b = some o → o = appObj (ad j) → SlotRep cx F h ad i (some (.ref b)) (.app j)
noncomputable def slotAt (ρ : List Slot) (i : Nat) : Slot := ρ.getD i .unset
set_option genInjectivity false in
structure EnvOK (cx : XCx) (ε : Sc) (env : Env) (F : AP) (h : Heap) (ρ : List Slot) (ad : NAd) (m cm : SV) : Prop where
 kind : env.scope.kind = .function
 names : env.scope.names = ε.kinds
 glob : env.globals = mainGlobals
 blt : env.builtins = builtinsNs
 code : ∀ c q,ε.code = some (c,q) → env.code = .ref c ∧ env.qual = q
 lx : ¬ cx.X env.locals
 cxx : ∀ n c,env.cells.lookup n = some c → ¬ cx.X c
 ns : h.Ns env.locals m
 cells : ∀ n c,env.cells.lookup n = some c → h.IsCell c (cm n)
 vars : ∀ x i,ε.vars.lookup x = some i →
  (ε.kinds.lookup x = some .local ∧ SlotRep cx F h ad i (m x) (slotAt ρ i)) ∨
  ((ε.kinds.lookup x = some .cell ∨ ε.kinds.lookup x = some .free) ∧ (∃ c,env.cells.lookup x = some c) ∧ SlotRep cx F h ad i (cm x) (slotAt ρ i))
section
variable {cx : XCx} {F F' : AP} {s s' : Shared} {ε : Sc} {env : Env} {ρ : List Slot} {ad : NAd} {m cm : SV}
theorem SlotRep.step {i : Nat} {ov : Option Value} {sl : Slot} (x : Step cx F s F' s') (w : Wd cx F s) (q : SlotRep cx F s.heap ad i ov sl) : SlotRep cx F' s'.heap ad i ov sl := by
 cases q with
 | unset => exact .unset
 | val q => exact .val (x.rep w q)
 | own nf nx g z q hd => exact .own (x.notF nf g) nx (x.keep _ _ g nx) z (x.repL w q) hd
 | dic nf nx sm g q z hd =>
  obtain ⟨o,es,ep,ho,r⟩ := g
  exact .dic (x.notF nf ho) nx sm ⟨o,es,ep,x.keep _ _ ho nx,r⟩ (q.mono x.sub fun a o f e => x.keep a o e (w.nx a f)) z hd
 | fdic f sm g q z =>
  obtain ⟨o,es,ep,ho,r⟩ := g
  exact .fdic (x.sub _ f) sm ⟨o,es,ep,x.keep _ _ ho (w.nx _ f),r⟩ (q.mono x.sub fun a o f e => x.keep a o e (w.nx a f)) z
 | app f g e => exact .app (x.sub _ f) (x.keep _ _ g (w.nx _ f)) e
theorem RepR.pushOwn (w : Wd cx F s) {vs : List Value} {l : List D} (z : vs.length ≤ lim) (q : RepL cx.T F s.heap vs l) : RepR cx F s.heap (s.heap.push (lobj vs.toArray 0)) (.ref s.heap.objs.size) (.own l) :=
 .own (n := 0) (zaE _) (w.newNotF (zaE _)) (w.newNotX (zaE _)) (Heap.get?_push_size _ rfl) z (q.mono (fun _ h => h) fun _ _ _ e => Heap.get?_push_of_some _ e)
theorem EnvOK.step (x : Step cx F s F' s') (w : Wd cx F s) (e : EnvOK cx ε env F s.heap ρ ad m cm) : EnvOK cx ε env F' s'.heap ρ ad m cm :=
 ⟨e.kind,e.names,e.glob,e.blt,e.code,e.lx,e.cxx,e.ns.at' fun o g => x.keep _ o g e.lx,fun n c hc => let ⟨o,g,d⟩ := e.cells n c hc; ⟨o,x.keep _ o g (e.cxx n c hc),d⟩,
  fun y i hy => (e.vars y i hy).imp (fun ⟨k,q⟩ => ⟨k,q.step x w⟩) fun ⟨k,c,q⟩ => ⟨k,c,q.step x w⟩⟩
end
noncomputable def FnAt (cx : XCx) (f : Nat) : Prop := ∃ o fd,cx.h0.get? (cx.fa f) = some o ∧ o.data = .func fd ∧ ¬ cx.X (cx.fa f)
set_option genInjectivity false in
structure CallOK (cx : XCx) (n : Nat) (cf : CfT) : Prop where
 cok : cx.cok cf
 call : ∀ f args d,cf f args = some d → FnAt cx f ∧ ∀ A F s vs,Bud n A → Wd cx F s → RepL cx.T F s.heap vs args → ∀ (Rs : Result → Shared → Prop),(∀ v F' s',Step cx F s F' s' → Rep cx.T F' s'.heap v d → Rs (.ok (.ret v)) s') →
  codeAny (model cx.prog cx.w) A (.call (.ref (cx.fa f)) ⟨vs,[]⟩) Rs s
set_option genInjectivity false in
structure Here (cx : XCx) (ε : Sc) (n : Nat) (cf : CfT) (A : Around) (env : Env) (F : AP) (s : Shared) (ρ : List Slot) (ad : NAd) (m cm : SV) : Prop where
 ok : CxOk cx
 calls : CallOK cx n cf
 bud : BudE n A
 wd : Wd cx F s
 env : EnvOK cx ε env F s.heap ρ ad m cm
theorem Here.step {cx : XCx} {ε : Sc} {n : Nat} {cf : CfT} {A : Around} {env : Env} {F F' : AP} {s s' : Shared} {ρ : List Slot} {ad : NAd} {m cm : SV}
  (H : Here cx ε n cf A env F s ρ ad m cm) (x : Step cx F s F' s') : Here cx ε n cf A env F' s' ρ ad m cm := ⟨H.ok,H.calls,H.bud,x.wd,H.env.step x H.wd⟩
noncomputable def SoundE (cx : XCx) (ε : Sc) (e : Expr) (x : X) : Prop :=
 ∀ n cf A env F s ρ ad m cm,Here cx ε n cf A env F s ρ ad m cm → ∀ r,ev cf x ρ = some [r] → Ev cx A F s (eval e env) r
noncomputable def SoundT (cx : XCx) (ε : Sc) (e : Expr) (x : X) : Prop :=
 ∀ n cf A env F s ρ ad m cm,Here cx ε n cf A env F s ρ ad m cm → ∀ b,evT cf x ρ = some b → EvB cx A F s (isTrue e env (eval e env)) b
set_option genInjectivity false in
structure Sound (cx : XCx) (ε : Sc) (e : Expr) (x : X) : Prop where
 ev : SoundE cx ε e x
 tr : SoundT cx ε e x
section
variable {cx : XCx} {A : Around} {F F' : AP} {s s' : Shared} {t : Sem Value} {r : R}
theorem Ev.here (w : Wd cx F s) {v : Value} (q : RepR cx F s.heap s.heap v r) : Ev cx A F s (pure v) r := fun _ _ h => wpAny_pure (h v F s (Step.refl w) q)
theorem Post.after {Q : VP} (x : Step cx F s F' s') (h : Post cx F s r Q) : Post cx F' s' r Q := fun v F'' s'' y q => h v F'' s'' (x.trans y) (q.low x)
theorem Ev.bind {α : Type} {k : Value → Sem α} {Q : α → Shared → Prop} {E : VP} (h : Ev cx A F s t r)
  (g : ∀ v F' s',Step cx F s F' s' → RepR cx F' s.heap s'.heap v r → wpAny (model cx.prog cx.w) A (k v) Q E s') : wpAny (model cx.prog cx.w) A (t >>= k) Q E s :=
 wb (h _ _ g)
end
inductive EvOp (cf : CfT) (ρ : List Slot) (o : Op) (a : X) (r : R) : Prop
 | mk (rs : List R) (e : ev cf a ρ = some rs) (h : opF o (rs.map R.ds) = some r)
inductive EvCons (cf : CfT) (ρ : List Slot) (a b : X) (rs : List R) : Prop
 | mk (x : R) (xs : List R) (ea : ev cf a ρ = some [x]) (eb : ev cf b ρ = some xs) (e : rs = x :: xs)
inductive ListInv (cx : XCx) (F : AP) (h : Heap) (v : Value) (l : List D) : Prop
 | mk (a : Addr) (vs : List Value) (n : Nat) (e : v = .ref a) (nx : ¬ cx.X a) (g : h.get? a = some (lobj vs.toArray n)) (z : vs.length ≤ lim) (q : RepL cx.T F h vs l)
inductive TupInv (cx : XCx) (F : AP) (h : Heap) (v : Value) (l : List D) : Prop
 | mk (a : Addr) (vs : List Value) (n : Nat) (e : v = .ref a) (f : F a) (g : h.get? a = some (tobj vs.toArray n)) (z : vs.length ≤ lim) (q : RepL cx.T F h vs l)
inductive StrInv (v : Value) (l : List Nat) : Prop
 | mk (t : Tok) (e : v = .str ⟨l.toArray⟩ t) (p : ∀ c ∈ l,c < 0x110000) (z : l.length ≤ lim)
inductive TwoInv (cx : XCx) (F : AP) (h : Heap) (vs : List Value) (a b : D) : Prop
 | mk (x y : Value) (e : vs = [x,y]) (qa : BRep cx F h x a) (qb : BRep cx F h y b)
section
variable {cf : CfT} {ρ : List Slot}
theorem ev_op {o : Op} {a : X} {r : R} (h : ev cf (.op o a) ρ = some [r]) : EvOp cf ρ o a r := by
 replace h := (zlk _).symm.trans h
 split at h
 ·rename_i rs e
  obtain ⟨r',e',h'⟩ := Option.map_eq_some_iff.mp h
  cases h'
  exact ⟨rs,e,e'⟩
 ·injection h
theorem zaD {a b : X} {rs : List R} (h : ev cf (.cons a b) ρ = some rs) : EvCons cf ρ a b rs := by
 replace h := (zdo _).symm.trans h
 split at h
 ·rename_i x e
  obtain ⟨xs,e',h'⟩ := Option.map_eq_some_iff.mp h
  exact ⟨x,xs,e,e',h'.symm⟩
 ·injection h
theorem zbq {rs : List R} (h : ev cf .nil ρ = some rs) : rs = [] := by replace h := (evq_nil _).symm.trans h; (injection h with h; subst h); rfl
end
noncomputable def op1 (f : Value → Sem Value) : List Value → Sem Value
 | [a] => f a
 | _ => unsupported "mine"
noncomputable def op2 (f : Value → Value → Sem Value) : List Value → Sem Value
 | [a,b] => f a b
 | _ => unsupported "mine"
noncomputable def OpOK (cx : XCx) (o : Op) (t : List Value → Sem Value) : Prop :=
 ∀ n A F s vs ds r,CxOk cx → BudE n A → Wd cx F s → BRepL cx F s.heap vs ds → opF o ds = some r → Ev cx A F s (t vs) r
theorem sz_lt {n : Nat} (h : n ≤ lim) : (n : Int) < 2 ^ 63 := by unfold lim at h; omega
theorem zaC {n : Nat} (h : n ≤ lim) : n ≤ sizeLine := by rw [sizeLine_eq]; unfold lim at h; omega
section
variable {cx : XCx} {F : AP} {s : Shared} {h : Heap} {v : Value} {A : Around}
theorem zaN {a : Addr} {vs : List Value} {n : Nat} (g : h.get? a = some (lobj vs.toArray n)) : h.IsList a vs.toArray := ⟨_,g,rfl,n,rfl⟩
theorem zfd {a : Addr} {vs : List Value} {n : Nat} (g : h.get? a = some (tobj vs.toArray n)) : IsTup h a vs.toArray := ⟨_,g,rfl,n,rfl⟩
theorem BRep.list_inv (w : Wd cx F s) {l : List D} (b : BRep cx F s.heap v (.list l)) : ListInv cx F s.heap v l := by
 cases b with
 | rep q =>
  cases q with
  | list f g z q => exact ⟨_,_,_,rfl,w.nx _ f,g,z,q⟩
 | own nx g z q => exact ⟨_,_,_,rfl,nx,g,z,q⟩
theorem BRep.tup_inv {l : List D} (b : BRep cx F h v (.tup l)) : TupInv cx F h v l := by
 cases b with
 | rep q =>
  cases q with
  | tup f g z q => exact ⟨_,_,_,rfl,f,g,z,q⟩
theorem BRep.str_inv {l : List Nat} (b : BRep cx F h v (.str l)) : StrInv v l := by
 cases b with
 | rep q => cases q with | str t p z => exact ⟨t,rfl,p,z⟩
theorem BRep.int_inv {i : Int} (b : BRep cx F h v (.int i)) : ∃ t,v = .int i t := by
 cases b with
 | rep q => cases q with | int _ t => exact ⟨t,rfl⟩
theorem BRep.bool_inv {i : Bool} (b : BRep cx F h v (.bool i)) : v = .bool i := by
 cases b with
 | rep q => cases q with | bool _ => rfl
theorem BRep.none_inv (b : BRep cx F h v .none) : v = .none := by
 cases b with
 | rep q => cases q with | none => rfl
theorem BRep.ty_inv {n : String} (b : BRep cx F h v (.ty n)) : v = .type n := by
 cases b with
 | rep q => cases q with | ty _ => rfl
theorem BRep.tok_inv {k : Nat} (b : BRep cx F h v (.tok k)) : v = .ref (cx.T k) := by
 cases b with
 | rep q => cases q with | tok _ => rfl
theorem BRepL.two {vs : List Value} {a b : D} (q : BRepL cx F h vs [a,b]) : TwoInv cx F h vs a b := by
 cases q with
 | cons p q => cases q with | cons p' q => cases q; exact ⟨_,_,rfl,p,p'⟩
theorem BRepL.one {vs : List Value} {a : D} (q : BRepL cx F h vs [a]) : ∃ x,vs = [x] ∧ BRep cx F h x a := by
 cases q with
 | cons p q => cases q; exact ⟨_,rfl,p⟩
theorem zbh (w : Wd cx F s) {d : D} {b : Bool} (q : BRep cx F s.heap v d) (e : d.truth = some b) : EvB cx A F s (truthy v) b := by
 intro Q E hQ
 cases d with
 | none => (injection e with e; subst e); rw [q.none_inv]; exact PyProof.Rows.truthy_none (hQ F s (Step.refl w))
 | bool b => (injection e with e; subst e); rw [q.bool_inv]; exact wpAny_truthy_bool (hQ F s (Step.refl w))
 | int i =>
  obtain ⟨t,rfl⟩ := q.int_inv
  (injection e with e; subst e)
  refine PyProof.Rows.truthy_int ?_
  have := hQ F s (Step.refl w)
  by_cases hi : i = 0
  ·subst hi; exact this
  ·have e1 : (i != 0) = true := bne_iff_ne.mpr hi
   rw [e1]
   simpa [hi] using this
 | str l =>
  obtain ⟨t,rfl,p,z⟩ := q.str_inv
  (injection e with e; subst e)
  refine P.truthy_str (by have := sz_lt z; show ¬ ((l.toArray.size : Nat) : Int) ≥ 2 ^ 63; rw [List.size_toArray]; omega) ?_
  have e : (((PySem.Str.mk l.toArray).length : Int) != 0) = !l.isEmpty := by
   show (((l.toArray.size : Nat) : Int) != 0) = _
   rw [List.size_toArray]
   cases l <;> simp <;> omega
  rw [e]
  exact hQ F _ ((Step.refl w).toks _)
 | list l =>
  obtain ⟨a,vs,n,rfl,nx,g,z,ql⟩ := q.list_inv w
  (injection e with e; subst e)
  refine wpAny_truthy_list (zaN g) (by rw [List.size_toArray]; exact sz_lt z) ?_
  have e : (!vs.toArray.isEmpty) = !l.isEmpty := by
   have := ql.length
   clear q
   cases vs <;> cases l <;> simp_all
  rw [e]
  exact hQ F _ ((Step.refl w).toks _)
 | tup l =>
  obtain ⟨a,vs,n,rfl,f,g,z,ql⟩ := q.tup_inv
  (injection e with e; subst e)
  refine PyProof.Rows.truthy_tuple (zfd g) (by rw [List.size_toArray]; exact sz_lt z) ?_
  have e : (!vs.toArray.isEmpty) = !l.isEmpty := by
   have := ql.length
   clear q
   cases vs <;> cases l <;> simp_all
  rw [e]
  exact hQ F _ ((Step.refl w).toks _)
 | tok k => injection e
 | ty n => injection e
end
section
variable {cx : XCx} {ε : Sc}
theorem SoundT.ofE {e : Expr} {x : X} (h : SoundE cx ε e x) (hf : ∀ env,isTrue e env (eval e env) = (do let v ← eval e env; standAt e.pos; holding [v] (truthy v))) : SoundT cx ε e x := by
 intro n cf A env F s ρ ad m cm H b hb Q E hQ
 unfold evT truthR at hb
 split at hb
 ·rename_i r e
  rw [hf]
  refine Ev.bind (h n cf A env F s ρ ad m cm H r e) fun v F' s' st q => ?_
  exact wb (wpAny_standAt (wpAny_holding (zbh st.wd q.brep hb _ _ fun F'' s'' st' => hQ F'' s'' (st.trans st'))))
 ·injection hb
theorem Sound.ofE {e : Expr} {x : X} (h : SoundE cx ε e x) (hf : ∀ env,isTrue e env (eval e env) = (do let v ← eval e env; standAt e.pos; holding [v] (truthy v))) : Sound cx ε e x := ⟨h,SoundT.ofE h hf⟩
noncomputable def constD : Const → Option D
 | .none => some .none
 | .bool b => some (.bool b)
 | .int i => some (.int i)
 | .str x => if x.cps.toList.all (fun c => decide (c < 0x110000)) && decide (x.cps.size ≤ lim) then some (.str x.cps.toList) else none
 | _ => none
theorem zab {c : Const} {k : Nat} {pos : Pos} {d : D} (hd : constD c = some d) : Sound cx ε (.Constant c k pos) (.const d) := by
 refine Sound.ofE ?_ fun _ => rfl
 intro n cf A env F s ρ ad m cm H r hr Q E hQ
 replace hr := (zbl _).symm.trans hr
 (injection hr with hr; injection hr with hr z; clear z; subst hr)
 cases c <;> try (first | (injection hd; done) | (injection hd with hd; subst hd))
 ·exact wpAny_pure (hQ _ F s (Step.refl H.wd) (.val .none))
 ·exact wpAny_pure (hQ _ F s (Step.refl H.wd) (.val (.bool _)))
 ·exact wpAny_Constant_int (hQ _ F _ ((Step.refl H.wd).toks _) (.val (.int _ _)))
 ·rename_i x
  replace hd : (if (x.cps.toList.all (fun c => decide (c < 0x110000)) && decide (x.cps.size ≤ lim)) = true then some (D.str x.cps.toList) else none) = some d := hd
  split at hd
  ·rename_i q
   (injection hd with hd; subst hd)
   simp only [Bool.and_eq_true,List.all_eq_true,decide_eq_true_eq] at q
   refine Calls.Constant_str (hQ _ F _ ((Step.refl H.wd).toks _) (.val ?_))
   exact Rep.str (l := x.cps.toList) _ q.1 (by rw [Array.length_toList]; exact q.2)
  ·injection hd
theorem zdm {n cf A env F s ρ ad m cm} (H : Here cx ε n cf A env F s ρ ad m cm) {x : Str} {i : Nat} (hv : ε.vars.lookup x = some i) (hn : (x == ("__classdict__" : Str)) = false) {Q E : VP}
  (h : ∀ v,SlotRep cx F s.heap ad i (some v) (slotAt ρ i) → Q v s) (hs : slotAt ρ i ≠ .unset) : wpAny (model cx.prog cx.w) A (loadName env x) Q E s := by
 have hk : env.scope.kind = .function := H.env.kind
 have key : ∀ {ov : Option Value},SlotRep cx F s.heap ad i ov (slotAt ρ i) → ∃ v,ov = some v ∧ SlotRep cx F s.heap ad i (some v) (slotAt ρ i) := by
  intro ov q
  generalize slotAt ρ i = sl at *
  cases q with
  | unset => exact absurd rfl hs
  | val q => exact ⟨_,rfl,.val q⟩
  | own a b c d q e => exact ⟨_,rfl,.own a b c d q e⟩
  | dic a b c d q z e => exact ⟨_,rfl,.dic a b c d q z e⟩
  | fdic a b c d e => exact ⟨_,rfl,.fdic a b c d e⟩
  | app a b c => exact ⟨_,rfl,.app a b c⟩
 rcases H.env.vars x i hv with ⟨k,q⟩ | ⟨k,⟨c,hc⟩,q⟩
 ·obtain ⟨v,e,q'⟩ := key q
  exact wpAny_loadName_local hk (by unfold Env.kindOf; rw [H.env.names]; exact k) H.env.ns e (h v q')
 ·obtain ⟨v,e,q'⟩ := key q
  have hcell := H.env.cells x c hc
  rw [e] at hcell
  rcases k with k | k
  ·exact wpAny_loadName_cell hk (by unfold Env.kindOf; rw [H.env.names]; exact k) hc hcell (h v q')
  ·exact wpAny_loadName_free hk (by unfold Env.kindOf; rw [H.env.names]; exact k) hc hcell (h v q') hn
theorem zji {n cf A env F s ρ ad m cm} (H : Here cx ε n cf A env F s ρ ad m cm) {x : Str} {i : Nat} {pos : Pos} (hv : ε.vars.lookup x = some i) (hn : (x == ("__classdict__" : Str)) = false) (hd : (x == ("__debug__" : Str)) = false) {r : R} (hr : ev cf (.var i) ρ = some [r]) {Q E : VP}
  (hQ : ∀ v,RepR cx F s.heap s.heap v r → Q v s) : wpAny (model cx.prog cx.w) A (eval (.Name x pos) env) Q E s := by
 refine wpAny_Name ?_ hd
 replace hr := (zcO _).symm.trans hr
 have hr' : ∀ sl,ρ[i]? = some sl → slotAt ρ i = sl := fun sl e => by unfold slotAt; simp [List.getD,e]
 cases hs : ρ[i]? with
 | none => rw [hs] at hr; injection hr
 | some sl =>
  rw [hs] at hr
  have hsl := hr' sl hs
  refine zdm H hv hn (fun v q => ?_) (by rw [hsl]; intro e; subst e; injection hr)
  rw [hsl] at q
  cases q with
  | unset => injection hr
  | val q => (injection hr with hr; injection hr with hr z; clear z; subst hr); exact hQ v (.val q)
  | own nf nx g z q hd =>
   cases (if_neg (show ¬ dSlot i = true by rw [hd]; exact Bool.false_ne_true)).symm.trans hr
   exact hQ _ (.bor nx g z q)
  | dic nf nx _ g q z hd => injection (if_pos hd).symm.trans hr
  | fdic a b c d e => injection hr
  | app a b c => injection hr
theorem ziy {x : Str} {i : Nat} {pos : Pos} (hv : ε.vars.lookup x = some i) (hn : (x == ("__classdict__" : Str)) = false) (hd : (x == ("__debug__" : Str)) = false) : Sound cx ε (.Name x pos) (.var i) :=
 Sound.ofE (fun n cf A env F s ρ ad m cm H r hr Q E hQ => zji H hv hn hd hr fun v q => hQ v F s (Step.refl H.wd) q) fun _ => rfl
theorem run2 {n cf A env F s ρ ad m cm} (H : Here cx ε n cf A env F s ρ ad m cm) {l r : Expr} {xl xr : X} {o : Op} {res : R} {f : Value → Value → Sem Value} (hl : SoundE cx ε l xl) (hr : SoundE cx ε r xr) (ho : OpOK cx o (op2 f))
  (he : ev cf (.op o (.cons xl (.cons xr .nil))) ρ = some [res]) {Q E : VP} (hQ : Post cx F s res Q) :
  wpAny (model cx.prog cx.w) A (eval l env) (fun a s₁ => wpAny (model cx.prog cx.w) A (eval r env) (fun b s₂ => wpAny (model cx.prog cx.w) A (f a b) Q E s₂) E s₁) E s := by
 obtain ⟨rs,h1,h2⟩ := ev_op he
 obtain ⟨ra,xs,ha,h3,rfl⟩ := zaD h1
 obtain ⟨rb,ys,hb,h4,rfl⟩ := zaD h3
 obtain rfl := zbq h4
 refine hl n cf A env F s ρ ad m cm H ra ha _ _ fun a F' s' st qa => ?_
 refine hr n cf A env F' s' ρ ad m cm (H.step st) rb hb _ _ fun b F'' s'' st' qb => ?_
 exact ho n A F'' s'' [a,b] _ res H.ok H.bud st'.wd (.cons (st'.brep st.wd qa.brep) (.cons qb.brep .nil)) h2 _ _ (hQ.after (st.trans st'))
theorem zah {l r : Expr} {op : Operator} {pos : Pos} {xl xr : X} {o : Op} (hl : Sound cx ε l xl) (hr : Sound cx ε r xr) (ho : OpOK cx o (op2 (binaryOp op))) : Sound cx ε (.BinOp l op r pos) (.op o (.cons xl (.cons xr .nil))) := by
 refine Sound.ofE ?_ fun _ => rfl
 intro n cf A env F s ρ ad m cm H res he Q E hQ
 exact wpAny_BinOp (run2 H hl.ev hr.ev ho he hQ)
theorem zae {l r : Expr} {op : CmpOp} {pos : Pos} {xl xr : X} {o : Op} (hl : Sound cx ε l xl) (hr : Sound cx ε r xr) (ho : OpOK cx o (op2 (compareOp op))) (hm : behindInMarks op r = false) : Sound cx ε (.Compare l [op] [r] pos) (.op o (.cons xl (.cons xr .nil))) := by
 have hE : SoundE cx ε (.Compare l [op] [r] pos) (.op o (.cons xl (.cons xr .nil))) := by
  intro n cf A env F s ρ ad m cm H res he Q E hQ
  exact wpAny_Compare1 (run2 H hl.ev hr.ev ho he hQ) hm
 refine ⟨hE, ?_⟩
 intro n cf A env F s ρ ad m cm H b hb Q E hQ
 unfold evT truthR at hb
 split at hb
 ·rename_i res e
  refine wpAny_isTrue_Compare1 (run2 H hl.ev hr.ev ho e fun v F' s' st q => ?_) hm
  exact zbh st.wd q.brep hb _ _ fun F'' s'' st' => hQ F'' s'' (st.trans st')
 ·injection hb
theorem zaS {e : Expr} {op : UnaryOp} {pos : Pos} {x : X} {o : Op} (h : Sound cx ε e x) (ho : OpOK cx o (op1 (unaryOp op))) (hn : op ≠ .Not) : Sound cx ε (.UnaryOp op e pos) (.op o (.cons x .nil)) := by
 refine Sound.ofE ?_ fun _ => by cases op <;> first | rfl | exact absurd rfl hn
 intro n cf A env F s ρ ad m cm H res he Q E hQ
 obtain ⟨rs,h1,h2⟩ := ev_op he
 obtain ⟨ra,xs,ha,h3,rfl⟩ := zaD h1
 obtain rfl := zbq h3
 show wpAny _ _ (do let v ← eval e env; standAt pos; holding [v] (unaryOp op v)) Q E s
 refine Ev.bind (h.ev n cf A env F s ρ ad m cm H ra ha) fun a F' s' st qa => ?_
 refine wb (wpAny_standAt (wpAny_holding ?_))
 exact ho n A F' s' [a] _ res H.ok H.bud st.wd (.cons qa.brep .nil) h2 _ _ (hQ.after st)
theorem zaJ {e : Expr} {pos : Pos} {x : X} (h : Sound cx ε e x) : Sound cx ε (.UnaryOp .Not e pos) (.not x) := by
 constructor
 ·intro n cf A env F s ρ ad m cm H res he Q E hQ
  replace he := (zcQ _).symm.trans he
  split at he
  ·rename_i r e1
   obtain ⟨b,hb,h2⟩ := Option.map_eq_some_iff.mp he
   (injection h2 with h2 z; injection z; subst h2)
   show wpAny _ _ (do let v ← eval e env; standAt pos; holding [v] (unaryOp .Not v)) Q E s
   refine Ev.bind (h.ev n cf A env F s ρ ad m cm H r e1) fun a F' s' st qa => ?_
   refine wb (wpAny_standAt (wpAny_holding ?_))
   exact not_of (zbh st.wd qa.brep hb _ _ fun F'' s'' st' => hQ _ F'' s'' (st.trans st') (.val (.bool _)))
  ·injection he
 ·intro n cf A env F s ρ ad m cm H b hb Q E hQ
  unfold evT truthR at hb
  split at hb
  ·rename_i res e1
   replace e1 := (zcQ _).symm.trans e1
   split at e1
   ·rename_i r e2
    obtain ⟨b',hb',h2⟩ := Option.map_eq_some_iff.mp e1
    (injection h2 with h2 z; injection z; subst h2)
    simp only [R.ds,D.truth,Option.some.injEq] at hb
    subst hb
    show wpAny _ _ (do return !(← isTrue e env (eval e env))) Q E s
    refine wb (h.tr n cf A env F s ρ ad m cm H b' (by unfold evT truthR; rw [e2]; exact hb') _ _ fun F' s' st => ?_)
    exact wpAny_pure (hQ F' s' st)
   ·injection e1
  ·injection hb
theorem za1 {c t f : Expr} {pos : Pos} {xc xt xf : X} (hc : Sound cx ε c xc) (ht : Sound cx ε t xt) (hf : Sound cx ε f xf) : Sound cx ε (.IfExp c t f pos) (.ite xc xt xf) := by
 constructor
 ·intro n cf A env F s ρ ad m cm H res he Q E hQ
  replace he := (zdV _).symm.trans he
  show wpAny _ _ (do if ← isTrue c env (eval c env) then eval t env else eval f env) Q E s
  split at he
  ·rename_i hb
   refine wb (hc.tr n cf A env F s ρ ad m cm H true hb _ _ fun F' s' st => ?_)
   exact ht.ev n cf A env F' s' ρ ad m cm (H.step st) res he _ _ (hQ.after st)
  ·rename_i hb
   refine wb (hc.tr n cf A env F s ρ ad m cm H false hb _ _ fun F' s' st => ?_)
   exact hf.ev n cf A env F' s' ρ ad m cm (H.step st) res he _ _ (hQ.after st)
  ·injection he
 ·intro n cf A env F s ρ ad m cm H b hb Q E hQ
  unfold evT at hb
  have he : ev cf (.ite xc xt xf) ρ = ev cf (.ite xc xt xf) ρ := rfl
  show wpAny _ _ (do if ← isTrue c env (eval c env) then isTrue t env (eval t env) else isTrue f env (eval f env)) Q E s
  rw [zdV] at hb
  split at hb
  ·rename_i hb'
   refine wb (hc.tr n cf A env F s ρ ad m cm H true hb' _ _ fun F' s' st => ?_)
   exact ht.tr n cf A env F' s' ρ ad m cm (H.step st) b hb _ _ fun F'' s'' st' => hQ F'' s'' (st.trans st')
  ·rename_i hb'
   refine wb (hc.tr n cf A env F s ρ ad m cm H false hb' _ _ fun F' s' st => ?_)
   exact hf.tr n cf A env F' s' ρ ad m cm (H.step st) b hb _ _ fun F'' s'' st' => hQ F'' s'' (st.trans st')
  ·injection hb
inductive SoundB (cx : XCx) (ε : Sc) : BoolOp → List Expr → X → Prop
 | one {op : BoolOp} {e : Expr} {x : X} : Sound cx ε e x → SoundB cx ε op [e] x
 | and {e : Expr} {x : X} {es : List Expr} {y : X} : Sound cx ε e x → SoundB cx ε .And es y → SoundB cx ε .And (e :: es) (.and x y)
 | or {e : Expr} {x : X} {es : List Expr} {y : X} : Sound cx ε e x → SoundB cx ε .Or es y → SoundB cx ε .Or (e :: es) (.or x y)
theorem SoundB.ne {op : BoolOp} {es : List Expr} {x : X} (h : SoundB cx ε op es x) : ∃ e r,es = e :: r := by cases h <;> exact ⟨_,_,rfl⟩
theorem zd0 {pos : Pos} {op : BoolOp} {x y : Sem Value} {r : List (Sem Value)} : boolOp pos op (x :: y :: r) = (do
  let v ← x
  standAt pos
  let t ← holding [v] (truthy v)
  match op,t with
  | .And,false | .Or,true => pure v
  | _,_ => boolOp pos op (y :: r)) := rfl
theorem zjV {n cf A env} {pos : Pos} {op : BoolOp} {es : List Expr} {x : X} (h : SoundB cx ε op es x) :
  ∀ F s ρ ad m cm,Here cx ε n cf A env F s ρ ad m cm → ∀ r,ev cf x ρ = some [r] → Ev cx A F s (boolOp pos op (evalEach es env)) r := by
 induction h with
 | one h => intro F s ρ ad m cm H r hr; exact h.ev n cf A env F s ρ ad m cm H r hr
 | @and e x es y h1 h2 ih =>
  intro F s ρ ad m cm H r hr Q E hQ
  obtain ⟨e2,r2,rfl⟩ := h2.ne
  show wpAny _ _ (boolOp pos .And (eval e env :: eval e2 env :: evalEach r2 env)) Q E s
  rw [zd0]
  replace hr := (zdW _).symm.trans hr
  split at hr
  ·rename_i x1 e1
   refine Ev.bind (h1.ev n cf A env F s ρ ad m cm H x1 e1) fun v F' s' st q => ?_
   refine wb (wpAny_standAt (wb (wpAny_holding ?_)))
   split at hr
   ·rename_i hb
    refine zbh st.wd q.brep hb _ _ fun F'' s'' st' => ?_
    exact ih F'' s'' ρ ad m cm ((H.step st).step st') r hr _ _ (hQ.after (st.trans st'))
   ·rename_i hb
    cases hr
    refine zbh st.wd q.brep hb _ _ fun F'' s'' st' => ?_
    exact wpAny_pure (hQ v F'' s'' (st.trans st') (q.step st' st.wd))
   ·injection hr
  ·injection hr
 | @or e x es y h1 h2 ih =>
  intro F s ρ ad m cm H r hr Q E hQ
  obtain ⟨e2,r2,rfl⟩ := h2.ne
  show wpAny _ _ (boolOp pos .Or (eval e env :: eval e2 env :: evalEach r2 env)) Q E s
  rw [zd0]
  replace hr := (zeI _).symm.trans hr
  split at hr
  ·rename_i x1 e1
   refine Ev.bind (h1.ev n cf A env F s ρ ad m cm H x1 e1) fun v F' s' st q => ?_
   refine wb (wpAny_standAt (wb (wpAny_holding ?_)))
   split at hr
   ·rename_i hb
    refine zbh st.wd q.brep hb _ _ fun F'' s'' st' => ?_
    exact ih F'' s'' ρ ad m cm ((H.step st).step st') r hr _ _ (hQ.after (st.trans st'))
   ·rename_i hb
    cases hr
    refine zbh st.wd q.brep hb _ _ fun F'' s'' st' => ?_
    exact wpAny_pure (hQ v F'' s'' (st.trans st') (q.step st' st.wd))
   ·injection hr
  ·injection hr
theorem zin {n cf A env} {op : BoolOp} {es : List Expr} {x : X} (h : SoundB cx ε op es x) :
  ∀ F s ρ ad m cm,Here cx ε n cf A env F s ρ ad m cm → ∀ b,evT cf x ρ = some b → EvB cx A F s (allTrue op es env) b := by
 induction h with
 | @one op e x h =>
  intro F s ρ ad m cm H b hb Q E hQ
  show wpAny _ _ (do
   match op, ← isTrue e env (eval e env) with
   | .And,false => pure false
   | .Or,true => pure true
   | _,_ => allTrue op [] env) Q E s
  refine wb (h.tr n cf A env F s ρ ad m cm H b hb _ _ fun F' s' st => ?_)
  cases op <;> cases b <;> exact wpAny_pure (hQ F' s' st)
 | @and e x es y h1 h2 ih =>
  intro F s ρ ad m cm H b hb Q E hQ
  show wpAny _ _ (do
   match BoolOp.And, ← isTrue e env (eval e env) with
   | .And,false => pure false
   | .Or,true => pure true
   | _,_ => allTrue .And es env) Q E s
  unfold evT at hb
  rw [zdW] at hb
  split at hb
  ·rename_i x1 e1
   split at hb
   ·rename_i hb'
    refine wb (h1.tr n cf A env F s ρ ad m cm H true (by unfold evT truthR; rw [e1]; exact hb') _ _ fun F' s' st => ?_)
    exact ih F' s' ρ ad m cm (H.step st) b hb _ _ fun F'' s'' st' => hQ F'' s'' (st.trans st')
   ·rename_i hb'
    refine wb (h1.tr n cf A env F s ρ ad m cm H false (by unfold evT truthR; rw [e1]; exact hb') _ _ fun F' s' st => ?_)
    have : b = false := by
     have : some b = some false := hb.symm.trans hb'
     cases this; rfl
    subst this
    exact wpAny_pure (hQ F' s' st)
   ·injection hb
  ·injection hb
 | @or e x es y h1 h2 ih =>
  intro F s ρ ad m cm H b hb Q E hQ
  show wpAny _ _ (do
   match BoolOp.Or, ← isTrue e env (eval e env) with
   | .And,false => pure false
   | .Or,true => pure true
   | _,_ => allTrue .Or es env) Q E s
  unfold evT at hb
  rw [zeI] at hb
  split at hb
  ·rename_i x1 e1
   split at hb
   ·rename_i hb'
    refine wb (h1.tr n cf A env F s ρ ad m cm H false (by unfold evT truthR; rw [e1]; exact hb') _ _ fun F' s' st => ?_)
    exact ih F' s' ρ ad m cm (H.step st) b hb _ _ fun F'' s'' st' => hQ F'' s'' (st.trans st')
   ·rename_i hb'
    refine wb (h1.tr n cf A env F s ρ ad m cm H true (by unfold evT truthR; rw [e1]; exact hb') _ _ fun F' s' st => ?_)
    have : b = true := by
     have : some b = some true := hb.symm.trans hb'
     cases this; rfl
    subst this
    exact wpAny_pure (hQ F' s' st)
   ·injection hb
  ·injection hb
theorem zat {op : BoolOp} {es : List Expr} {x : X} {pos : Pos} (h : SoundB cx ε op es x) : Sound cx ε (.BoolOp op es pos) x :=
 ⟨fun _ _ _ _ F s ρ ad m cm H r hr => zjV h F s ρ ad m cm H r hr,fun _ _ _ _ F s ρ ad m cm H b hb => zin h F s ρ ad m cm H b hb⟩
end
theorem zbx {α : Type} {p : Prop} [Decidable p] {x y : α} (h : (if p then some x else none) = some y) : p ∧ x = y := by
 by_cases q : p
 ·rw [if_pos q] at h; exact ⟨q,Option.some.inj h⟩
 ·rw [if_neg q] at h; injection h
theorem zb6 {f : D → D → Option R} {ds : List D} {r : R} (h : two f ds = some r) : ∃ a b,ds = [a,b] ∧ f a b = some r := by
 rcases ds with _ | ⟨a,_ | ⟨b,_ | ⟨c,t⟩⟩⟩ <;> first | exact ⟨a,b,rfl,h⟩ | injection h
theorem zbV {d : D} {i : Int} (h : intD d = some i) : d = .int i := by cases d <;> cases h; rfl
theorem zbd {d : D} {i : List Nat} (h : strO d = some i) : d = .str i := by cases d <;> cases h; rfl
theorem zkG {d : D} {i : List D} (h : lstO d = some i) : d = .list i := by cases d <;> cases h; rfl
theorem zeS {f : List Nat → List Nat → List Nat → Option R} {ds : List D} {r : R} (h : str3 f ds = some r) : ∃ a b c,ds = [.str a,.str b,.str c] ∧ f a b c = some r := by
 rcases ds with _ | ⟨a,_ | ⟨b,_ | ⟨c,_ | ⟨d,t⟩⟩⟩⟩
 case cons.cons.cons.nil =>
  obtain ⟨a,e,h⟩ := Option.bind_eq_some_iff.mp h
  obtain ⟨b,e2,h⟩ := Option.bind_eq_some_iff.mp h
  obtain ⟨c,e3,h⟩ := Option.bind_eq_some_iff.mp h
  exact ⟨a,b,c,by rw [zbd e,zbd e2,zbd e3],h⟩
 all_goals injection h
theorem zfe {f : Int → Int → Option R} {ds : List D} {r : R} (h : int2 f ds = some r) : ∃ a b,ds = [.int a,.int b] ∧ f a b = some r := by
 obtain ⟨a,b,rfl,h⟩ := zb6 h
 obtain ⟨i,e,h⟩ := Option.bind_eq_some_iff.mp h
 obtain ⟨j,e2,h⟩ := Option.bind_eq_some_iff.mp h
 exact ⟨i,j,by rw [zbV e,zbV e2],h⟩
section
variable {cx : XCx}
theorem zaA : OpOK cx .add (op2 (binaryOp .Add)) := by
 intro n A F s vs ds r ok bud w q he Q E hQ
 obtain ⟨a,b,rfl,he⟩ := zb6 (f := addD) he
 obtain ⟨x,y,rfl,qa,qb⟩ := q.two
 cases a with
 | int a =>
  obtain ⟨b,e,he⟩ := Option.bind_eq_some_iff.mp he
  obtain rfl := zbV e
  (injection he with he; subst he)
  obtain ⟨t,rfl⟩ := qa.int_inv
  obtain ⟨u,rfl⟩ := qb.int_inv
  exact P.add_int (hQ _ F _ ((Step.refl w).toks _) (.val (.int _ _)))
 | str a =>
  obtain ⟨b,e,he⟩ := Option.bind_eq_some_iff.mp he
  obtain rfl := zbd e
  obtain ⟨hl,rfl⟩ := zbx he
  obtain ⟨t,rfl,pa,za⟩ := qa.str_inv
  obtain ⟨u,rfl,pb,zb⟩ := qb.str_inv
  refine PyProof.Rows.add_str (fun t' tk => hQ _ F _ ((Step.refl w).toks _) (.val ?_)) (by
   show a.toArray.size + b.toArray.size ≤ sizeLine
   rw [List.size_toArray,List.size_toArray]; exact zaC hl)
  rw [show (PySem.Str.mk a.toArray ++ PySem.Str.mk b.toArray) = PySem.Str.mk (a ++ b).toArray from congrArg PySem.Str.mk (by simp)]
  exact .str _ (fun c hc => (List.mem_append.mp hc).elim (pa c) (pb c)) (by rw [List.length_append]; exact hl)
 | list a =>
  obtain ⟨b,e,he⟩ := Option.bind_eq_some_iff.mp he
  obtain rfl := zkG e
  obtain ⟨hl,rfl⟩ := zbx he
  obtain ⟨l,vs,k,rfl,nx,g,z,q1⟩ := qa.list_inv w
  obtain ⟨l',vs',k',rfl,nx',g',z',q2⟩ := qb.list_inv w
  have hz : (vs ++ vs').length ≤ lim := by rw [List.length_append,q1.length,q2.length]; exact hl
  have ea : vs.toArray ++ vs'.toArray = (vs ++ vs').toArray := by simp
  refine concat_meets ⟨_,g,rfl⟩ ⟨_,g',rfl⟩ noFill_list_add seq_list_add PySem.F.slot_list_add PySem.F.entry_list_add (PySem.F.args_list_add_2 _ _) (list_addW l l' vs.toArray vs'.toArray k k' none none #[] #[] (by rw [List.size_toArray,List.size_toArray, ← List.length_append]; exact zaC hz)) ⟨g,g', ?_⟩
  rw [ea]
  exact hQ _ F _ (Step.push ok w _ _) (.pushOwn w hz (q1.append q2))
 | _ => injection he
theorem zeC : OpOK cx .sub (op2 (binaryOp .Sub)) := by
 intro n A F s vs ds r ok bud w q he Q E hQ
 obtain ⟨a,b,rfl,he⟩ := zfe (show opSub ds = some r from he)
 (injection he with he; subst he)
 obtain ⟨x,y,rfl,qa,qb⟩ := q.two
 obtain ⟨t,rfl⟩ := qa.int_inv
 obtain ⟨u,rfl⟩ := qb.int_inv
 exact P.sub_int (hQ _ F _ ((Step.refl w).toks _) (.val (.int _ _)))
theorem zbn : OpOK cx .neg (op1 (unaryOp .USub)) := by
 intro n A F s vs ds r ok bud w q he Q E hQ
 delta opF at he; dsimp only at he
 unfold opNeg at he
 split at he <;> (first | (injection he; done) | (injection he with he; subst he))
 obtain ⟨x,rfl,qa⟩ := q.one
 obtain ⟨t,rfl⟩ := qa.int_inv
 exact P.neg_int (hQ _ F _ ((Step.refl w).toks _) (.val (.int _ _)))
theorem zld : OpOK cx .fdiv (op2 (binaryOp .FloorDiv)) := by
 intro n A F s vs ds r ok bud w q he Q E hQ
 obtain ⟨a,b,rfl,he⟩ := zfe (show opDiv ds = some r from he)
 by_cases hb : b = 0
 ·injection (if_pos hb).symm.trans he
 (injection (if_neg hb).symm.trans he with q; subst q)
 obtain ⟨x,y,rfl,qa,qb⟩ := q.two
 obtain ⟨t,rfl⟩ := qa.int_inv
 obtain ⟨u,rfl⟩ := qb.int_inv
 obtain ⟨env,l,e1,e2,e3,e4,e5⟩ := bud.fr
 refine PyProof.Rows.floordiv_int hb (hQ _ F _ ((Step.refl w).toks _) (.val (.int _ _))) (.inr (PylongRoom.of (w.lim ok) ?_ (SeerAt.of (ok.seer _ w.base) ok.tree e1 e2 e3 e4 e5)))
 exact Nat.lt_of_le_of_lt (Nat.add_le_add_right (Nat.le_of_lt (Nat.lt_of_le_of_lt (Nat.le_add_right _ _) bud.dp)) 100) (by decide)
theorem ziQ : OpOK cx .mod (op2 (binaryOp .Mod)) := by
 intro n A F s vs ds r ok bud w q he Q E hQ
 obtain ⟨a,b,rfl,he⟩ := zfe (show opMod ds = some r from he)
 by_cases hb : b = 0
 ·injection (if_pos hb).symm.trans he
 (injection (if_neg hb).symm.trans he with q; subst q)
 obtain ⟨x,y,rfl,qa,qb⟩ := q.two
 obtain ⟨t,rfl⟩ := qa.int_inv
 obtain ⟨u,rfl⟩ := qb.int_inv
 exact PyProof.Rows.mod_int' hb (hQ _ F _ ((Step.refl w).toks _) (.val (.int _ _)))
theorem zeL {op : CmpOp} {f : D → D → Option Bool} {vs : List Value} {ds : List D} {F : AP} {s : Shared} {A : Around} {r : R} (w : Wd cx F s) (q : BRepL cx F s.heap vs ds) (he : opBool f ds = some r)
  (h : ∀ x y a b c,BRep cx F s.heap x a → BRep cx F s.heap y b → f a b = some c → ∀ (Q E : VP),(∀ k,Q (.bool c) { s with toks := k }) → wpAny (model cx.prog cx.w) A (compareOp op x y) Q E s) :
  Ev cx A F s (op2 (compareOp op) vs) r := by
 intro Q E hQ
 unfold opBool at he
 split at he
 ·obtain ⟨c,hc,e⟩ := Option.map_eq_some_iff.mp he
  subst e
  obtain ⟨x,y,rfl,qa,qb⟩ := q.two
  exact h x y _ _ c qa qb hc Q E fun k => hQ _ F _ ((Step.refl w).toks k) (.val (.bool _))
 ·injection he
theorem BRep.reads {F : AP} {h : Heap} {v : Value} {d : D} {n : Nat} (q : BRep cx F h v d) (e : d.ok n = true) (hn : n ≤ 60) : (∃ as,Reads h v d.toPy as) ∧ PySem.SeqAt.shaped d.toPy = true := by
 cases q with
 | rep q => exact ⟨q.reads e,q.shaped e hn⟩
 | own nx g z q =>
  cases n with
  | zero => simp [D.ok] at e
  | succ n =>
   simp only [D.ok] at e
   obtain ⟨as,x⟩ := q.reads e
   refine ⟨⟨_,by unfold D.toPy; exact Reads.list g rfl rfl (by rw [List.toList_toArray]; exact x)⟩, ?_⟩
   have l := q.lay e
   unfold PySem.SeqAt.shaped D.toPy PyData.canLay0 PyData.depth
   rw [l.1,Bool.true_and]; exact decide_eq_true (by omega)
theorem zfF (a b : List Nat) : ((PySem.Str.mk a.toArray).cps.toList == (PySem.Str.mk b.toArray).cps.toList) = decide (a = b) := by
 show (a == b) = decide (a = b)
 by_cases h : a = b
 ·subst h; simp
 ·simp [h]
theorem eq_ok {F : AP} {s : Shared} {A : Around} {n : Nat} {x y : Value} {a b : D} {c : Bool} (bud : BudE n A) (qa : BRep cx F s.heap x a) (qb : BRep cx F s.heap y b) (hc : eqD a b = some c)
  {Q E : VP} (h : ∀ k,Q (.bool c) { s with toks := k }) : wpAny (model cx.prog cx.w) A (compareOp .Eq x y) Q E s := by
 unfold eqD at hc
 split at hc
 ·(injection hc with hc; subst hc)
  obtain ⟨t,rfl,_,_⟩ := qa.str_inv
  obtain ⟨u,rfl,_,_⟩ := qb.str_inv
  exact P.eq_str (by rw [zfF]; exact h s.toks)
 ·(injection hc with hc; subst hc)
  obtain ⟨t,rfl⟩ := qa.int_inv
  obtain ⟨u,rfl⟩ := qb.int_inv
  exact P.eq_int (by rw [show ∀ i j : Int,(i == j) = decide (i = j) from fun i j => rfl]; exact h s.toks)
 ·split at hc <;> (first | (injection hc; done) | (injection hc with hc; subst hc))
  rename_i hok
  simp only [Bool.and_eq_true] at hok
  obtain ⟨⟨as,ra⟩,sa⟩ := qa.reads hok.1 (by decide)
  obtain ⟨⟨bs,rb⟩,sb⟩ := qb.reads hok.2 (by decide)
  exact PyProof.Rows.eq_dataH ra rb sa sb (bud.lt (by decide)) (h s.toks)
theorem ne_ok {F : AP} {s : Shared} {A : Around} {n : Nat} {x y : Value} {a b : D} {c : Bool} (bud : BudE n A) (qa : BRep cx F s.heap x a) (qb : BRep cx F s.heap y b) (hc : eqD a b = some c)
  {Q E : VP} (h : ∀ k,Q (.bool (!c)) { s with toks := k }) : wpAny (model cx.prog cx.w) A (compareOp .NotEq x y) Q E s := by
 unfold eqD at hc
 split at hc
 ·(injection hc with hc; subst hc)
  obtain ⟨t,rfl,_,_⟩ := qa.str_inv
  obtain ⟨u,rfl,_,_⟩ := qb.str_inv
  exact P.ne_str (by show Q (.bool (!(_ == _))) s; rw [zfF]; exact h s.toks)
 ·(injection hc with hc; subst hc)
  obtain ⟨t,rfl⟩ := qa.int_inv
  obtain ⟨u,rfl⟩ := qb.int_inv
  exact P.ne_int (by show Q (.bool (!(_ == _))) s; exact h s.toks)
 ·split at hc <;> (first | (injection hc; done) | (injection hc with hc; subst hc))
  rename_i hok
  simp only [Bool.and_eq_true] at hok
  obtain ⟨⟨as,ra⟩,sa⟩ := qa.reads hok.1 (by decide)
  obtain ⟨⟨bs,rb⟩,sb⟩ := qb.reads hok.2 (by decide)
  exact PyProof.Rows.ne_dataH ra rb sa sb (bud.lt (by decide)) (h s.toks)
theorem op_eq : OpOK cx .eq (op2 (compareOp .Eq)) := by
 intro n A F s vs ds r ok bud w q he
 exact zeL w q he fun x y a b c qa qb hc Q E h => eq_ok bud qa qb hc h
theorem op_ne : OpOK cx .ne (op2 (compareOp .NotEq)) := by
 intro n A F s vs ds r ok bud w q he
 refine zeL w q he fun x y a b c qa qb hc Q E h => ?_
 obtain ⟨c',hc',rfl⟩ := Option.map_eq_some_iff.mp hc
 exact ne_ok bud qa qb hc' h
theorem in_ok {F : AP} {s : Shared} {A : Around} {n : Nat} {x y : Value} {a b : D} {c : Bool} (w : Wd cx F s) (bud : BudE n A) (qa : BRep cx F s.heap x a) (qb : BRep cx F s.heap y b) (hc : inD a b = some c)
  {Q E : VP} (h : ∀ k,Q (.bool c) { s with toks := k }) : wpAny (model cx.prog cx.w) A (compareOp .In x y) Q E s := by
 have hu : A.units + 65 < cLine := bud.lt (by decide)
 unfold inD at hc
 split at hc
 ·rename_i l
  split at hc <;> (first | (injection hc; done) | (injection hc with hc; subst hc))
  rename_i hok
  simp only [Bool.and_eq_true] at hok
  obtain ⟨⟨as,ra⟩,sa⟩ := qa.reads hok.2 (by decide)
  obtain ⟨⟨bs,rb⟩,sb⟩ := qb.reads (n := 9) (by simp only [D.ok]; exact hok.1) (by decide)
  unfold D.toPy at rb sb
  have l1 := SeqAt.canLay_of_shaped sb
  have l2 := SeqAt.canLay_of_shaped sa
  have l3 := SeqAt.depth_of_shaped sa
  have l4 := Nat.min_le_right (PyData.depthAll (D.toPys l)) a.toPy.depth
  exact SeqAt.in_list_reads rb ra l1 l2 (by show A.units + 1 + _ < 9900; have := bud.un; omega) (h s.toks)
 ·rename_i l
  split at hc <;> (first | (injection hc; done) | (injection hc with hc; subst hc))
  rename_i hok
  simp only [Bool.and_eq_true] at hok
  obtain ⟨⟨as,ra⟩,sa⟩ := qa.reads hok.2 (by decide)
  obtain ⟨⟨bs,rb⟩,sb⟩ := qb.reads (n := 9) (by simp only [D.ok]; exact hok.1) (by decide)
  unfold D.toPy at rb sb
  have l1 := SeqAt.canLay_of_shaped sb
  have l2 := SeqAt.canLay_of_shaped sa
  have l3 := SeqAt.depth_of_shaped sa
  have l4 := Nat.min_le_right (PyData.depthAll (D.toPys l)) a.toPy.depth
  exact SeqAt.in_tuple_reads rb ra l1 l2 (by show A.units + 1 + _ < 9900; have := bud.un; omega) (h s.toks)
 ·split at hc <;> (first | (injection hc; done) | (injection hc with hc; subst hc))
  obtain ⟨t,rfl,_,_⟩ := qa.str_inv
  obtain ⟨u,rfl,_,_⟩ := qb.str_inv
  exact P.in_str (h s.toks)
 ·injection hc
theorem zku {F : AP} {s : Shared} {A : Around} {n : Nat} {x y : Value} {a b : D} {c : Bool} (w : Wd cx F s) (bud : BudE n A) (qa : BRep cx F s.heap x a) (qb : BRep cx F s.heap y b) (hc : inD a b = some c)
  {Q E : VP} (h : ∀ k,Q (.bool (!c)) { s with toks := k }) : wpAny (model cx.prog cx.w) A (compareOp .NotIn x y) Q E s := by
 have hu : A.units + 65 < cLine := bud.lt (by decide)
 unfold inD at hc
 split at hc
 ·rename_i l
  split at hc <;> (first | (injection hc; done) | (injection hc with hc; subst hc))
  rename_i hok
  simp only [Bool.and_eq_true] at hok
  obtain ⟨⟨as,ra⟩,sa⟩ := qa.reads hok.2 (by decide)
  obtain ⟨⟨bs,rb⟩,sb⟩ := qb.reads (n := 9) (by simp only [D.ok]; exact hok.1) (by decide)
  unfold D.toPy at rb sb
  have l1 := SeqAt.canLay_of_shaped sb
  have l2 := SeqAt.canLay_of_shaped sa
  have l3 := SeqAt.depth_of_shaped sa
  have l4 := Nat.min_le_right (PyData.depthAll (D.toPys l)) a.toPy.depth
  exact SeqAt.notIn_list_reads rb ra l1 l2 (by show A.units + 1 + _ < 9900; have := bud.un; omega) (h s.toks)
 ·rename_i l
  split at hc <;> (first | (injection hc; done) | (injection hc with hc; subst hc))
  rename_i hok
  simp only [Bool.and_eq_true] at hok
  obtain ⟨⟨as,ra⟩,sa⟩ := qa.reads hok.2 (by decide)
  obtain ⟨⟨bs,rb⟩,sb⟩ := qb.reads (n := 9) (by simp only [D.ok]; exact hok.1) (by decide)
  unfold D.toPy at rb sb
  have l1 := SeqAt.canLay_of_shaped sb
  have l2 := SeqAt.canLay_of_shaped sa
  have l3 := SeqAt.depth_of_shaped sa
  have l4 := Nat.min_le_right (PyData.depthAll (D.toPys l)) a.toPy.depth
  exact SeqAt.notIn_tuple_reads rb ra l1 l2 (by show A.units + 1 + _ < 9900; have := bud.un; omega) (h s.toks)
 ·split at hc <;> (first | (injection hc; done) | (injection hc with hc; subst hc))
  obtain ⟨t,rfl,_,_⟩ := qa.str_inv
  obtain ⟨u,rfl,_,_⟩ := qb.str_inv
  exact P.notIn_str (h s.toks)
 ·injection hc
theorem op_in : OpOK cx .in_ (op2 (compareOp .In)) := by
 intro n A F s vs ds r ok bud w q he
 exact zeL w q he fun x y a b c qa qb hc Q E h => in_ok w bud qa qb hc h
theorem zkl : OpOK cx .notin (op2 (compareOp .NotIn)) := by
 intro n A F s vs ds r ok bud w q he
 refine zeL w q he fun x y a b c qa qb hc Q E h => ?_
 obtain ⟨c',hc',rfl⟩ := Option.map_eq_some_iff.mp hc
 exact zku w bud qa qb hc' h
theorem zg8 {op : CmpOp} {f : Int → Int → Bool} {g : List Nat → List Nat → Bool} {vs : List Value} {ds : List D} {F : AP} {s : Shared} {A : Around} {r : R} (w : Wd cx F s) (q : BRepL cx F s.heap vs ds) (he : opCmp f g ds = some r)
  (h1 : ∀ a b t u (Q E : VP),Q (.bool (f a b)) s → wpAny (model cx.prog cx.w) A (compareOp op (.int a t) (.int b u)) Q E s)
  (h2 : ∀ a b t u (Q E : VP),Q (.bool (g a b)) s → wpAny (model cx.prog cx.w) A (compareOp op (.str ⟨a.toArray⟩ t) (.str ⟨b.toArray⟩ u)) Q E s) :
  Ev cx A F s (op2 (compareOp op) vs) r := by
 intro Q E hQ
 obtain ⟨a,b,rfl,he⟩ := zb6 (show two (cmpD f g) ds = some r from he)
 obtain ⟨x,y,rfl,qa,qb⟩ := q.two
 cases a with
 | int a =>
  obtain ⟨b,e,he⟩ := Option.bind_eq_some_iff.mp he
  obtain rfl := zbV e
  (injection he with he; subst he)
  obtain ⟨t,rfl⟩ := qa.int_inv
  obtain ⟨u,rfl⟩ := qb.int_inv
  exact h1 _ _ _ _ _ _ (hQ _ F _ (Step.refl w) (.val (.bool _)))
 | str a =>
  obtain ⟨b,e,he⟩ := Option.bind_eq_some_iff.mp he
  obtain rfl := zbd e
  (injection he with he; subst he)
  obtain ⟨t,rfl,_,_⟩ := qa.str_inv
  obtain ⟨u,rfl,_,_⟩ := qb.str_inv
  exact h2 _ _ _ _ _ _ (hQ _ F _ (Step.refl w) (.val (.bool _)))
 | _ => injection he
theorem op_lt : OpOK cx .lt (op2 (compareOp .Lt)) := fun n A F s vs ds r ok bud w q he =>
 zg8 w q he (fun _ _ _ _ _ _ h => P.lt_int h) fun _ _ _ _ _ _ h => P.lt_str h
theorem op_le : OpOK cx .le (op2 (compareOp .LtE)) := fun n A F s vs ds r ok bud w q he =>
 zg8 w q he (fun _ _ _ _ _ _ h => P.le_int h) fun _ _ _ _ _ _ h => P.le_str h
theorem op_gt : OpOK cx .gt (op2 (compareOp .Gt)) := fun n A F s vs ds r ok bud w q he =>
 zg8 w q he (fun _ _ _ _ _ _ h => P.gt_int h) fun _ _ _ _ _ _ h => P.gt_str h
theorem op_ge : OpOK cx .ge (op2 (compareOp .GtE)) := fun n A F s vs ds r ok bud w q he =>
 zg8 w q he (fun _ _ _ _ _ _ h => P.ge_int h) fun _ _ _ _ _ _ h => P.ge_str h
end
end Mine
end
section
open PySem PySem.Calls PyProof.Rows PySem.Builtin.Str
namespace Mine
section
variable {cx : XCx}
theorem zdi {i : Int} (h : small i = true) : -1000000000 ≤ i ∧ i ≤ 1000000000 := by
 unfold small at h
 simpa [Bool.and_eq_true,decide_eq_true_eq] using h
theorem zkg (i : Int) (n : Nat) : place i n = seqIndex? i n := by
 rcases Int.lt_or_le i 0 with h | h
 ·have h0 : ¬ 0 ≤ i := by omega
  simp only [place,seqIndex?,if_neg h0,if_pos h]
  by_cases h2 : 0 ≤ i + n
  ·have h3 : i + n < n := by omega
   simp [h2,h3]
  ·simp [h2]
 ·have h0 : ¬ i < 0 := by omega
  simp only [place,seqIndex?,if_pos h,if_neg h0]
  by_cases h2 : i < n
  ·simp [h,h2]
  ·simp [h2]
theorem zdG {α β : Type} {l : List α} {i : Int} {f : α → β} {r : β} (h : (match place i l.length with | some k => (l[k]?).map f | none => none) = some r) : ∃ k d,seqIndex? i l.length = some k ∧ l[k]? = some d ∧ f d = r := by
 cases e : place i l.length with
 | none => rw [e] at h; injection h
 | some k =>
  rw [e] at h
  obtain ⟨d,h1,h2⟩ := Option.map_eq_some_iff.mp h
  exact ⟨k,d,zkg i _ ▸ e,h1,h2⟩
theorem zjj {s : Shared} {A : Around} {l : Addr} {items : Array Value} {i : Int} {t : Tok} {j : Nat} {x : Value} {Q E : VP} (hl : s.heap.IsList l items) (h1 : -2 ^ 63 ≤ i) (h2 : i < 2 ^ 63) (hj : seqIndex? i items.size = some j) (hx : items[j]? = some x) (h : Q x s) :
  wpAny (model cx.prog cx.w) A (getItem (.ref l) (.int i t)) Q E s := by
 obtain ⟨hc,e⟩ := zbx (show (if _ then some (if i < 0 then i + items.size else i).toNat else none) = some j from hj)
 by_cases h0 : i < 0
 ·rw [if_pos h0] at e hc
  have hc := of_decide_eq_true ((Bool.and_eq_true _ _).mp hc).1
  exact wpAny_getItem_list_neg hl h0 (Int.neg_le_of_neg_le (by omega)) h1 (by rw [e]; exact hx) h
 ·rw [if_neg h0] at e
  exact wpAny_getItem_list hl (Int.not_lt.mp h0) h2 (by rw [e]; exact hx) h
theorem zjm {F : AP} {s : Shared} {A : Around} {x y : Value} {a b : D} {r : R} (w : Wd cx F s) (qa : BRep cx F s.heap x a) (qb : BRep cx F s.heap y b) (he : opIndex [a,b] = some r) {Q E : VP}
  (hQ : ∀ v k,RepR cx F s.heap s.heap v r → Q v { s with toks := k }) : wpAny (model cx.prog cx.w) A (getItem x y) Q E s := by
 obtain ⟨i,e,he⟩ := Option.bind_eq_some_iff.mp (show (intD b).bind (fun i => if small i then idxD i a else none) = some r from he)
 obtain rfl := zbV e
 obtain ⟨u,rfl⟩ := qb.int_inv
 by_cases hs : small i = true
 ·replace he := (if_pos hs).symm.trans he
  obtain ⟨h1,h2⟩ := zdi hs
  have h1 : -2 ^ 63 ≤ i := Int.le_trans (by decide) h1
  have h2 : i < 2 ^ 63 := Int.lt_of_le_of_lt h2 (by decide)
  clear hs
  cases a with
  | str l =>
   obtain ⟨k,c,hk,hc,rfl⟩ := zdG he
   obtain ⟨t,rfl,p,z⟩ := qa.str_inv
   refine P.getItem_str (c := c) (by rw [decide_eq_false (Int.not_lt.mpr h1),decide_eq_false (Int.not_le.mpr h2)]; rfl) ?_ (hQ _ _ (.val (Rep.str (l := [c]) _ (fun d hd => by rw [List.mem_singleton.mp hd]; exact p c (List.mem_of_getElem? hc)) (by show 1 ≤ lim; decide))))
   show (seqIndex? i l.toArray.size).bind _ = _
   rw [List.size_toArray,hk]
   exact (List.getElem?_toArray ..).trans hc
  | list l =>
   obtain ⟨k,d,hk,hc,rfl⟩ := zdG he
   obtain ⟨a,ws,m,rfl,nx,g,z,ql⟩ := qa.list_inv w
   obtain ⟨v,hv,rv⟩ := ql.get hc
   exact zjj (zaN g) h1 h2 (by rw [List.size_toArray,ql.length]; exact hk) ((List.getElem?_toArray ..).trans hv) (hQ _ s.toks (.val rv))
  | tup l =>
   obtain ⟨k,d,hk,hc,rfl⟩ := zdG he
   obtain ⟨a,ws,m,rfl,f,g,z,ql⟩ := qa.tup_inv
   obtain ⟨v,hv,rv⟩ := ql.get hc
   exact PyProof.Rows.getItem_tuple (zfd g) h1 h2 (by rw [List.size_toArray,ql.length]; exact hk) ((List.getElem?_toArray ..).trans hv) (hQ _ s.toks (.val rv))
  | _ => injection he
 ·injection (if_neg hs).symm.trans he
theorem zko : OpOK cx .index (op2 getItem) := by
 intro n A F s vs ds r ok bud w q he Q E hQ
 obtain ⟨a,b,rfl,he⟩ := zb6 (show opIndex ds = some r from he)
 obtain ⟨x,y,rfl,qa,qb⟩ := q.two
 exact zjm w qa qb he fun v k rv => hQ v F _ ((Step.refl w).toks k) rv
theorem zjR (i : Int) (n : Nat) : clip i n = clipAt n i := by
 unfold clip clipAt
 by_cases h : i < 0
 ·rw [if_pos h,if_pos h,Int.min_eq_left (by have := Int.add_le_add_right (Int.le_of_lt h) (n : Int); rwa [Int.zero_add] at this)]
  rcases Int.le_total 0 (i + n) with q | q
  ·rw [Int.max_eq_right q]
  ·rw [Int.max_eq_left q,Int.toNat_of_nonpos q]; rfl
 ·rw [if_neg h,if_neg h]
  by_cases g : i < n
  ·rw [if_pos g,Int.min_eq_left (Int.le_of_lt g),Int.max_eq_right (Int.not_lt.mp h)]
  ·rw [if_neg g,Int.min_eq_right (Int.not_lt.mp g),Int.max_eq_right (Int.natCast_nonneg n)]; rfl
theorem zdH {F : AP} {h : Heap} {v : Value} {d : D} {o : Option Int} (q : BRep cx F h v d) (e : partD d = some o) : IsPart v o ∧ (∃ p : Option (Int × Tok),v = partValue p ∧ p.map (·.1) = o) := by
 cases d <;> try ((first | (injection e; done) | (injection e with e; subst e)); done)
 ·(injection e with e; subst e); rw [q.none_inv]; exact ⟨.none,none,rfl,rfl⟩
 ·rename_i i
  replace e : (if small i then some (some i) else none) = some o := e
  split at e <;> (first | (injection e; done) | (injection e with e; subst e))
  obtain ⟨t,rfl⟩ := q.int_inv
  exact ⟨.int _ t,some (_,t),rfl,rfl⟩
theorem zbZ {d : D} {k n b : Nat} (h : bound d k n = some b) : ∃ o,partD d = some o ∧ b = o.elim k (clipAt n) := by
 cases d <;> try ((first | (injection h; done) | (injection h with h; subst h)); done)
 ·(injection h with h; subst h); exact ⟨none,rfl,rfl⟩
 ·rename_i i
  replace h : (if small i then some (clip i n) else none) = some b := h
  split at h <;> (first | (injection h; done) | (injection h with h; subst h))
  rename_i hi
  exact ⟨some i,if_pos hi,zjR _ _⟩
theorem zc0 (vs : List Value) (lo hi st : Option Int) : slicePick vs.toArray lo hi st = (pick vs lo hi st).toArray := by
 unfold slicePick pick
 simp only [List.size_toArray]
 have e : (fun a : Nat => vs.toArray[a]?) = fun a => vs[a]? := by funext a; simp
 rw [e]
theorem RepL.pick {T : NAd} {F : AP} {h : Heap} {vs : List Value} {ds : List D} (r : RepL T F h vs ds) (lo hi st : Option Int) : RepL T F h (pick vs lo hi st) (Mine.pick ds lo hi st) := by
 unfold Mine.pick
 rw [r.length]
 exact r.pickAt _
theorem zbw {α : Type} (l : List α) (lo hi : Option Int) : pick l lo hi none = cut l (lo.elim 0 (clipAt l.length)) (hi.elim l.length (clipAt l.length)) := by
 unfold pick cut
 rw [sliceBounds_plain]
 simp only [sliceRange_one]
 have := pick_run l.toArray (lo.elim 0 (clipAt l.length)) (hi.elim l.length (clipAt l.length) - lo.elim 0 (clipAt l.length))
 simp only [List.getElem?_toArray] at this
 exact this
theorem zeR (l : List Nat) (lo hi : Option Int) : ((strSliceIndices lo hi 1 l.length).filterMap (l[·]?)) = pick l lo hi none := rfl
theorem zgu {α : Type} (l : List α) (lo hi : Option Int) : (pick l lo hi none).length ≤ l.length := by
 rw [zbw]; unfold cut
 exact Nat.le_trans (List.length_take_le' _ _) (by rw [List.length_drop]; exact Nat.sub_le _ _)
theorem zex {F : AP} {s : Shared} {A : Around} {E : VP} {Q : VP} (ok : CxOk cx) (w : Wd cx F s) {a sl : Addr} {vs : List Value} {n : Nat} {l : List D} {vl vu vst : Value} {lo hi st : Option Int}
  (g : s.heap.get? a = some (lobj vs.toArray n)) (z : vs.length ≤ lim) (q : RepL cx.T F s.heap vs l) (hs : s.heap.IsSliceOf sl vl vu vst) (pl : IsPart vl lo) (pu : IsPart vu hi) (ps : IsPart vst st) (h0 : st ≠ some 0)
  (hQ : Post cx F s (.own (pick l lo hi st)) Q) : wpAny (model cx.prog cx.w) A (getItem (.ref a) (.ref sl)) Q E s := by
 refine wpAny_getItem_list_slice (zaN g) hs pl pu ps h0 ?_ (by rw [List.size_toArray]; exact zaC z)
 have hsz : (pick vs lo hi st).length ≤ lim := by
  have := slicePick_size_le vs.toArray lo hi st
  rw [zc0,List.size_toArray,List.size_toArray] at this
  exact Nat.le_trans this z
 rw [zc0]
 refine hQ _ F _ (Step.push ok w _ _) (.pushOwn w hsz (q.pick lo hi st))
theorem zjS (n : Nat) (i : Int) : clipAt n i ≤ n := by
 rw [← zjR]
 unfold clip
 by_cases h : i < 0
 ·rw [if_pos h]
  exact Int.toNat_le.mpr (by have := Int.add_le_add_right (Int.le_of_lt h) (n : Int); rwa [Int.zero_add] at this)
 ·rw [if_neg h]
  by_cases g : i < n
  ·rw [if_pos g]; exact Int.toNat_le.mpr (Int.le_of_lt g)
  ·rw [if_neg g]; exact Nat.le_refl _
theorem zj8 {a b n : Nat} (h2 : b - a = n) (hb : b ≤ n) (h : 0 < n) : a = 0 := by omega
theorem ziB {F : AP} {s : Shared} {A : Around} {E : VP} {Q : VP} (w : Wd cx F s) {sl : Addr} {l : List Nat} {t : Tok} {pl pu : Option (Int × Tok)}
  (p : ∀ c ∈ l,c < 0x110000) (z : l.length ≤ lim) (hs : s.heap.IsSlice sl pl pu none) (hQ : Post cx F s (.val (.str (pick l (pl.map (·.1)) (pu.map (·.1)) none))) Q) :
  wpAny (model cx.prog cx.w) A (getItem (.str ⟨l.toArray⟩ t) (.ref sl)) Q E s := by
 refine wpAny_getItem_str_slice hs (by rfl) ?_
 have hsz := zgu l (pl.map (·.1)) (pu.map (·.1))
 have hp : ∀ c ∈ pick l (pl.map (·.1)) (pu.map (·.1)) none,c < 0x110000 := fun c hc => by
  rw [zbw] at hc; unfold cut at hc
  exact p c (List.mem_of_mem_drop (List.mem_of_mem_take hc))
 have e0 : slicePicked ⟨l.toArray⟩ pl pu none = strSliceIndices (pl.map (·.1)) (pu.map (·.1)) 1 l.length := by
  unfold slicePicked
  show strSliceIndices _ _ 1 (l.toArray.size) = _
  rw [List.size_toArray]
 have e1 : ((slicePicked ⟨l.toArray⟩ pl pu none).filterMap ((PySem.Str.mk l.toArray).cps[·]?)) = pick l (pl.map (·.1)) (pu.map (·.1)) none := by
  rw [e0, ← zeR]
  have e : (fun a : Nat => (PySem.Str.mk l.toArray).cps[a]?) = fun a => l[a]? := by funext a; simp
  rw [e]
 unfold sliceMade
 rw [e1]
 by_cases hc : ((((none : Option (Int × Tok)).map (·.1)).getD 1 == 1 && (slicePicked ⟨l.toArray⟩ pl pu none).length == (PySem.Str.mk l.toArray).length) = true)
 ·rw [if_pos hc]
  simp only [Bool.and_eq_true,beq_iff_eq] at hc
  have h2 := hc.2
  rw [e0] at h2
  have e3 : strSliceIndices (pl.map (·.1)) (pu.map (·.1)) 1 l.length = sliceRange (sliceBounds (pl.map (·.1)) (pu.map (·.1)) none l.length).1 (sliceBounds (pl.map (·.1)) (pu.map (·.1)) none l.length).2.1 (sliceBounds (pl.map (·.1)) (pu.map (·.1)) none l.length).2.2 := rfl
  rw [e3,sliceBounds_plain,sliceRange_one,List.length_map,List.length_range] at h2
  have h3 : (PySem.Str.mk l.toArray).length = l.length := by show l.toArray.size = _; rw [List.size_toArray]
  rw [h3] at h2
  have hb : (pu.map (·.1)).elim l.length (clipAt l.length) ≤ l.length := by
   cases (pu.map (·.1)) with
   | none => exact Nat.le_refl _
   | some i => exact zjS _ _
  have : pick l (pl.map (·.1)) (pu.map (·.1)) none = l := by
   rw [zbw]
   unfold cut
   rcases Nat.eq_zero_or_pos l.length with h | h
   ·rw [List.length_eq_zero_iff.mp h]; simp
   ·have e2 : (pl.map (·.1)).elim 0 (clipAt l.length) = 0 := zj8 h2 hb h
    rw [e2] at h2
    rw [e2,List.drop_zero,List.take_of_length_le (Nat.le_of_eq h2.symm)]
  rw [this] at hQ
  exact hQ _ F _ (Step.refl w) (.val (.str t p z))
 ·rw [if_neg hc]
  exact ⟨Nat.le_trans (by show (List.toArray _).size ≤ l.length; rw [List.size_toArray]; exact hsz) (zaC z),hQ _ F _ ((Step.refl w).toks _) (.val (.str _ hp (Nat.le_trans hsz z)))⟩
end
section
variable {cx : XCx} {ε : Sc}
theorem zdu (slice : Expr) (o i : Value) : ∃ ops,subscripted slice false o i = operate ops (getItem o i) := by
 cases slice with
 | Slice l u st p => cases st <;> exact ⟨_,rfl⟩
 | _ => exact ⟨_,rfl⟩
noncomputable def seqD : D → Bool
 | .str _ | .list _ | .tup _ => true
 | _ => false
theorem zeP {F : AP} {s : Shared} {A : Around} {value slice : Expr} {o i : Value} {d : D} {Q E : VP} (w : Wd cx F s) (q : BRep cx F s.heap o d) (hd : seqD d = true)
  (h : wpAny (model cx.prog cx.w) A (getItem o i) Q E s) : wpAny (model cx.prog cx.w) A (subscriptTail value slice o i) Q E s := by
 obtain ⟨ops,hs⟩ := zdu slice o i
 cases d with
 | str l =>
  obtain ⟨t,rfl,_,_⟩ := q.str_inv
  exact tail_any (typeIs_str s _ _) PySem.F.slot_str_getitem.lookup h hs
 | list l =>
  obtain ⟨a,vs,n,rfl,nx,g,z,_⟩ := q.list_inv w
  exact tail_any (T := "list") ⟨_,g,rfl⟩ list_getitem_lookup h hs
 | tup l =>
  obtain ⟨a,vs,n,rfl,f,g,z,_⟩ := q.tup_inv
  exact tail_any (T := "tuple") ⟨_,g,rfl⟩ PySem.F.slot_tuple_getitem.lookup h hs
 | _ => injection hd
theorem zhT {d e : D} {r : R} (h : opIndex [d,e] = some r) : seqD d = true := by
 obtain ⟨i,_,h⟩ := Option.bind_eq_some_iff.mp (show (intD e).bind (fun i => if small i then idxD i d else none) = some r from h)
 by_cases hs : small i = true
 ·replace h := (if_pos hs).symm.trans h
  cases d <;> first | rfl | (injection h; done)
 ·injection (if_neg hs).symm.trans h
theorem zag {v i : Expr} {pos : Pos} {xv xi : X} (hv : Sound cx ε v xv) (hi : Sound cx ε i xi) : Sound cx ε (.Subscript v i pos) (.op .index (.cons xv (.cons xi .nil))) := by
 refine Sound.ofE ?_ fun _ => rfl
 intro n cf A env F s ρ ad m cm H res he Q E hQ
 obtain ⟨rs,h1,h2⟩ := ev_op he
 obtain ⟨ra,xs,ha,h3,rfl⟩ := zaD h1
 obtain ⟨rb,ys,hb,h4,rfl⟩ := zaD h3
 obtain rfl := zbq h4
 refine Subscript_ ?_
 refine hv.ev n cf A env F s ρ ad m cm H ra ha _ _ fun a F' s' st qa => ?_
 refine hi.ev n cf A env F' s' ρ ad m cm (H.step st) rb hb _ _ fun b F'' s'' st' qb => ?_
 have qa' := st'.brep st.wd qa.brep
 refine zeP st'.wd qa' (zhT h2) ?_
 exact zko n A F'' s'' [a,b] _ res H.ok H.bud st'.wd (.cons qa' (.cons qb.brep .nil)) h2 _ _ (hQ.after (st.trans st'))
inductive SoundO (cx : XCx) (ε : Sc) : Option Expr → X → Prop
 | no : SoundO cx ε none (.const .none)
 | yes {e : Expr} {x : X} : Sound cx ε e x → SoundO cx ε (some e) x
theorem SoundO.run {o : Option Expr} {x : X} (h : SoundO cx ε o x) {n cf A env F s ρ ad m cm} (H : Here cx ε n cf A env F s ρ ad m cm) {r : R} (hr : ev cf x ρ = some [r]) : Ev cx A F s (evalPart o env) r := by
 cases h with
 | no => replace hr := (zbl _).symm.trans hr; (injection hr with hr; injection hr with hr z; clear z; subst hr); exact Ev.here H.wd (.val .none)
 | yes h => exact h.ev n cf A env F s ρ ad m cm H r hr
theorem zcY {F : AP} {h : Heap} {v : Value} {d : D} {o : Option Int} (q : BRep cx F h v d) (e : partD d = some o) : ∃ p : Option (Int × Tok),v = partValue p ∧ p.map (·.1) = o := (zdH q e).2
theorem zal {v : Expr} {l u : Option Expr} {p pos : Pos} {xv xl xu : X} (hv : Sound cx ε v xv) (hl : SoundO cx ε l xl) (hu : SoundO cx ε u xu) :
  Sound cx ε (.Subscript v (.Slice l u none p) pos) (.op .slice (.cons xv (.cons xl (.cons xu .nil)))) := by
 refine Sound.ofE ?_ fun _ => rfl
 intro n cf A env F s ρ ad m cm H res he Q E hQ
 obtain ⟨rs,h1,h2⟩ := ev_op he
 obtain ⟨ra,xs,ha,h3,rfl⟩ := zaD h1
 obtain ⟨rb,ys,hb,h4,rfl⟩ := zaD h3
 obtain ⟨rc,zs,hc,h5,rfl⟩ := zaD h4
 obtain rfl := zbq h5
 refine Subscript_ ?_
 refine hv.ev n cf A env F s ρ ad m cm H ra ha _ _ fun a F' s' st qa => ?_
 refine wpAny_Slice ?_
 refine hl.run (H.step st) hb _ _ fun vl F1 s1 st1 ql => ?_
 refine hu.run ((H.step st).step st1) hc _ _ fun vu F2 s2 st2 qu => ?_
 refine wpAny_pure ?_
 have st3 := (st.trans st1).trans st2
 have st4 := Step.push H.ok st3.wd { cls := .type "slice",data := .fields #[vl,vu,.none] } s2.toks
 have qa' := st4.brep st3.wd ((st1.trans st2).brep st.wd qa.brep)
 have ql' := st4.brep st3.wd (st2.brep st1.wd ql.brep)
 have qu' := st4.brep st3.wd qu.brep
 have hs := Heap.IsSliceOf.new s2.heap vl vu .none
 replace h2 : opSlice [ra.ds,rb.ds,rc.ds] = some res := h2
 cases hx : ra.ds <;> rw [hx] at h2 <;> try (injection h2; done)
 ·rename_i x
  rw [hx] at qa'
  replace h2 : (match bound rb.ds 0 x.length,bound rc.ds x.length x.length with | some lo,some hi => some (R.val (.str (cut x lo hi))) | _,_ => none) = some res := h2
  split at h2
  ·rename_i lo hi hlo hhi
   (injection h2 with h2; subst h2)
   obtain ⟨t,rfl,pp,z⟩ := qa'.str_inv
   refine zeP st4.wd qa' rfl ?_
   obtain ⟨ol,hol,rfl⟩ := zbZ hlo
   obtain ⟨ou,hou,rfl⟩ := zbZ hhi
   obtain ⟨pl,rfl,e4⟩ := zcY ql' hol
   obtain ⟨pu,rfl,e5⟩ := zcY qu' hou
   refine ziB st4.wd (pl := pl) (pu := pu) pp z ?_ ?_
   ·obtain ⟨o,h1,h2,h3⟩ := hs; exact ⟨o,h1,h2,h3⟩
   ·rw [e4,e5,zbw]; exact hQ.after (st3.trans st4)
  ·injection h2
 ·rename_i x
  rw [hx] at qa'
  replace h2 : (match bound rb.ds 0 x.length,bound rc.ds x.length x.length with | some lo,some hi => some (R.own (cut x lo hi)) | _,_ => none) = some res := h2
  split at h2
  ·rename_i lo hi hlo hhi
   (injection h2 with h2; subst h2)
   obtain ⟨al,vs,k,rfl,nx,g,z,q⟩ := qa'.list_inv st4.wd
   refine zeP st4.wd qa' rfl ?_
   obtain ⟨ol,hol,rfl⟩ := zbZ hlo
   obtain ⟨ou,hou,rfl⟩ := zbZ hhi
   refine zex H.ok st4.wd g z q hs (zdH ql' hol).1 (zdH qu' hou).1 .none (by intro e; injection e) ?_
   rw [zbw]; exact hQ.after (st3.trans st4)
  ·injection h2
theorem zbI {v st : Expr} {l u : Option Expr} {p pos : Pos} {xv xl xu xs : X} (hv : Sound cx ε v xv) (hl : SoundO cx ε l xl) (hu : SoundO cx ε u xu) (hst : Sound cx ε st xs) :
  Sound cx ε (.Subscript v (.Slice l u (some st) p) pos) (.op .slice3 (.cons xv (.cons xl (.cons xu (.cons xs .nil))))) := by
 refine Sound.ofE ?_ fun _ => rfl
 intro n cf A env F s ρ ad m cm H res he Q E hQ
 obtain ⟨rs,h1,h2⟩ := ev_op he
 obtain ⟨ra,xs',ha,h3,rfl⟩ := zaD h1
 obtain ⟨rb,ys,hb,h4,rfl⟩ := zaD h3
 obtain ⟨rc,zs,hc,h5,rfl⟩ := zaD h4
 obtain ⟨rd,ws,hd,h6,rfl⟩ := zaD h5
 obtain rfl := zbq h6
 refine Subscript_ ?_
 refine hv.ev n cf A env F s ρ ad m cm H ra ha _ _ fun a F' s' st qa => ?_
 refine wpAny_Slice ?_
 refine hl.run (H.step st) hb _ _ fun vl F1 s1 st1 ql => ?_
 refine hu.run ((H.step st).step st1) hc _ _ fun vu F2 s2 st2 qu => ?_
 have st3 := (st.trans st1).trans st2
 refine hst.ev n cf A env F2 s2 ρ ad m cm (H.step st3) rd hd _ _ fun vs F3 s3 st5 qs => ?_
 have st6 := st3.trans st5
 have st4 := Step.push H.ok st6.wd { cls := .type "slice",data := .fields #[vl,vu,vs] } s3.toks
 have qa' := st4.brep st6.wd (((st1.trans st2).trans st5).brep st.wd qa.brep)
 have ql' := st4.brep st6.wd ((st2.trans st5).brep st1.wd ql.brep)
 have qu' := st4.brep st6.wd (st5.brep st3.wd qu.brep)
 have qs' := st4.brep st6.wd qs.brep
 have hs := Heap.IsSliceOf.new s3.heap vl vu vs
 replace h2 : opSlice3 [ra.ds,rb.ds,rc.ds,rd.ds] = some res := h2
 cases hx : ra.ds <;> rw [hx] at h2 <;> try (injection h2; done)
 cases hy : rd.ds <;> rw [hy] at h2 <;> try (injection h2; done)
 ·rename_i x k
  rw [hx] at qa'; rw [hy] at qs'
  replace h2 : (match partD rb.ds,partD rc.ds with | some lo,some hi => if k ≠ 0 ∧ small k then some (R.own (pick x lo hi (some k))) else none | _,_ => none) = some res := h2
  split at h2
  ·rename_i lo hi hlo hhi
   split at h2 <;> (first | (injection h2; done) | (injection h2 with h2; subst h2))
   rename_i hk
   obtain ⟨al,vs',k',rfl,nx,g,z,q⟩ := qa'.list_inv st4.wd
   refine zeP st4.wd qa' rfl ?_
   obtain ⟨t,rfl⟩ := qs'.int_inv
   exact zex H.ok st4.wd g z q hs (zdH ql' hlo).1 (zdH qu' hhi).1 (.int _ _) (by intro e; (injection e with e; subst e); exact hk.1 rfl) (hQ.after (st6.trans st4))
  ·injection h2
end
noncomputable def starred : Expr → Bool
 | .Starred _ _ => true
 | _ => false
theorem zaq {e : Expr} {rest : List Expr} {env : Env} (h : starred e = false) : starEach (e :: rest) env = (false,eval e env) :: starEach rest env := by
 cases e <;> first | rfl | injection h
theorem zav {pos : Pos} {t : Sem Value} {r : List (Bool × Sem Value)} : backTo pos ((false,t) :: r) = (false,t) :: backTo pos r := by
 simp [backTo]
section
variable {cx : XCx} {ε : Sc}
inductive RepRL (cx : XCx) (F : AP) (lo h : Heap) : List Value → List R → Prop
 | nil : RepRL cx F lo h [] []
 | cons {v : Value} {vs : List Value} {r : R} {rs : List R} : RepR cx F lo h v r → RepRL cx F lo h vs rs → RepRL cx F lo h (v :: vs) (r :: rs)
theorem RepRL.brep {F : AP} {lo h : Heap} {vs : List Value} {rs : List R} (q : RepRL cx F lo h vs rs) : BRepL cx F h vs (rs.map R.ds) := by
 induction q with
 | nil => exact .nil
 | cons a _ ih => exact .cons a.brep ih
theorem RepRL.low {F F' F'' : AP} {s s' : Shared} {h : Heap} {vs : List Value} {rs : List R} (x : Step cx F s F' s') (q : RepRL cx F'' s'.heap h vs rs) : RepRL cx F'' s.heap h vs rs := by
 induction q with
 | nil => exact .nil
 | cons a _ ih => exact .cons (a.low x) ih
theorem RepRL.vals {F : AP} {lo h : Heap} {vs : List Value} {l : List D} (q : RepL cx.T F h vs l) : RepRL cx F lo h vs (l.map .val) := by
 induction vs generalizing l with
 | nil => cases q; exact .nil
 | cons v vs ih => cases q with | cons a b => exact .cons (.val a) (ih b)
theorem zfO (ok : CxOk cx) {F : AP} {s : Shared} (w : Wd cx F s) : ∀ {vs : List Value} {rs : List R} {ds : List D} {F' : AP} {s' : Shared} {F₁ : AP},Step cx F s F₁ s' → (∀ a,F' a → F₁ a) → RepRL cx F' s.heap s'.heap vs rs → fzAll rs = some ds →
  ∃ F'',Step cx F s F'' s' ∧ (∀ a,F₁ a → F'' a) ∧ RepL cx.T F'' s'.heap vs ds := by
 intro vs rs ds F' s' F₁ x hF q e
 induction q generalizing ds F₁ with
 | nil => (injection e with e; subst e); exact ⟨F₁,x,fun _ h => h,.nil⟩
 | @cons v vs r rs a b ih =>
  unfold fzAll at e
  split at e
  ·rename_i d ds' e1 e2
   (injection e with e; subst e)
   cases a with
   | val a =>
    cases e1
    obtain ⟨F'',y,hs,q⟩ := ih x hF e2
    exact ⟨F'',y,hs,.cons (a.mono (fun c h => hs c (hF c h)) fun _ _ _ e => e) q⟩
   | own l nf nx g z a =>
    (injection e1 with e1; subst e1)
    obtain ⟨F'',y,hs,q⟩ := ih (x.freeze ok w l g) (fun c h => .inl (hF c h)) e2
    exact ⟨F'',y,fun c h => hs c (.inl h),.cons (.list (hs _ (.inr rfl)) g z (a.mono (fun c h => hs c (.inl (hF c h))) fun _ _ _ e => e)) q⟩
   | bor _ _ _ _ => injection e1
  ·injection e
inductive SoundL (cx : XCx) (ε : Sc) : List Expr → X → Bool → Prop
 | nil : SoundL cx ε [] .nil false
 | cons {e : Expr} {x : X} {es : List Expr} {y : X} {st : Bool} : Sound cx ε e x → starred e = false → SoundL cx ε es y st → SoundL cx ε (e :: es) (.cons x y) st
 | star {e : Expr} {x : X} {p : Pos} : Sound cx ε e x → SoundL cx ε [.Starred e p] (.star x) true
theorem zih {F : AP} {s : Shared} {A : Around} {E : VP} {Q : List Value → Shared → Prop} (ok : CxOk cx) (w : Wd cx F s) {v : Value} {r : R} {d : D} {l : List D} {lo : Heap} (q : RepR cx F lo s.heap v r) (e : r.fz = some d)
  (hl : d = .list l ∨ d = .tup l)
  (h : ∀ vs s',RepL cx.T F s'.heap vs l → vs.length ≤ lim → Step cx F s F s' → Q vs s') : PySem.W.StarOf (model cx.prog cx.w) A E v Q s := by
 have key : ∃ (a : Addr) (o : Obj) (T : String) (vs : List Value) (n : Nat),v = .ref a ∧ s.heap.get? a = some o ∧ o.cls = .type T ∧ o.data = .seq vs.toArray n ∧ (T = "list" ∨ T = "tuple") ∧ vs.length ≤ lim ∧ RepL cx.T F s.heap vs l := by
  cases q with
  | val q =>
   cases e
   rcases hl with rfl | rfl
   ·cases q with | list f g z q => exact ⟨_,_, "list",_,_,rfl,g,rfl,rfl,.inl rfl,z,q⟩
   ·cases q with | tup f g z q => exact ⟨_,_, "tuple",_,_,rfl,g,rfl,rfl,.inr rfl,z,q⟩
  | own l nf nx g z q =>
   (injection e with e; subst e)
   rcases hl with h | h <;> (first | (injection h; done) | (injection h with h; subst h))
   exact ⟨_,_, "list",_,_,rfl,g,rfl,rfl,.inl rfl,z,q⟩
  | bor _ _ _ _ => injection e
 obtain ⟨a,o,T,vs,n,rfl,g,hc,hd,hT,z,q⟩ := key
 have hT' : s.TypeIs (.ref a) T := ⟨o,g,hc⟩
 have c : wpAny (model cx.prog cx.w) A (collect (.ref a)) Q E s := by
  refine wpAny_collect_seq a hT g hc hd (fun h' hk => ?_) (by rw [List.size_toArray]; exact zaC z)
  exact h vs { s with heap := h' } (q.mono (fun _ h => h) fun a o _ e => hk a o e) z (Step.grown ok w s.toks hk)
 unfold PySem.W.StarOf notIterableAtAll
 rcases hT with rfl | rfl
 ·exact wb (wpAny_specialOf hT' PySem.F.slot_list_iter.lookup (wpAny_pure ⟨rfl,c⟩))
 ·exact wb (wpAny_specialOf hT' PySem.F.slot_tuple_iter.lookup (wpAny_pure ⟨rfl,c⟩))
theorem ev_star {cf : CfT} {ρ : List Slot} {a : X} {rs : List R} (h : ev cf (.star a) ρ = some rs) : ∃ x d l,ev cf a ρ = some [x] ∧ x.fz = some d ∧ (d = .list l ∨ d = .tup l) ∧ rs = l.map .val := by
 replace h := (zkS _).symm.trans h
 split at h
 ·rename_i x e
  split at h
  ·rename_i l e'; (injection h with h; subst h); exact ⟨x,_,l,e,e',.inl rfl,rfl⟩
  ·rename_i l e'; (injection h with h; subst h); exact ⟨x,_,l,e,e',.inr rfl,rfl⟩
  ·injection h
 ·injection h
theorem zg5 {n cf A env F s ρ ad m cm} (H : Here cx ε n cf A env F s ρ ad m cm) {e : Expr} {x : X} (h : Sound cx ε e x) {rs : List R} (hr : ev cf (.star x) ρ = some rs) {Q : List Value → Shared → Prop} {E : VP}
  (hQ : ∀ vs F' s',Step cx F s F' s' → RepRL cx F' s.heap s'.heap vs rs → vs.length ≤ lim → Q vs s') : wpAny (model cx.prog cx.w) A (eval e env) (fun v s₁ => PySem.W.StarOf (model cx.prog cx.w) A E v Q s₁) E s := by
 obtain ⟨r,d,l,e1,e2,e3,rfl⟩ := ev_star hr
 refine h.ev n cf A env F s ρ ad m cm H r e1 _ _ fun v F' s' st q => ?_
 obtain ⟨F'',st',hs,rd⟩ := st.fz H.ok H.wd q e2
 have q' : RepR cx F'' s.heap s'.heap v (.val d) := .val rd
 exact zih H.ok st'.wd q' rfl e3 fun vs s'' ql z st'' => hQ vs F'' s'' (st'.trans st'') (RepRL.vals ql) z
theorem SoundL.run {es : List Expr} {x : X} {b : Bool} (h : SoundL cx ε es x b) {n cf A env} {pos : Pos} :
  ∀ F s ρ ad m cm,Here cx ε n cf A env F s ρ ad m cm → ∀ rs,ev cf x ρ = some rs → ∀ (Q : List Value → Shared → Prop) (E : VP),
   (∀ vs F' s',Step cx F s F' s' → RepRL cx F' s.heap s'.heap vs rs → Q vs s') → wpAny (model cx.prog cx.w) A (spliced (backTo pos (starEach es env))) Q E s := by
 induction h with
 | nil =>
  intro F s ρ ad m cm H rs hr Q E hQ
  obtain rfl := zbq hr
  exact Calls.spliced_nil (hQ [] F s (Step.refl H.wd) .nil)
 | @cons e x es y st h1 hs h2 ih =>
  intro F s ρ ad m cm H rs hr Q E hQ
  obtain ⟨r,rs',e1,e2,rfl⟩ := zaD hr
  rw [zaq hs,zav]
  refine Calls.spliced_cons ?_
  refine h1.ev n cf A env F s ρ ad m cm H r e1 _ _ fun v F' s' st q => ?_
  refine ih F' s' ρ ad m cm (H.step st) rs' e2 _ _ fun vs F'' s'' st' qs => ?_
  exact hQ _ F'' s'' (st.trans st') (.cons (q.step st' st.wd) (qs.low st))
 | @star e x p h1 =>
  intro F s ρ ad m cm H rs hr Q E hQ
  refine PySem.W.ks_spliced (rest := []) (zg5 H h1 hr fun vs F' s' st q z => ?_)
  exact Calls.spliced_nil (by rw [List.append_nil]; exact hQ vs F' s' st q)
theorem zao {es : List Expr} {x : X} {b : Bool} {pos : Pos} (h : SoundL cx ε es x b) : Sound cx ε (.List es pos) (.list x) := by
 refine Sound.ofE ?_ fun _ => rfl
 intro n cf A env F s ρ ad m cm H res he Q E hQ
 replace he := (zfh _).symm.trans he
 split at he
 ·rename_i rs e1
  split at he
  ·rename_i ds e2
   split at he <;> cases he
   rename_i hz
   show wpAny _ _ (do standAt pos; newList (← spliced (backTo pos (starEach es env)))) Q E s
   refine wb (wpAny_standAt (wb ?_))
   refine h.run F s ρ ad m cm H rs e1 _ _ fun vs F' s' st q => ?_
   obtain ⟨F'',st',_,q'⟩ := zfO H.ok H.wd st (fun _ h => h) q e2
   have z : vs.length ≤ lim := by rw [q'.length]; exact hz
   refine wpAny_newList ?_ (zaC z)
   exact hQ _ F'' _ (st'.trans (Step.push H.ok st'.wd _ _)) ((RepR.pushOwn st'.wd z q').low st')
  ·injection he
 ·injection he
theorem ze0 {F : AP} {s : Shared} (ok : CxOk cx) (w : Wd cx F s) {vs : List Value} {l : List D} (k : Nat) (z : vs.length ≤ lim) (q : RepL cx.T F s.heap vs l) :
  ∃ F',Step cx F s F' { s with heap := s.heap.push (tobj vs.toArray 0),toks := k } ∧ Rep cx.T F' (s.heap.push (tobj vs.toArray 0)) (.ref s.heap.objs.size) (.tup l) := by
 have st := Step.push ok w (tobj vs.toArray 0) k
 have g : (s.heap.push (tobj vs.toArray 0)).get? s.heap.objs.size = some (tobj vs.toArray 0) := Heap.get?_push_size _ rfl
 exact ⟨_,st.freeze ok w (zaE _) g,.tup (.inr rfl) g z ((st.repL w q).mono (fun _ h => .inl h) fun _ _ _ e => e)⟩
theorem zar {es : List Expr} {x : X} {b : Bool} {k : Nat} {pos : Pos} (h : SoundL cx ε es x b) : Sound cx ε (.Tuple es k pos) (.tup x) := by
 refine Sound.ofE ?_ fun _ => rfl
 intro n cf A env F s ρ ad m cm H res he Q E hQ
 replace he := (zgL _).symm.trans he
 split at he
 ·rename_i rs e1
  split at he
  ·rename_i ds e2
   split at he <;> cases he
   rename_i hz
   show wpAny _ _ (do standAt pos; newTuple (← spliced (backTo pos (starEach es env)))) Q E s
   refine wb (wpAny_standAt (wb ?_))
   refine h.run F s ρ ad m cm H rs e1 _ _ fun vs F' s' st q => ?_
   obtain ⟨F'',st',_,q'⟩ := zfO H.ok H.wd st (fun _ h => h) q e2
   have z : vs.length ≤ lim := by rw [q'.length]; exact hz
   refine wpAny_newTuple ?_ (zaC z)
   obtain ⟨F3,st3,r⟩ := ze0 H.ok st'.wd s'.toks z q'
   exact hQ _ F3 _ (st'.trans st3) (.val r)
  ·injection he
 ·injection he
theorem zaM {es : List Expr} {x : X} {b : Bool} {pos : Pos} {env : Env} (h : SoundL cx ε es x b) : (backTo pos (starEach es env)).any (·.1) = b := by
 induction h with
 | nil => rfl
 | cons h1 hs h2 ih => rw [zaq hs,zav,List.any_cons]; simpa using ih
 | star h => rfl
theorem zaO {es : List Expr} {x : X} {b : Bool} {pos : Pos} (h : SoundL cx ε es x b) {n cf A env F s ρ ad m cm} (H : Here cx ε n cf A env F s ρ ad m cm) {rs : List R} (hr : ev cf x ρ = some rs) {f : Value} {Q : Args → Shared → Prop} {E : VP}
  (hQ : ∀ vs F' s',Step cx F s F' s' → RepRL cx F' s.heap s'.heap vs rs → Q ⟨vs,[]⟩ s') : wpAny (model cx.prog cx.w) A (evalArgs f true (backTo pos (starEach es env)) []) Q E s := by
 cases h with
 | nil =>
  obtain rfl := zbq hr
  exact PySem.evalArgs_none (hQ [] F s (Step.refl H.wd) .nil)
 | @cons e x es y b h1 hs h2 =>
  have := (SoundL.cons h1 hs h2).run (pos := pos) F s ρ ad m cm H rs hr
  rw [zaq hs,zav] at this ⊢
  exact Calls.evalArgs_plain (this _ _ hQ)
 | star h1 =>
  exact PySem.W.ks_lone (zg5 H h1 hr fun vs F' s' st q _ => hQ vs F' s' st q)
theorem zbj {n cf A env F s ρ ad m cm} (H : Here cx ε n cf A env F s ρ ad m cm) {x : Str} {pos : Pos} {v : Value} (hk : ε.kinds.lookup x = some .globalImplicit) (hv : cx.mg x = some v) (hd : (x == ("__debug__" : Str)) = false)
  {Q E : VP} (h : Q v s) : wpAny (model cx.prog cx.w) A (eval (.Name x pos) env) Q E s :=
 Calls.Name_function_global H.env.kind (by unfold Env.kindOf; rw [H.env.names]; exact hk) (Calls.loadGlobal_global (H.env.glob ▸ H.wd.glob H.ok) hv h) hd
theorem zaL {n cf A A' env F s ρ ad m cm} (H : Here cx ε n cf A env F s ρ ad m cm) {x : Str} {pos : Pos} {v : Value} (hk : ε.kinds.lookup x = some .globalImplicit) (hg : cx.mg x = none) (hn : x ≠ "__name__") (hv : bootBuiltins x = some v) (hd : (x == ("__debug__" : Str)) = false)
  {Q E : VP} (h : Q v s) : wpAny (model cx.prog cx.w) A' (eval (.Name x pos) env) Q E s :=
 Calls.Name_function_global H.env.kind (by unfold Env.kindOf; rw [H.env.names]; exact hk) (Calls.loadGlobal_builtin (H.env.glob ▸ H.wd.glob H.ok) hg (H.env.blt ▸ H.wd.blt H.ok) ((H.ok.bmb x hn).trans hv) h) hd
theorem zaw {f : Expr} {args : List Expr} {pos : Pos} {env : Env} (hf : ∀ o n p,f ≠ .Attribute o n p) : eval (.Call f args [] pos) env = (do callWith pos (← eval f env) [] (backTo pos (starEach args env)) []) := by
 cases f <;> first | rfl | exact absurd rfl (hf _ _ _)
theorem zan {f : Str} {i : Nat} {p pos : Pos} {es : List Expr} {x : X} {b : Bool} (hk : ε.kinds.lookup f = some .globalImplicit) (hv : cx.mg f = some (.ref (cx.fa i))) (hd : (f == ("__debug__" : Str)) = false) (h : SoundL cx ε es x b) :
  Sound cx ε (.Call (.Name f p) es [] pos) (.call i x) := by
 refine Sound.ofE ?_ fun _ => rfl
 intro n cf A env F s ρ ad m cm H res he Q E hQ
 replace he := (zhz _).symm.trans he
 split at he
 ·rename_i rs e1
  split at he
  ·rename_i ds e2
   obtain ⟨d,e3,e4⟩ := Option.map_eq_some_iff.mp he
   (injection e4 with e4 z; injection z; subst e4)
   rw [zaw (by intro _ _ _ e; injection e)]
   obtain ⟨⟨o,fd,g,hfd,nx⟩,hcall⟩ := H.calls.call i ds d e3
   refine wb (zbj H hk hv hd ?_)
   refine Calls.callWith_function (o := o) (fd := fd) (zaO h H e1 fun vs F' s' st q => ?_)
   obtain ⟨F'',st',_,q'⟩ := zfO H.ok H.wd st (fun _ h => h) q e2
   refine ⟨⟨st'.wd.base _ _ g nx,hfd⟩, ?_⟩
   show wpAny _ _ (call (.ref (cx.fa i)) vs) Q E s'
   refine wpAny_call (hcall A F'' s' vs H.bud.toBud st'.wd q' _ fun v F3 s3 st3 r => ?_)
   exact hQ v F3 s3 (st'.trans st3) (.val r)
  ·injection he
 ·injection he
inductive Callee : Value → Prop
 | builtin (id : String) : Callee (.builtin id)
 | type (T : String) : Callee (.type T)
theorem zak {f : Str} {c : Value} {o : Op} {p pos : Pos} {es : List Expr} {x : X} (hk : ε.kinds.lookup f = some .globalImplicit) (hg : cx.mg f = none) (hn : f ≠ "__name__") (hv : bootBuiltins f = some c) (hc : Callee c)
  (hd : (f == ("__debug__" : Str)) = false) (h : SoundL cx ε es x false) (ho : OpOK cx o (fun vs => call c vs)) : Sound cx ε (.Call (.Name f p) es [] pos) (.op o x) := by
 refine Sound.ofE ?_ fun _ => rfl
 intro n cf A env F s ρ ad m cm H res he Q E hQ
 obtain ⟨rs,e1,e2⟩ := ev_op he
 rw [zaw (by intro _ _ _ e; injection e)]
 refine wb (zaL H hk hg hn hv hd ?_)
 cases hc with
 | builtin id =>
  refine Calls.callWith_builtin (zaM h) (zaO h H e1 fun vs F' s' st q => ?_)
  exact ho n A F' s' vs _ res H.ok H.bud st.wd q.brep e2 _ _ (hQ.after st)
 | type T =>
  refine PyProof.Rows.callWith_type (zaM h) (zaO h H e1 fun vs F' s' st q => ?_)
  exact ho n A F' s' vs _ res H.ok H.bud st.wd q.brep e2 _ _ (hQ.after st)
noncomputable def plainBase : Expr → Bool
 | .Call (.Name _ _) [] [] _ => false
 | _ => true
theorem zcZ {o : Expr} {a : Str} {env : Env} {t : Sem Value} (h : plainBase o = true) : attributeBase o a env t = t := by
 cases o with
 | Call f as ks pos => cases f with
  | Name x p => cases as with
   | nil => cases ks with
    | nil => injection h
    | cons _ _ => rfl
   | cons _ _ => rfl
  | _ => rfl
 | _ => rfl
theorem zbD {o : Expr} {name : Str} {apos pos : Pos} {es : List Expr} {env : Env} {A : Around} {s : Shared} {Q E : VP} (hb : plainBase o = true) (hl : (apos.endLine == pos.line) = true) (hn : es.length < 30)
  (hst : (backTo pos (starEach es env)).any (·.1) = false)
  (h : wpAny (model cx.prog cx.w) A (eval o env) (fun ov s₁ => wpAny (model cx.prog cx.w) A (getMethod ov name (do return (← importBound o env).getD true)) (fun fx s₂ => wpAny (model cx.prog cx.w) A (callWith pos fx.1 fx.2 (backTo pos (starEach es env)) []) Q E s₂) E s₁) E s) :
  wpAny (model cx.prog cx.w) A (eval (.Call (.Attribute o name apos) es [] pos) env) Q E s := by
 have hform : methodCallForm (es.length + ([] : List Keyword).length) (backTo pos (starEach es env)) [] = true := by
  unfold methodCallForm
  simp only [List.length_nil,Nat.add_zero,List.all_nil,Bool.and_true,List.isEmpty_nil,if_true,Bool.and_eq_true,decide_eq_true_eq]
  refine ⟨?_,hn⟩
  rw [List.all_eq_true]
  intro y hy
  have := List.any_eq_false.mp hst y hy
  simpa using this
 have hpos : methodCallPos true o env apos pos = pure pos := by unfold methodCallPos; simp [hl]
 show wpAny _ _ (do
  let ov ← attributeBase o name env (eval o env)
  standAt apos.atName
  methodCall o name apos pos env ov (es.length + ([] : List Keyword).length) (backTo pos (starEach es env)) (backToKw pos (keywordEach [] env))) Q E s
 rw [zcZ hb]
 refine wb (wpAny_mono h (fun ov s₁ h₁ => wb (wpAny_standAt ?_)) fun _ _ e => e)
 show wpAny _ _ (methodCall o name apos pos env ov (es.length + ([] : List Keyword).length) (backTo pos (starEach es env)) []) Q E s₁
 unfold methodCall calleeOf
 rw [hform]
 refine wb (wpAny_holding (wpAny_mono h₁ (fun fx s₂ h₂ => ?_) fun _ _ e => e))
 rw [hpos]
 exact wb (wpAny_pure h₂)
theorem zaK {o : Expr} {name : Str} {id : String} {apos pos : Pos} {es : List Expr} {xo x : X} {op : Op} (hb : plainBase o = true) (hl : (apos.endLine == pos.line) = true) (hn : es.length < 30)
  (slot : PySem.Slot "str" name id) (ty : typeOf (.builtin id) = pure (.type "method_descriptor"))
  (h0 : Sound cx ε o xo) (h : SoundL cx ε es x false) (hs : ∀ d ds r,opF op (d :: ds) = some r → ∃ l,d = .str l) (ho : OpOK cx op (fun vs => call (.builtin id) vs)) : Sound cx ε (.Call (.Attribute o name apos) es [] pos) (.op op (.cons xo x)) := by
 refine Sound.ofE ?_ fun _ => rfl
 intro n cf A env F s ρ ad m cm H res he Q E hQ
 obtain ⟨rs,e1,e2⟩ := ev_op he
 obtain ⟨r0,rs',e3,e4,rfl⟩ := zaD e1
 refine zbD hb hl hn (zaM h) ?_
 refine h0.ev n cf A env F s ρ ad m cm H r0 e3 _ _ fun v F' s' st q => ?_
 obtain ⟨l,hl'⟩ := hs _ _ _ e2
 have qb := q.brep
 rw [hl'] at qb
 obtain ⟨t,rfl,p,z⟩ := qb.str_inv
 refine GM.of _ (typeIs_str _ _ _) slot ty (fun _ e => nomatch e) ?_
 refine Calls.callWith_builtin (zaM h) (zaO h (H.step st) e4 fun vs F'' s'' st' qs => ?_)
 exact ho n A F'' s'' (_ :: vs) _ res H.ok H.bud st'.wd (.cons (st'.brep st.wd q.brep) qs.brep) e2 _ _ (hQ.after (st.trans st'))
end
theorem zc7 {α : Type} (n : Nat) (l : List α) : ((List.replicate n l.toArray).foldl (· ++ ·) #[]) = ((List.replicate n l).flatten).toArray := by
 have : ∀ (m : Nat) (acc : List α),((List.replicate m l.toArray).foldl (· ++ ·) acc.toArray) = (acc ++ (List.replicate m l).flatten).toArray := by
  intro m
  induction m with
  | zero => intro acc; simp
  | succ m ih =>
   intro acc
   simp only [List.replicate_succ,List.foldl_cons,List.flatten_cons]
   rw [show acc.toArray ++ l.toArray = (acc ++ l).toArray by simp,ih]
   simp
 have := this n []
 simpa using this
section
variable {cx : XCx}
theorem mul_str {F : AP} {s : Shared} {A : Around} {x y : Value} {a : List Nat} {b : Int} (qa : BRep cx F s.heap x (.str a)) (qb : BRep cx F s.heap y (.int b)) (hb : small b = true) (hz : a.length * b.toNat ≤ lim) {Q E : VP}
  (h : ∀ t k,Q (.str ⟨(rep a b).toArray⟩ t) { s with toks := k }) : wpAny (model cx.prog cx.w) A (binaryOp .Mult x y) Q E s := by
 obtain ⟨t,rfl,p,z⟩ := qa.str_inv
 obtain ⟨u,rfl⟩ := qb.int_inv
 obtain ⟨b1,b2⟩ := zdi hb
 have hlen : (PySem.Str.mk a.toArray).length = a.length := List.size_toArray ..
 have b3 : b ≤ 2 ^ 63 - 1 := Int.le_trans b2 (by decide)
 refine SB.mul ⟨by rw [decide_eq_false (Int.not_lt.mpr (Int.le_trans (by decide) b1)),decide_eq_false (Int.not_le.mpr (Int.lt_of_le_of_lt b2 (by decide)))]; rfl,fun h1 _ h2 => ?_,fun h1 _ => ?_⟩ fun t' k => ?_
 ·rw [hlen] at h2
  clear hz hlen qa qb p
  have hpos : 0 < b := by omega
  have h3 : 1000000 ≤ (2 ^ 63 - 1) / b := Int.le_ediv_of_mul_le hpos (Int.le_trans (Int.mul_le_mul_of_nonneg_left b2 (by decide)) (by decide))
  exact absurd (Int.lt_of_le_of_lt h3 h2) (Int.not_lt.mpr (Int.ofNat_le.mpr z))
 ·rw [hlen]
  exact decide_eq_false (Nat.not_lt.mpr (zaC hz))
 ·have e : Txt.mul ⟨a.toArray⟩ b = ⟨(rep a b).toArray⟩ := by
   unfold Txt.mul rep
   split
   ·rename_i h1
    rw [Int.toNat_of_nonpos (Int.lt_add_one_iff.mp h1)]; rfl
   ·split
    ·rename_i h1 h2
     rcases (Bool.or_eq_true _ _).mp h2 with h2 | h2
     ·have := eq_of_beq h2
      subst this; exact congrArg PySem.Str.mk (by simp)
     ·rw [hlen] at h2
      have := List.length_eq_zero_iff.mp (eq_of_beq h2)
      subst this; exact congrArg PySem.Str.mk (by simp)
    ·show PySem.Str.mk _ = _
     rw [zc7]
  rw [e]
  exact h t' k
theorem rep_mem {α : Type} {a : List α} {b : Int} {c : α} (h : c ∈ rep a b) : c ∈ a := by
 obtain ⟨l,hl,hc⟩ := List.mem_flatten.mp h
 rw [(List.mem_replicate.mp hl).2] at hc
 exact hc
theorem ziG {α : Type} (a : List α) (b : Int) : (rep a b).length = a.length * b.toNat := by
 unfold rep
 rw [List.length_flatten,List.map_replicate,List.sum_replicate_nat,Nat.mul_comm]
theorem zkA {F : AP} {s : Shared} {A : Around} {x y : Value} {a : List D} {b : Int} (w : Wd cx F s) (qa : BRep cx F s.heap x (.list a)) (qb : BRep cx F s.heap y (.int b)) (hb : small b = true) (hz : a.length * b.toNat ≤ lim) {Q E : VP}
  (h : ∀ vs : List Value,vs.length ≤ lim → RepL cx.T F s.heap vs (rep a b) → Q (.ref s.heap.objs.size) { s with heap := s.heap.push (lobj vs.toArray 0) }) : wpAny (model cx.prog cx.w) A (binaryOp .Mult x y) Q E s := by
 obtain ⟨l,vs,k,rfl,nx,g,z,ql⟩ := qa.list_inv w
 obtain ⟨u,rfl⟩ := qb.int_inv
 obtain ⟨b1,b2⟩ := zdi hb
 have hl : vs.length * b.toNat ≤ lim := ql.length ▸ hz
 have hsz : vs.toArray.size * b.toNat ≤ 2 ^ 24 := by rw [List.size_toArray]; exact Nat.le_trans hl (by decide)
 have e : (List.foldl (fun x1 x2 => x1 ++ x2) #[] (List.replicate (if vs.toArray.isEmpty = true then 0 else b.toNat) vs.toArray)) = (rep vs b).toArray := by
  unfold rep
  split
  ·rename_i h1
   have : vs = [] := by simpa using h1
   subst this
   simp
  ·rw [zc7]
 have := h (rep vs b) (ziG vs b ▸ hl) (ql.rep _)
 rw [← e] at this
 clear qa qb ql hz h e
 refine wpAny_binaryOp_repeat_ref (T := "list") (U := "int") (by decide) ⟨_,g,rfl⟩ (fun s' => typeIs_int s' b u) noFill_list_mul PySem.F.fills_int_mul PySem.F.slot_int_rmul repeat_list PySem.F.slot_int_index.lookup
  (call_meets PySem.F.slot_int_rmul (typeIs_int s b u) PySem.F.entry_int_rmul (PySem.F.args_int_rmul_2 _ _) (int___rmul___int_list b u l vs.toArray k)
   ⟨g,rfl,⟨_,g,rfl⟩,call_meets PySem.F.slot_list_mul ⟨_,g,rfl⟩ PySem.F.entry_list_mul (PySem.F.args_list_mul_2 _ _)
    (AutoListH.list___mul___list_int_3 l vs.toArray k b u (by simp [Builtin.List.listFitsIndex]; omega) (by omega) (by simp [Builtin.List.listTooLong,sizeLine]; omega))
    ⟨g,this⟩⟩)
inductive MulI : List D → R → Prop
 | i {a b : Int} : (small a || small b) = true → MulI [.int a,.int b] (.val (.int (a * b)))
 | s {a : List Nat} {b : Int} : small b = true → a.length * b.toNat ≤ lim → MulI [.str a,.int b] (.val (.str (rep a b)))
 | l {a : List D} {b : Int} : small b = true → a.length * b.toNat ≤ lim → MulI [.list a,.int b] (.own (rep a b))
theorem mul_inv {ds : List D} {r : R} (he : opMul ds = some r) : MulI ds r := by
 obtain ⟨a,b,rfl,he⟩ := zb6 (show two _ ds = some r from he)
 obtain ⟨i,e,he⟩ := Option.bind_eq_some_iff.mp he
 obtain rfl := zbV e
 cases a <;> try (injection he; done)
 ·obtain ⟨h,rfl⟩ := zbx he
  exact .i h
 ·obtain ⟨h,rfl⟩ := zbx he
  have h := (Bool.and_eq_true _ _).mp h
  exact .s h.1 (of_decide_eq_true h.2)
 ·obtain ⟨h,rfl⟩ := zbx he
  have h := (Bool.and_eq_true _ _).mp h
  exact .l h.1 (of_decide_eq_true h.2)
theorem zg9 : OpOK cx .mul (op2 (binaryOp .Mult)) := by
 intro n A F s vs ds r ok bud w q he Q E hQ
 cases mul_inv he with
 | i hs =>
  obtain ⟨x,y,rfl,qa,qb⟩ := q.two
  obtain ⟨t,rfl⟩ := qa.int_inv
  obtain ⟨u,rfl⟩ := qb.int_inv
  refine P.mul_int (hQ _ F _ ((Step.refl w).toks _) (.val (.int _ _))) ?_
  have hb : ∀ {i : Int},small i = true → Builtin.Int.intBits i ≤ 64 := fun h => let ⟨h1,h2⟩ := zdi h; PySem.intBits_le_64 (Int.le_trans (by decide) h1) (Int.lt_of_le_of_lt h2 (by decide))
  rcases (Bool.or_eq_true _ _).mp hs with hs | hs
  ·exact PySem.IntMulOk.of_left (hb hs)
  ·exact PySem.IntMulOk.of_right (hb hs)
 | s hb hz =>
  obtain ⟨x,y,rfl,qa,qb⟩ := q.two
  obtain ⟨_,_,p,_⟩ := qa.str_inv
  exact mul_str qa qb hb hz fun t k => hQ _ F _ ((Step.refl w).toks k) (.val (.str t (fun c hc => p c (rep_mem hc)) (by rw [ziG]; exact hz)))
 | l hb hz =>
  obtain ⟨x,y,rfl,qa,qb⟩ := q.two
  exact zkA w qa qb hb hz fun vs hl ql => hQ _ F _ (Step.push ok w _ _) (.pushOwn w hl ql)
inductive IsInv : D → D → Bool → Prop
 | none {d : D} {c : Bool} : noneB d = some c → IsInv d .none c
 | toks {i j : Nat} : i < 2 → j < 2 → IsInv (.tok i) (.tok j) (decide (i = j))
 | strTok (l : List Nat) (k : Nat) : IsInv (.str l) (.tok k) false
 | tokStr (l : List Nat) (k : Nat) : IsInv (.tok k) (.str l) false
 | noneTok (k : Nat) : IsInv .none (.tok k) false
theorem isD_inv {a b : D} {c : Bool} (h : isD a b = some c) : IsInv a b c := by
 cases b <;> try (injection h; done)
 ·exact .none h
 ·cases a <;> (first | (injection h; done) | (injection h with h; subst h))
  exact .tokStr _ _
 ·cases a with
  | none => (injection h with h; subst h); exact .noneTok _
  | str => (injection h with h; subst h); exact .strTok _ _
  | tok i => obtain ⟨⟨h1,h2⟩,rfl⟩ := zbx h; exact .toks h1 h2
  | _ => injection h
theorem zil {F : AP} {h : Heap} {v : Value} {d : D} {c : Bool} (q : BRep cx F h v d) (e : noneB d = some c) : plainIs v .none = true ∧ (v == .none) = c := by
 cases q with
 | rep q => cases q <;> (first | (injection e; done) | (injection e with e; subst e)) <;> exact ⟨rfl,rfl⟩
 | own => (injection e with e; subst e); exact ⟨rfl,rfl⟩
theorem zir {F : AP} {h : Heap} {v : Value} {k : Nat} (q : BRep cx F h v (.tok k)) (hk : k < 2) : ∃ n t,h.get? (cx.T k) = some (lobj #[.str ⟨(tokC k).toArray⟩ t] n) := by
 cases q with | rep q => cases q with | tok f => exact (f hk).2
theorem zjn (ok : CxOk cx) {F : AP} {s : Shared} {A : Around} {x y : Value} {a b : D} {c : Bool} (w : Wd cx F s) (qa : BRep cx F s.heap x a) (qb : BRep cx F s.heap y b) (hc : isD a b = some c) {Q : Bool → Shared → Prop} {E : VP} (h : Q c s) :
  wpAny (model cx.prog cx.w) A (isSame x y) Q E s := by
 cases isD_inv hc with
 | none e =>
  obtain ⟨e1,e2⟩ := zil qa e
  rw [qb.none_inv]
  exact wpAny_isSame_plain e1 (by rw [e2]; exact h)
 | noneTok k => rw [qa.none_inv,qb.tok_inv]; exact wpAny_isSame_plain rfl h
 | strTok l k => obtain ⟨t,rfl,_,_⟩ := qa.str_inv; rw [qb.tok_inv]; exact wpAny_isSame_plain rfl h
 | tokStr l k => obtain ⟨t,rfl,_,_⟩ := qb.str_inv; rw [qa.tok_inv]; exact wpAny_isSame_plain rfl h
 | @toks i j h1 h2 =>
  obtain ⟨_,_,g⟩ := zir qa h1
  obtain ⟨_,_,g'⟩ := zir qb h2
  rw [qa.tok_inv,qb.tok_inv]
  by_cases e : i = j
  ·subst e
   rw [decide_eq_true rfl] at h
   exact wpAny_isSame_ref_self h
  ·rw [decide_eq_false e] at h
   exact wpAny_isSame_ref_other (fun e' => e (ok.tinj _ _ e')) g g' (by show Value.type "list" ≠ Value.type "tuple"; decide) h
theorem op_is : OpOK cx .is_ (op2 (compareOp .Is)) := by
 intro n A F s vs ds r ok bud w q he
 refine zeL w q he fun x y a b c qa qb hc Q E h => ?_
 show wpAny _ A (do return .bool (← isSame x y)) Q E s
 exact wb (zjn ok w qa qb hc (wpAny_pure (h s.toks)))
theorem zkm : OpOK cx .isnot (op2 (compareOp .IsNot)) := by
 intro n A F s vs ds r ok bud w q he
 refine zeL w q he fun x y a b c qa qb hc Q E h => ?_
 obtain ⟨c',hc',rfl⟩ := Option.map_eq_some_iff.mp hc
 show wpAny _ A (do return .bool (!(← isSame x y))) Q E s
 exact wb (zjn ok w qa qb hc' (wpAny_pure (h s.toks)))
theorem za2 : OpOK cx .len (fun vs => call (.builtin "len") vs) := by
 intro n A F s vs ds r ok bud w q he Q E hQ
 replace he : opLen ds = some r := he
 rcases ds with _ | ⟨a0,t0⟩
 ·injection he
 cases a0 <;> try (injection he; done)
 all_goals
  rcases t0 with _ | ⟨a1,t1⟩ <;> (first | (injection he; done) | (injection he with he; subst he))
 ·obtain ⟨x,rfl,qa⟩ := q.one
  obtain ⟨t,rfl,p,z⟩ := qa.str_inv
  rename_i l
  have e : (PySem.Str.mk l.toArray).length = l.length := by show l.toArray.size = _; rw [List.size_toArray]
  refine P.len_str (by rw [e]; have := sz_lt z; omega) ?_
  rw [e]
  exact hQ _ F _ ((Step.refl w).toks _) (.val (.int _ _))
 ·obtain ⟨x,rfl,qa⟩ := q.one
  obtain ⟨a,vs,k,rfl,nx,g,z,ql⟩ := qa.list_inv w
  refine PyProof.Rows.len_list (zaN g) (by rw [List.size_toArray]; exact sz_lt z) ?_
  rw [List.size_toArray,ql.length]
  exact hQ _ F _ ((Step.refl w).toks _) (.val (.int _ _))
 ·obtain ⟨x,rfl,qa⟩ := q.one
  obtain ⟨a,vs,k,rfl,f,g,z,ql⟩ := qa.tup_inv
  refine PyProof.Rows.len_tuple (zfd g) (by rw [List.size_toArray]; exact sz_lt z) ?_
  rw [List.size_toArray,ql.length]
  exact hQ _ F _ ((Step.refl w).toks _) (.val (.int _ _))
theorem abs_ite {i : Int} : (if i < 0 then -i else i) = (i.natAbs : Int) := by
 split
 ·rename_i h; exact (Int.ofNat_natAbs_of_nonpos (Int.le_of_lt h)).symm
 ·rename_i h; exact (Int.natAbs_of_nonneg (Int.not_lt.mp h)).symm
theorem op_abs : OpOK cx .abs (fun vs => call (.builtin "abs") vs) := by
 intro n A F s vs ds r ok bud w q he Q E hQ
 delta opF at he; dsimp only at he
 unfold opAbs at he
 split at he <;> (first | (injection he; done) | (injection he with he; subst he))
 rename_i i
 obtain ⟨x,rfl,qa⟩ := q.one
 obtain ⟨t,rfl⟩ := qa.int_inv
 refine PyProof.Rows.call_abs_int fun u tk => ?_
 have e : (if i < 0 then -i else i) = (i.natAbs : Int) := abs_ite
 rw [e]
 exact hQ _ F _ ((Step.refl w).toks _) (.val (.int _ _))
theorem zhM {F : AP} {h : Heap} : ∀ {l : List D} {is : List Int} {vs : List Value},toInts l = some is → RepL cx.T F h vs l → ∀ (i : Nat) v,vs[i]? = some v → ∃ t,v = .int (is.getD i 0) t := by
 intro l
 induction l with
 | nil => intro is vs e q i v hv; cases q; injection hv
 | cons d r ih =>
  intro is vs e q
  cases d <;> try (injection e; done)
  obtain ⟨is',e',rfl⟩ := Option.map_eq_some_iff.mp (show (toInts r).map _ = some is from e)
  cases q with
  | cons a b =>
   obtain ⟨t,e2⟩ := (BRep.rep (cx := cx) a).int_inv
   intro i v hv
   cases i with
   | zero => exact ⟨t,(Option.some.inj hv).symm.trans e2⟩
   | succ i => exact ih e' b i v hv
theorem zck : ∀ {l : List D} {is : List Int},toInts l = some is → is.length = l.length
 | [],is,e => by (injection e with e; subst e); rfl
 | d :: r,is,e => by
  cases d <;> try (injection e; done)
  obtain ⟨is',e',rfl⟩ := Option.map_eq_some_iff.mp (show (toInts r).map _ = some is from e)
  simp [zck e']
theorem op_sum : OpOK cx .sum (fun vs => call (.builtin "sum") vs) := by
 intro n A F s vs ds r ok bud w q he Q E hQ
 delta opF at he; dsimp only at he
 unfold opSum at he
 split at he
 ·rename_i l
  obtain ⟨is,e1,e2⟩ := Option.map_eq_some_iff.mp he
  subst e2
  obtain ⟨x,rfl,qa⟩ := q.one
  obtain ⟨a,vs,k,rfl,nx,g,z,ql⟩ := qa.list_inv w
  refine call_sum_walkG (wpAny_pyIter_list (zaN g) ?_)
  have hne : a ≠ s.heap.objs.size := Nat.ne_of_lt (Heap.lt_size g)
  refine ⟨s.heap.objs.size,_,_,_,_,_,fun i => is.getD i 0,rfl,Walks.list (A := A.in1) bud.hd _ a hne vs.toArray,⟨⟨_,Heap.get?_push_size _ rfl,rfl,rfl⟩,zaN (Heap.get?_push_of_some _ g)⟩, ?_, ?_, ?_⟩
  ·intro b hb
   simp only [List.mem_cons,List.not_mem_nil,or_false] at hb
   rw [Heap.size_push]
   rcases hb with rfl | rfl
   ·exact Nat.lt_succ_self _
   ·exact Nat.lt_succ_of_lt (Heap.lt_size g)
  ·intro i v hv
   exact zhM e1 ql i v (by simpa using hv)
  ·intro h' tk t' hk
   have e : preSum (fun i => is.getD i 0) vs.toArray.size = is.sum := by
    rw [preSum_getD,List.size_toArray,ql.length, ← zck e1,List.take_length]
   rw [e]
   refine hQ _ F _ (Step.grown ok w _ fun b o hb => ?_) (.val (.int _ _))
   refine hk b o ?_ (Heap.get?_push_of_some _ hb)
   simp only [List.mem_cons,List.not_mem_nil,or_false]
   rintro rfl
   rw [zaE] at hb; injection hb
 ·injection he
end
theorem zaQ (l : List Nat) : (PySem.Str.mk l.toArray).length = l.length := by show l.toArray.size = _; rw [List.size_toArray]
theorem zeu (x : PySem.Str) (lo hi : Nat) : (∀ c ∈ (strSub x lo hi).cps.toList,c ∈ x.cps.toList) ∧ (strSub x lo hi).cps.size ≤ x.cps.size := by
 unfold strSub
 constructor
 ·intro c hc
  simp only [Array.mem_toList_iff] at hc ⊢
  obtain ⟨i,hi,e⟩ := Array.mem_iff_getElem.mp hc
  rw [Array.getElem_extract] at e
  exact Array.mem_iff_getElem.mpr ⟨_,_,e⟩
 ·simp only [Array.size_extract]; exact Nat.le_trans (Nat.sub_le _ _) (Nat.min_le_right _ _)
section
variable {cx : XCx}
theorem zgf {F : AP} {h : Heap} {l : List Nat} (p : ∀ c ∈ l,c < 0x110000) (z : l.length ≤ lim) {y : PySem.Str} (t : Tok) (h1 : ∀ c ∈ y.cps.toList,c ∈ l) (h2 : y.cps.size ≤ l.length) : Rep cx.T F h (.str y t) (.str y.cps.toList) :=
 Rep.str (l := y.cps.toList) t (fun c hc => p c (h1 c hc)) (by rw [Array.length_toList]; exact Nat.le_trans h2 z)
theorem zdw {f : PySem.Str → PySem.Str → R} {vs : List Value} {ds : List D} {F : AP} {s : Shared} {A : Around} {r : R} {id : String} (w : Wd cx F s) (q : BRepL cx F s.heap vs ds) (he : opStr2 f ds = some r)
  (h : ∀ (a b : List Nat) (t u : Tok),(∀ c ∈ a,c < 0x110000) → a.length ≤ lim → ∀ (Q E : VP),(∀ v k,RepR cx F s.heap s.heap v (f ⟨a.toArray⟩ ⟨b.toArray⟩) → Q v { s with toks := k }) →
   wpAny (model cx.prog cx.w) A (call (.builtin id) [.str ⟨a.toArray⟩ t,.str ⟨b.toArray⟩ u]) Q E s) : Ev cx A F s (call (.builtin id) vs) r := by
 intro Q E hQ
 obtain ⟨a,b,rfl,he⟩ := zb6 (show two _ ds = some r from he)
 obtain ⟨a,e,he⟩ := Option.bind_eq_some_iff.mp he
 obtain ⟨b,e2,he⟩ := Option.bind_eq_some_iff.mp he
 obtain rfl := zbd e
 obtain rfl := zbd e2
 (injection he with he; subst he)
 obtain ⟨x,y,rfl,qa,qb⟩ := q.two
 obtain ⟨t,rfl,p,z⟩ := qa.str_inv
 obtain ⟨u,rfl,_,_⟩ := qb.str_inv
 exact h _ _ t u p z Q E fun v k rv => hQ v F _ ((Step.refl w).toks k) rv
theorem zkk : OpOK cx .rfind (fun vs => call (.builtin "str.rfind") vs) := by
 intro n A F s vs ds r ok bud w q he
 delta opF at he; dsimp only at he
 exact zdw w q he fun a b t u p z Q E h => SC.rfind (h _ _ (.val (.int _ _)))
theorem ze1 : OpOK cx .startswith (fun vs => call (.builtin "str.startswith") vs) := by
 intro n A F s vs ds r ok bud w q he
 delta opF at he; dsimp only at he
 exact zdw w q he fun a b t u p z Q E h => SC.startswith (h _ s.toks (.val (.bool _)))
theorem zgw : OpOK cx .endswith (fun vs => call (.builtin "str.endswith") vs) := by
 intro n A F s vs ds r ok bud w q he
 delta opF at he; dsimp only at he
 exact zdw w q he fun a b t u p z Q E h => SC.endswith (h _ s.toks (.val (.bool _)))
theorem zdv (g : Nat → Bool) (l r : Bool) (x : PySem.Str) : (∀ c ∈ (Txt.stripBy g l r x).cps.toList,c ∈ x.cps.toList) ∧ (Txt.stripBy g l r x).cps.size ≤ x.cps.size := by
 unfold Txt.stripBy
 split
 ·exact ⟨fun _ h => h,Nat.le_refl _⟩
 ·exact zeu _ _ _
theorem ziP : OpOK cx .rstrip (fun vs => call (.builtin "str.rstrip") vs) := by
 intro n A F s vs ds r ok bud w q he
 delta opF at he; dsimp only at he
 refine zdw w q he fun a b t u p z Q E h => SC.rstripChars (fun t' k => h _ k (.val ?_)) (by rw [zaQ]; exact zaC z)
 have := zdv (PySem.Str.mk b.toArray).cps.contains false true ⟨a.toArray⟩
 exact zgf p z t' this.1 (by have h2 := this.2; rw [show (PySem.Str.mk a.toArray).cps.size = a.length from List.size_toArray ..] at h2; exact h2)
theorem ziR : OpOK cx .lstrip (fun vs => call (.builtin "str.lstrip") vs) := by
 intro n A F s vs ds r ok bud w q he
 delta opF at he; dsimp only at he
 refine zdw w q he fun a b t u p z Q E h => SC.lstripChars (fun t' k => h _ k (.val ?_)) (by rw [zaQ]; exact zaC z)
 have := zdv (PySem.Str.mk b.toArray).cps.contains true false ⟨a.toArray⟩
 exact zgf p z t' this.1 (by have h2 := this.2; rw [show (PySem.Str.mk a.toArray).cps.size = a.length from List.size_toArray ..] at h2; exact h2)
theorem zkp : OpOK cx .find4 (fun vs => call (.builtin "str.find") vs) := by
 intro n A F s vs ds r ok bud w q he Q E hQ
 replace he : opFind4 ds = some r := he
 rcases ds with _ | ⟨a0,t0⟩
 ·injection he
 cases a0 <;> try (injection he; done)
 all_goals
  rcases t0 with _ | ⟨a1,t1⟩
  ·injection he
  cases a1 <;> try (injection he; done)
  rcases t1 with _ | ⟨a2,t2⟩
  ·injection he
  cases a2 <;> try (injection he; done)
  rcases t2 with _ | ⟨a3,t3⟩
  ·injection he
  cases a3 <;> try (injection he; done)
  rcases t3 with _ | ⟨a4,t4⟩ <;> try (injection he; done)
 ·rename_i a b i j
  replace he : (if small i ∧ small j then some (R.val (.int (match Builtin.Str.occurrences ⟨a.toArray⟩ ⟨b.toArray⟩ (fromIndex a.length i) (min (fromIndex a.length j) a.length) 1 with | k :: _ => (k : Int) | [] => -1))) else none) = some r := he
  split at he <;> (first | (injection he; done) | (injection he with he; subst he))
  cases q with | cons q1 q => cases q with | cons q2 q => cases q with | cons q3 q => cases q with | cons q4 q =>
  cases q
  obtain ⟨t,rfl,_,_⟩ := q1.str_inv
  obtain ⟨u,rfl,_,_⟩ := q2.str_inv
  obtain ⟨v,rfl⟩ := q3.int_inv
  obtain ⟨v',rfl⟩ := q4.int_inv
  refine call_gives PySem.F.slot_str_find (typeIs_str _ _ _) PySem.F.entry_str_find (PySem.F.args_str_find_4 _ _ _ _) (m := .int (match occurrences ⟨a.toArray⟩ ⟨b.toArray⟩ (fromIndex a.length i) (min (fromIndex a.length j) a.length) 1 with | k :: _ => (k : Int) | [] => -1)) ?_ ?_
  ·show Gives (match occurrences ⟨a.toArray⟩ ⟨b.toArray⟩ (fromIndex (PySem.Str.mk a.toArray).length i) (min (fromIndex (PySem.Str.mk a.toArray).length j) (PySem.Str.mk a.toArray).length) 1 with | k :: _ => retInt k | [] => (do rule "str.find.not-found"; retInt (-1))) _
   rw [zaQ]
   cases occurrences ⟨a.toArray⟩ ⟨b.toArray⟩ (fromIndex a.length i) (min (fromIndex a.length j) a.length) 1 with
   | nil => exact .rule (.of_eq rfl)
   | cons k _ => exact .of_eq rfl
  ·exact hQ _ F _ ((Step.refl w).toks _) (.val (.int _ _))
theorem zhY : OpOK cx .replace (fun vs => call (.builtin "str.replace") vs) := by
 intro n A F s vs ds r ok bud w q he Q E hQ
 obtain ⟨a,b,c,rfl,he⟩ := zeS (show opReplace ds = some r from he)
 obtain ⟨hocc,rfl⟩ := zbx he
 ·skip
  cases q with | cons q1 q => cases q with | cons q2 q => cases q with | cons q3 q =>
  cases q
  obtain ⟨t,rfl,p,z⟩ := q1.str_inv
  obtain ⟨u,rfl,_,_⟩ := q2.str_inv
  obtain ⟨v,rfl,_,_⟩ := q3.str_inv
  have e : ((occurrences ⟨a.toArray⟩ ⟨b.toArray⟩ 0 (PySem.Str.mk a.toArray).length ((PySem.Str.mk a.toArray).length + 1)).isEmpty || ((PySem.Str.mk b.toArray).length == 0 && (PySem.Str.mk c.toArray).length == 0)) = true := by
   rw [zaQ,hocc]; rfl
  obtain ⟨mc,n1,n2⟩ := ok.nb
  refine call_givesAt PySem.F.slot_str_replace (typeIs_str _ _ _) PySem.F.entry_str_replace (PySem.F.args_str_replace_3 _ _ _) (gives_str_replace2 _ _ _ t u v fun h => by rw [e] at h; injection h) ⟨mc,n1.at' fun o g => w.base _ o g ok.limx,n2⟩ ?_
  rw [if_pos e]
  exact hQ _ F _ (Step.refl w) (.val (.str t p z))
end
section
variable {cx : XCx}
theorem strs_of {F : AP} {h : Heap} : ∀ {l : List D} {ls : List (List Nat)} {vs : List Value},toStrs l = some ls → RepL cx.T F h vs l →
  ∃ ps : List (PySem.Str × Tok),vs = strValues ps ∧ ps.map (·.1) = ls.map (fun x => PySem.Str.mk x.toArray) ∧ (∀ x ∈ ls,(∀ c ∈ x,c < 0x110000) ∧ x.length ≤ lim) := by
 intro l
 induction l with
 | nil => intro ls vs e q; cases q; (injection e with e; subst e); exact ⟨[],rfl,rfl,fun _ h => nomatch h⟩
 | cons d r ih =>
  intro ls vs e q
  cases d <;> try (injection e; done)
  rename_i x
  obtain ⟨ls',e',rfl⟩ := Option.map_eq_some_iff.mp (show (toStrs r).map _ = some ls from e)
  cases q with
  | cons a b =>
   obtain ⟨ps,rfl,h2,h3⟩ := ih e' b
   cases a with
   | str t p z => exact ⟨(⟨x.toArray⟩,t) :: ps,rfl,congrArg (_ :: ·) h2,List.forall_mem_cons.mpr ⟨⟨p,z⟩,h3⟩⟩
theorem zeF (s : List Nat) : ∀ (ls : List (List Nat)) (acc : List Nat),((ls.map fun x => PySem.Str.mk x.toArray).foldl (fun (acc : Array Nat) p => acc ++ (PySem.Str.mk s.toArray).cps ++ p.cps) acc.toArray) = (acc ++ (ls.map fun x => s ++ x).flatten).toArray
 | [],acc => by simp
 | x :: r,acc => by
  rw [List.map_cons,List.foldl_cons]
  have e : (acc.toArray ++ (PySem.Str.mk s.toArray).cps ++ (PySem.Str.mk x.toArray).cps) = (acc ++ s ++ x).toArray := by simp
  rw [e,zeF s r]
  simp
theorem zbU (s a : List Nat) : ∀ r : List (List Nat),joinL s (a :: r) = a ++ (r.map fun x => s ++ x).flatten
 | [] => by simp [joinL]
 | b :: r => by
  rw [joinL,zbU s b r]
  ·simp
  ·intro h; injection h
theorem zcN (s : List Nat) (ls : List (List Nat)) : glued ⟨s.toArray⟩ (ls.map fun x => PySem.Str.mk x.toArray) = ⟨(joinL s ls).toArray⟩ := by
 unfold glued
 cases ls with
 | nil => rfl
 | cons a r =>
  simp only [List.map_cons,List.drop_succ_cons,List.drop_zero,List.headD_cons]
  have := zeF s r a
  simp only [zbU]
  exact congrArg PySem.Str.mk this
theorem zfL {s : List Nat} {c : Nat} : ∀ {ls : List (List Nat)},c ∈ joinL s ls → c ∈ s ∨ ∃ x ∈ ls,c ∈ x
 | [],h => by simp [joinL] at h
 | a :: r,h => by
  rw [zbU,List.mem_append] at h
  rcases h with h | h
  ·exact .inr ⟨a,List.mem_cons_self,h⟩
  ·simp only [List.mem_flatten,List.mem_map] at h
   obtain ⟨l,⟨x,hx,rfl⟩,hc⟩ := h
   rcases List.mem_append.mp hc with h | h
   ·exact .inl h
   ·exact .inr ⟨x,List.mem_cons_of_mem _ hx,h⟩
theorem zfa (s : PySem.Str) : ∀ (xs : List PySem.Str) (k : Nat),xs.toArray.foldl (fun n x => n + x.length + s.length) k = k + (xs.map fun x => x.length + s.length).sum := by
 intro xs
 induction xs with
 | nil => intro k; simp
 | cons x r ih =>
  intro k
  have := ih (k + x.length + s.length)
  simp only [List.foldl_toArray,List.foldl_cons,List.map_cons,List.sum_cons] at this ⊢
  rw [this,Nat.add_assoc k,Nat.add_assoc k]
theorem zc6 (s : List Nat) (a : List Nat) (r : List (List Nat)) : (joinL s (a :: r)).length = a.length + (r.map fun x => s.length + x.length).sum := by
 rw [zbU,List.length_append,List.length_flatten,List.map_map]
 congr 2
 apply List.map_congr_left
 intro x _
 simp
theorem zjk {a s r : Nat} (hz : a + r ≤ 1000000) (z : s ≤ 1000000) : ¬ (a + s + r > 16777216) := by omega
theorem op_join : OpOK cx .join (fun vs => call (.builtin "str.join") vs) := by
 intro n A F s vs ds r ok bud w q he Q E hQ
 delta opF at he; dsimp only at he
 unfold opJoin at he
 split at he
 ·rename_i a l
  split at he
  ·rename_i ls e1
   split at he <;> (first | (injection he; done) | (injection he with he; subst he))
   rename_i hz
   obtain ⟨x,y,rfl,qa,qb⟩ := q.two
   obtain ⟨t,rfl,p,z⟩ := qa.str_inv
   obtain ⟨D,vs,k,rfl,nx,g,zl,ql⟩ := qb.list_inv w
   obtain ⟨ps,rfl,h2,h3⟩ := strs_of e1 ql
   refine SC.join (l := ps) (texts := ls.map fun x => PySem.Str.mk x.toArray) (zaN g) h2 ?_ fun t' k => ?_
   ·unfold JoinOk tooLong
    rw [zfa,Nat.zero_add,List.map_map]
    simp only [Bool.not_eq_true',decide_eq_false_iff_not]
    rw [sizeLine_eq]
    unfold lim at hz z
    cases ls with
    | nil => simp
    | cons b r =>
     rw [zc6] at hz
     simp only [List.map_cons,List.sum_cons,Function.comp,zaQ]
     have e : (List.map ((fun x => x.length + a.length) ∘ fun x => PySem.Str.mk x.toArray) r).sum = (r.map fun x => a.length + x.length).sum := by
      congr 1
      apply List.map_congr_left
      intro x _
      show (PySem.Str.mk x.toArray).length + a.length = _
      rw [zaQ,Nat.add_comm]
     rw [e]
     exact zjk hz z
   ·unfold Txt.join
    rw [zcN]
    refine hQ _ F _ ((Step.refl w).toks k) (.val (.str t' (fun c hc => ?_) hz))
    rcases zfL hc with hc | ⟨x,hx,hc⟩
    ·exact p c hc
    ·exact (h3 x hx).1 c hc
  ·injection he
 ·injection he
theorem zc2 {F : AP} {h : Heap} (a : List Nat) (p : ∀ c ∈ a,c < 0x110000) (z : a.length ≤ lim) : ∀ {l : List (PySem.Str × Tok)} {xs : List PySem.Str},l.map (·.1) = xs → (∀ x ∈ xs,(∀ c ∈ x.cps.toList,c ∈ a) ∧ x.cps.size ≤ a.length) →
  RepL cx.T F h (strValues l) (xs.map fun x => .str x.cps.toList)
 | [],_,rfl,_ => .nil
 | (x,t) :: l,_,rfl,hx => by
  have h1 := hx x List.mem_cons_self
  refine .cons (zgf p z t h1.1 h1.2) (zc2 a p z rfl fun y hy => hx y (List.mem_cons_of_mem _ hy))
theorem ziO (x y : PySem.Str) : (∀ z ∈ Txt.split x y,(∀ c ∈ z.cps.toList,c ∈ x.cps.toList) ∧ z.cps.size ≤ x.cps.size) := by
 intro z hz
 unfold Txt.split at hz
 have self : ∀ z ∈ [x],(∀ c ∈ z.cps.toList,c ∈ x.cps.toList) ∧ z.cps.size ≤ x.cps.size := fun z hz => by
  rw [List.mem_singleton.mp hz]; exact ⟨fun _ h => h,Nat.le_refl _⟩
 split at hz
 ·exact self z hz
 ·split at hz
  ·exact self z hz
  ·unfold partsBetween at hz
   obtain ⟨⟨i,j⟩,_,rfl⟩ := List.mem_map.mp hz
   exact zeu _ _ _
theorem zcT (x y : PySem.Str) : (Txt.split x y).length ≤ x.length + 2 := by
 unfold Txt.split
 split
 ·simp
 ·split
  ·simp
  ·rw [length_partsBetween]
   have := StrLaws.occ_length_le x y 0 x.length (x.length + 1)
   omega
theorem zkj : OpOK cx .split (fun vs => call (.builtin "str.split") vs) := by
 intro n A F s vs ds r ok bud w q he Q E hQ
 delta opF at he; dsimp only at he
 unfold opSplit at he
 split at he
 ·rename_i a b
  split at he <;> (first | (injection he; done) | (injection he with he; subst he))
  rename_i hz
  obtain ⟨x,y,rfl,qa,qb⟩ := q.two
  obtain ⟨t,rfl,p,z⟩ := qa.str_inv
  obtain ⟨u,rfl,_,_⟩ := qb.str_inv
  have hfin : ∀ (l : List (PySem.Str × Tok)) (k : Nat),l.map (·.1) = Txt.split ⟨a.toArray⟩ ⟨b.toArray⟩ → Q (.ref s.heap.objs.size) { s with heap := s.heap.push (lobj (strValues l).toArray 0),toks := k } := by
   intro l k hl
   have hx : ∀ x ∈ Txt.split ⟨a.toArray⟩ ⟨b.toArray⟩,(∀ c ∈ x.cps.toList,c ∈ a) ∧ x.cps.size ≤ a.length := fun x hx => by
    have h2 := ziO _ _ x hx
    rw [show (PySem.Str.mk a.toArray).cps.size = a.length from List.size_toArray ..] at h2
    exact h2
   have hr := zc2 (cx := cx) (F := F) (h := s.heap) a p z hl hx
   have hlen : (strValues l).length ≤ lim := by
    rw [hr.length,List.length_map]
    have := zcT ⟨a.toArray⟩ ⟨b.toArray⟩
    rw [zaQ] at this
    omega
   exact hQ _ F _ (Step.push ok w _ _) (.pushOwn w hlen hr)
  have hy : ((PySem.Str.mk b.toArray).length == 0) = false := by rw [zaQ,hz.1]; rfl
  have hsz : (PySem.Str.mk a.toArray).length ≤ sizeLine := by rw [zaQ]; exact zaC z
  cases h1 : (decide ((PySem.Str.mk a.toArray).length < (PySem.Str.mk b.toArray).length) || decide (strKind ⟨a.toArray⟩ < strKind ⟨b.toArray⟩))
  ·cases hf : (occurrences ⟨a.toArray⟩ ⟨b.toArray⟩ 0 (PySem.Str.mk a.toArray).length ((PySem.Str.mk a.toArray).length + 1)).isEmpty
   ·have hs : Txt.split ⟨a.toArray⟩ ⟨b.toArray⟩ = partsBetween ⟨a.toArray⟩ (occurrences ⟨a.toArray⟩ ⟨b.toArray⟩ 0 (PySem.Str.mk a.toArray).length ((PySem.Str.mk a.toArray).length + 1)) (PySem.Str.mk b.toArray).length := by
     unfold Txt.split; rw [h1,hf]; rfl
    have hsz2 : (partsBetween ⟨a.toArray⟩ (occurrences ⟨a.toArray⟩ ⟨b.toArray⟩ 0 (PySem.Str.mk a.toArray).length ((PySem.Str.mk a.toArray).length + 1)) (PySem.Str.mk b.toArray).length).length ≤ sizeLine := by
     rw [← hs]
     have := zcT ⟨a.toArray⟩ ⟨b.toArray⟩
     rw [zaQ] at this
     exact zaC (by omega)
    refine call_meets PySem.F.slot_str_split (typeIs_str _ _ _) PySem.F.entry_str_split (PySem.F.args_str_split_2 _ _) (meets_str_split_sep _ _ t u h1 hy hf hsz hsz2) ?_
    show wants Q E _ { s with toks := _,heap := s.heap.push { cls := .type "list",data := .seq (strsFrom s.toks (partsBetween _ _ _)).toArray } }
    rw [strsFrom_eq]
    exact hfin (numbered s.toks _) _ ((numbered_texts _ _).trans hs.symm)
   ·have hs : Txt.split ⟨a.toArray⟩ ⟨b.toArray⟩ = [⟨a.toArray⟩] := by unfold Txt.split; rw [h1,hf]; rfl
    exact call_meets PySem.F.slot_str_split (typeIs_str _ _ _) PySem.F.entry_str_split (PySem.F.args_str_split_2 _ _) (meets_str_split_not_found _ _ t u h1 hy hf) (hfin [(_,t)] s.toks hs.symm)
  ·have hs : Txt.split ⟨a.toArray⟩ ⟨b.toArray⟩ = [⟨a.toArray⟩] := by unfold Txt.split; rw [h1]; rfl
   exact call_meets PySem.F.slot_str_split (typeIs_str _ _ _) PySem.F.entry_str_split (PySem.F.args_str_split_2 _ _) (meets_str_split_cannot_occur _ _ t u h1) (hfin [(_,t)] s.toks hs.symm)
 ·injection he
theorem op_tyOf : OpOK cx .tyOf (fun vs => call (.type "type") vs) := by
 intro n A F s vs ds r ok bud w q he Q E hQ
 delta opF at he; dsimp only at he
 rcases ds with _ | ⟨d,_ | ⟨c,t⟩⟩
 ·injection he
 ·replace he : (tyD d).map (fun n => R.val (.ty n)) = some r := he
  obtain ⟨x,rfl,qa⟩ := q.one
  obtain ⟨T,e1,e2⟩ := Option.map_eq_some_iff.mp he
  subst e2
  have key : s.TypeIs x T ∧ (Value.type T == Value.type "builtin_function_or_method") = false := by
   cases d <;> (first | (injection e1; done) | (injection e1 with e1; subst e1))
   ·rw [qa.bool_inv]; exact ⟨rfl,by decide⟩
   ·obtain ⟨t,rfl⟩ := qa.int_inv; exact ⟨typeIs_int s _ _,by decide⟩
   ·obtain ⟨t,rfl,_,_⟩ := qa.str_inv; exact ⟨typeIs_str s _ _,by decide⟩
   ·obtain ⟨a,vs,n,rfl,nx,g,_,_⟩ := qa.list_inv w; exact ⟨⟨_,g,rfl⟩,by decide⟩
   ·obtain ⟨a,vs,n,rfl,f,g,_,_⟩ := qa.tup_inv; exact ⟨⟨_,g,rfl⟩,by decide⟩
  exact call_type_of key.1 key.2 (hQ _ F _ (Step.refl w) (.val (.ty _)))
 ·injection he
theorem RepL.tys {T : NAd} {F : AP} {h : Heap} : ∀ {ns : List String} {vs : List Value},RepL T F h vs (ns.map .ty) → vs = ns.map .type
 | [],_,.nil => rfl
 | a :: ns,_,.cons q r => by cases q; rw [RepL.tys (ns := ns) r]; rfl
theorem zgd : ∀ {l : List D} {ns : List String},tyL l = some ns → l = ns.map .ty
 | [],_,h => by (injection h with h; subst h); rfl
 | d :: r,ns,h => by
  cases d <;> try (injection h; done)
  obtain ⟨ns',e,rfl⟩ := Option.map_eq_some_iff.mp (show (tyL r).map _ = some ns from h)
  rw [zgd e]; rfl
theorem zg4 {d : D} {b : Bool} (h : strB d = some b) : (∃ l,d = .str l ∧ b = true) ∨ ∃ l,d = .list l ∧ b = false := by
 cases d <;> (first | (injection h; done) | (injection h with h; subst h))
 ·exact .inl ⟨_,rfl,rfl⟩
 ·exact .inr ⟨_,rfl,rfl⟩
inductive IsInstI : List D → R → Prop
 | s1 (l : List Nat) : IsInstI [.str l,.ty "str"] (.val (.bool true))
 | s2 (l : List Nat) : IsInstI [.str l,.ty "bytes"] (.val (.bool false))
 | s3 (l : List Nat) : IsInstI [.str l,.tup [.ty "list",.ty "tuple"]] (.val (.bool false))
 | s4 (l : List D) : IsInstI [.list l,.tup [.ty "list",.ty "tuple"]] (.val (.bool true))
theorem zh7 {ds : List D} {r : R} (he : opIsInst ds = some r) : IsInstI ds r := by
 rcases ds with _ | ⟨a,_ | ⟨b,t⟩⟩
 ·injection he
 ·injection he
 cases b <;> try (injection he; done)
 ·rename_i l
  rcases t with _ | ⟨z,t⟩ <;> try (injection he; done)
  by_cases q : tyL l = some ["list", "tuple"]
  ·replace he := (if_pos q).symm.trans he
   obtain ⟨b,e,rfl⟩ := Option.map_eq_some_iff.mp he
   obtain rfl := zgd q
   rcases zg4 e with ⟨l,rfl,rfl⟩ | ⟨l,rfl,rfl⟩
   ·exact .s3 _
   ·exact .s4 _
  ·injection (if_neg q).symm.trans he
 ·rename_i n
  rcases t with _ | ⟨z,t⟩ <;> try (injection he; done)
  by_cases q : strB a = some true
  ·replace he := (if_pos q).symm.trans he
   rcases zg4 q with ⟨l,rfl,_⟩ | ⟨l,_,e⟩
   ·by_cases q : n = "str"
    ·(injection (if_pos q).symm.trans he with q; subst q); subst q; exact .s1 _
    ·obtain ⟨rfl,rfl⟩ := zbx ((if_neg q).symm.trans he)
     exact .s2 _
   ·injection e
  ·injection (if_neg q).symm.trans he
theorem zba : OpOK cx .isInst (fun vs => call (.builtin "isinstance") vs) := by
 intro n A F s vs ds r ok bud w q he Q E hQ
 cases zh7 (show opIsInst ds = some r from he) with
 | s1 l =>
  obtain ⟨x,y,rfl,qa,qb⟩ := q.two
  obtain ⟨t,rfl,_,_⟩ := qa.str_inv
  rw [qb.ty_inv]
  exact IsiPair.str_str (hQ _ F _ (Step.refl w) (.val (.bool _)))
 | s2 l =>
  obtain ⟨x,y,rfl,qa,qb⟩ := q.two
  obtain ⟨t,rfl,_,_⟩ := qa.str_inv
  rw [qb.ty_inv]
  exact IsiPair.str_bytes (hQ _ F _ ((Step.refl w).toks _) (.val (.bool _)))
 | s3 l =>
  obtain ⟨x,y,rfl,qa,qb⟩ := q.two
  obtain ⟨t,rfl,_,_⟩ := qa.str_inv
  obtain ⟨a,vs,k,rfl,f,g,z,q3⟩ := qb.tup_inv
  obtain rfl := q3.tys (ns := ["list", "tuple"])
  exact zf3 g fun tk => hQ _ F _ ((Step.refl w).toks _) (.val (.bool _))
 | s4 l =>
  obtain ⟨x,y,rfl,qa,qb⟩ := q.two
  obtain ⟨l,ws,j,rfl,nx,gl,_,_⟩ := qa.list_inv w
  obtain ⟨a,vs,k,rfl,f,g,z,q3⟩ := qb.tup_inv
  obtain rfl := q3.tys (ns := ["list", "tuple"])
  exact zfl gl g fun tk => hQ _ F _ ((Step.refl w).toks _) (.val (.bool _))
theorem zjo {ds : List D} {r : R} (he : opIsSub ds = some r) : ds = [.ty "str",.tup [.ty "str",.ty "bytes"]] ∧ r = .val (.bool true) := by
 rcases ds with _ | ⟨a,_ | ⟨b,t⟩⟩
 ·injection he
 ·cases a <;> injection he
 cases a <;> try (injection he; done)
 cases b <;> try (injection he; done)
 rcases t with _ | ⟨z,t⟩ <;> try (injection he; done)
 obtain ⟨⟨rfl,q⟩,rfl⟩ := zbx he
 rw [zgd q]
 exact ⟨rfl,rfl⟩
theorem zkn : OpOK cx .isSub (fun vs => call (.builtin "issubclass") vs) := by
 intro n A F s vs ds r ok bud w q he Q E hQ
 obtain ⟨rfl,rfl⟩ := zjo (show opIsSub ds = some r from he)
 obtain ⟨x,y,rfl,qa,qb⟩ := q.two
 rw [qa.ty_inv]
 obtain ⟨a,vs,k,rfl,f,g,z,q3⟩ := qb.tup_inv
 obtain rfl := q3.tys (ns := ["str", "bytes"])
 exact zde g fun tk => hQ _ F _ ((Step.refl w).toks _) (.val (.bool _))
end
noncomputable def Mut (env : Env) (ρ : List Slot) (ad : NAd) (a : Addr) : Prop :=
 a = env.locals ∨ (∃ n,env.cells.lookup n = some a) ∨ ∃ i l,slotAt ρ i = .own l ∧ a = ad i
set_option genInjectivity false in
structure ScOK (ε : Sc) : Prop where
 inj : ∀ x y i,ε.vars.lookup x = some i → ε.vars.lookup y = some i → x = y
set_option genInjectivity false in
structure Frm (cx : XCx) (ε : Sc) (env : Env) (F : AP) (s : Shared) (ρ : List Slot) (ad : NAd) (m cm : SV) : Prop where
 en : EnvOK cx ε env F s.heap ρ ad m cm
 lf : ¬ F env.locals
 cf : ∀ n c,env.cells.lookup n = some c → ¬ F c ∧ c ≠ env.locals
 cinj : ∀ n n' c,env.cells.lookup n = some c → env.cells.lookup n' = some c → n = n'
 oinj : ∀ i j l l',slotAt ρ i = .own l → slotAt ρ j = .own l' → ad i = ad j → i = j
 own : ∀ i l,slotAt ρ i = .own l → ¬ F (ad i) ∧ ¬ cx.X (ad i) ∧ (∃ o,s.heap.get? (ad i) = some o) ∧ ad i ≠ env.locals ∧ ∀ n,env.cells.lookup n ≠ some (ad i)
set_option genInjectivity false in
structure StepS (cx : XCx) (env : Env) (F : AP) (s : Shared) (ρ : List Slot) (ad : NAd) (F' : AP) (s' : Shared) (ρ' : List Slot) (ad' : NAd) : Prop where
 sub : ∀ a,F a → F' a
 new : ∀ a,F' a → F a ∨ s.heap.get? a = none ∨ Mut env ρ ad a
 keep : ∀ a o,s.heap.get? a = some o → ¬ cx.X a → ¬ Mut env ρ ad a → s'.heap.get? a = some o
 os : s'.os = s.os
 wd : Wd cx F' s'
 mu : ∀ a,Mut env ρ' ad' a → Mut env ρ ad a ∨ s.heap.get? a = none
theorem zaR (ρ : List Slot) (i : Nat) (sl : Slot) (j : Nat) : slotAt (ρ.set i sl) j = if j = i then (if i < ρ.length then sl else .unset) else slotAt ρ j := by
 unfold slotAt
 simp only [List.getD_eq_getElem?_getD,List.getElem?_set]
 by_cases h : i = j
 ·subst h
  simp only [if_true]
  split <;> rfl
 ·simp only [if_neg h,if_neg (Ne.symm h)]
theorem zbT {ρ : List Slot} {i : Nat} {l : List D} (h : ownAt ρ i = some l) : slotAt ρ i = .own l ∧ i < ρ.length ∧ dSlot i = false := by
 unfold ownAt at h
 split at h
 ·rename_i l' e
  by_cases hd : dSlot i = true
  ·rw [if_pos hd] at h; injection h
  rw [if_neg hd] at h
  cases h
  refine ⟨by unfold slotAt; simp [List.getD,e], ?_,by simpa using hd⟩
  rcases Nat.lt_or_ge i ρ.length with q | q
  ·exact q
  ·rw [List.getElem?_eq_none q] at e; injection e
 ·injection h
section
variable {cx : XCx} {ε : Sc} {env : Env} {F F' F'' : AP} {s s' s'' : Shared} {ρ ρ' ρ'' : List Slot} {ad ad' ad'' : NAd} {m cm : SV}
theorem Frm.isSome (f : Frm cx ε env F s ρ ad m cm) {a : Addr} (h : Mut env ρ ad a) : ∃ o,s.heap.get? a = some o := by
 rcases h with rfl | ⟨n,hn⟩ | ⟨i,l,hi,rfl⟩
 ·obtain ⟨o,_,_,e,_⟩ := f.en.ns; exact ⟨o,e⟩
 ·obtain ⟨o,e,_⟩ := f.en.cells n a hn; exact ⟨o,e⟩
 ·exact (f.own i l hi).2.2.1
theorem Frm.notF (f : Frm cx ε env F s ρ ad m cm) {a : Addr} (h : Mut env ρ ad a) : ¬ F a ∧ ¬ cx.X a := by
 rcases h with rfl | ⟨n,hn⟩ | ⟨i,l,hi,rfl⟩
 ·exact ⟨f.lf,f.en.lx⟩
 ·exact ⟨(f.cf n a hn).1,f.en.cxx n a hn⟩
 ·exact ⟨(f.own i l hi).1,(f.own i l hi).2.1⟩
theorem StepS.refl (w : Wd cx F s) : StepS cx env F s ρ ad F s ρ ad := ⟨fun _ h => h,fun _ h => .inl h,fun _ _ e _ _ => e,rfl,w,fun _ h => .inl h⟩
theorem StepS.trans (x : StepS cx env F s ρ ad F' s' ρ' ad') (y : StepS cx env F' s' ρ' ad' F'' s'' ρ'' ad'') : StepS cx env F s ρ ad F'' s'' ρ'' ad'' := by
 have back : ∀ a, ¬ cx.X a → s'.heap.get? a = none → Mut env ρ ad a ∨ s.heap.get? a = none := fun a nx h => by
  by_cases hm : Mut env ρ ad a
  ·exact .inl hm
  ·right
   cases e : s.heap.get? a with
   | none => rfl
   | some o => rw [x.keep a o e nx hm] at h; injection h
 refine ⟨fun a h => y.sub a (x.sub a h),fun a h => ?_,fun a o e nx nm => ?_,y.os.trans x.os,y.wd,fun a h => ?_⟩
 ·rcases y.new a h with q | q | q
  ·exact x.new a q
  ·rcases back a (y.wd.nx a h) q with q | q
   ·exact .inr (.inr q)
   ·exact .inr (.inl q)
  ·rcases x.mu a q with q | q
   ·exact .inr (.inr q)
   ·exact .inr (.inl q)
 ·refine y.keep a o (x.keep a o e nx nm) nx fun hm => ?_
  rcases x.mu a hm with q | q
  ·exact nm q
  ·rw [e] at q; injection q
 ·rcases y.mu a h with q | q
  ·exact x.mu a q
  ·by_cases nx : cx.X a
   ·obtain ⟨o,e⟩ := x.wd.xex a nx
    rw [e] at q; injection q
   ·exact back a nx q
theorem StepS.ofStep (x : Step cx F s F' s') : StepS cx env F s ρ ad F' s' ρ ad := ⟨x.sub,fun a h => (x.new a h).imp id .inl,fun a o e nx _ => x.keep a o e nx,x.os,x.wd,fun _ h => .inl h⟩
theorem Frm.step (f : Frm cx ε env F s ρ ad m cm) (w : Wd cx F s) (x : Step cx F s F' s') : Frm cx ε env F' s' ρ ad m cm := by
 have nf : ∀ {a},Mut env ρ ad a → ¬ F' a := fun h => by
  obtain ⟨o,e⟩ := f.isSome h
  exact x.notF (f.notF h).1 e
 refine ⟨f.en.step x w,nf (.inl rfl),fun n c hc => ⟨nf (.inr (.inl ⟨n,hc⟩)),(f.cf n c hc).2⟩,f.cinj,f.oinj,fun i l hi => ?_⟩
 obtain ⟨_,nx,⟨o,e⟩,h4,h5⟩ := f.own i l hi
 exact ⟨nf (.inr (.inr ⟨i,l,hi,rfl⟩)),nx,⟨o,x.keep _ _ e nx⟩,h4,h5⟩
end
set_option genInjectivity false in
structure TopAt (n : Nat) (A : Around) (env : Env) : Prop where
 fr : A.frames = some [env]
 loc : env.frame = some env.locals
 n : ∃ k,n = k + 1
set_option genInjectivity false in
structure HereS (cx : XCx) (ε : Sc) (n : Nat) (cf : CfT) (A : Around) (env : Env) (F : AP) (s : Shared) (ρ : List Slot) (ad : NAd) (m cm : SV) : Prop where
 ok : CxOk cx
 sc : ScOK ε
 calls : CallOK cx n cf
 bud : BudE n A
 wd : Wd cx F s
 frm : Frm cx ε env F s ρ ad m cm
 top : ε.top = true → TopAt n A env
theorem HereS.here {cx ε n cf A env F s ρ ad m cm} (H : HereS cx ε n cf A env F s ρ ad m cm) : Here cx ε n cf A env F s ρ ad m cm := ⟨H.ok,H.calls,H.bud,H.wd,H.frm.en⟩
theorem HereS.step {cx ε n cf A env F s ρ ad m cm} {F' : AP} {s' : Shared} (H : HereS cx ε n cf A env F s ρ ad m cm) (x : Step cx F s F' s') : HereS cx ε n cf A env F' s' ρ ad m cm := ⟨H.ok,H.sc,H.calls,H.bud,x.wd,H.frm.step H.wd x,H.top⟩
theorem HereS.stepS {cx ε n cf A env F s ρ ad m cm} {F' : AP} {s' : Shared} {ρ' ad' m' cm'} (H : HereS cx ε n cf A env F s ρ ad m cm) (x : StepS cx env F s ρ ad F' s' ρ' ad') (f : Frm cx ε env F' s' ρ' ad' m' cm') : HereS cx ε n cf A env F' s' ρ' ad' m' cm' := ⟨H.ok,H.sc,H.calls,H.bud,x.wd,f,H.top⟩
inductive OutRep (cx : XCx) (F : AP) (h : Heap) : Flow → Out → Prop
 | next : OutRep cx F h .next .next
 | brk : OutRep cx F h .brk .brk
 | cont : OutRep cx F h .cont .cont
 | ret {v : Value} {d : D} : Rep cx.T F h v d → OutRep cx F h (.ret v) (.ret d)
noncomputable def PostS (cx : XCx) (ε : Sc) (env : Env) (F : AP) (s : Shared) (ρ : List Slot) (ad : NAd) (ρ' : List Slot) (o : Out) (Q : Flow → Shared → Prop) : Prop :=
 ∀ f F' s' ad' m' cm',StepS cx env F s ρ ad F' s' ρ' ad' → Frm cx ε env F' s' ρ' ad' m' cm' → OutRep cx F' s'.heap f o → Q f s'
theorem PostS.after {cx ε env F s ρ ad ρ' o Q} {F₁ : AP} {s₁ : Shared} {ρ₁ ad₁} (h : PostS cx ε env F s ρ ad ρ' o Q) (x : StepS cx env F s ρ ad F₁ s₁ ρ₁ ad₁) : PostS cx ε env F₁ s₁ ρ₁ ad₁ ρ' o Q :=
 fun f F' s' ad' m' cm' y fr q => h f F' s' ad' m' cm' (x.trans y) fr q
noncomputable def SoundS (cx : XCx) (ε : Sc) (st : Stmt) (sx : S) : Prop :=
 ∀ n cf A env F s ρ ad m cm,HereS cx ε n cf A env F s ρ ad m cm → ∀ ρ' o,ex cf sx ρ = some (ρ',o) → ∀ Q E,PostS cx ε env F s ρ ad ρ' o Q → wpAny (model cx.prog cx.w) A (exec st env) Q E s
noncomputable def SoundSs (cx : XCx) (ε : Sc) (sts : List Stmt) (sx : S) : Prop :=
 ∀ n cf A env F s ρ ad m cm,HereS cx ε n cf A env F s ρ ad m cm → ∀ ρ' o,ex cf sx ρ = some (ρ',o) → ∀ Q E,PostS cx ε env F s ρ ad ρ' o Q → wpAny (model cx.prog cx.w) A (execs sts env) Q E s
theorem zlj {cf : CfT} {a b : S} {ρ : List Slot} : ex cf (.seq a b) ρ = (match ex cf a ρ with
  | some (ρ',.next) => ex cf b ρ'
  | some (ρ',o) => some (ρ',o)
  | none => none) := by 
 exact zjz cf
theorem ex_fz {cf : CfT} {i : Nat} {ρ : List Slot} : ex cf (.fz i) ρ = (match ownAt ρ i with
  | some l => some (ρ.set i (.val (.list l)),.next)
  | none => some (ρ,.next)) := by 
 exact exq_fz cf
section
variable {cx : XCx} {ε : Sc}
theorem zac : SoundSs cx ε [] .skip := by
 intro n cf A env F s ρ ad m cm H ρ' o h Q E hQ
 replace h := (zhs cf).symm.trans h; (injection h with h; injection h with h z; subst h z)
 exact wpAny_execs_nil (hQ .next F s ad m cm (StepS.refl H.wd) H.frm .next)
theorem zaa {st : Stmt} {sts : List Stmt} {a b : S} (h1 : SoundS cx ε st a) (h2 : SoundSs cx ε sts b) : SoundSs cx ε (st :: sts) (.seq a b) := by
 intro n cf A env F s ρ ad m cm H ρ' o h Q E hQ
 refine wpAny_execs_cons ?_
 replace h := (zjz cf).symm.trans h
 split at h
 ·rename_i ρ₁ e1
  refine h1 n cf A env F s ρ ad m cm H ρ₁ .next e1 _ _ fun f F' s' ad' m' cm' x fr q => ?_
  cases q
  exact h2 n cf A env F' s' ρ₁ ad' m' cm' (H.stepS x fr) ρ' o h _ _ (hQ.after x)
 ·rename_i ρ₁ o₁ hne e1
  cases h
  refine h1 n cf A env F s ρ ad m cm H _ _ e1 _ _ fun f F' s' ad' m' cm' x fr q => ?_
  cases q with
  | next => exact (hne rfl).elim
  | brk => exact hQ _ F' s' ad' m' cm' x fr .brk
  | cont => exact hQ _ F' s' ad' m' cm' x fr .cont
  | ret r => exact hQ _ F' s' ad' m' cm' x fr (.ret r)
 ·injection h
theorem frozenG {n cf A env F s ρ ad m cm} (H : HereS cx ε n cf A env F s ρ ad m cm) {i : Nat} {l : List D} (hs : slotAt ρ i = .own l) (hlt : i < ρ.length) {sl : Slot} (no : ∀ l,sl ≠ .own l)
  (key : ∀ ov,SlotRep cx F s.heap ad i ov (.own l) → SlotRep cx (fun a => F a ∨ a = ad i) s.heap ad i ov sl) :
  ∃ F',StepS cx env F s ρ ad F' s (ρ.set i sl) ad ∧ Frm cx ε env F' s (ρ.set i sl) ad m cm := by
 have f := H.frm
 obtain ⟨nf,nx,⟨o,g⟩,h4,h5⟩ := f.own i l hs
 have hset : ∀ j,slotAt (ρ.set i sl) j = if j = i then sl else slotAt ρ j := fun j => by rw [zaR,if_pos hlt]
 have hsub : ∀ a,F a → (F a ∨ a = ad i) := fun _ h => .inl h
 have wd' : Wd cx (fun a => F a ∨ a = ad i) s := ⟨H.wd.base,H.ok.xi _ _ _ _ H.wd.xi hsub (fun _ _ _ e => e),H.wd.gens,fun a o h nx => .inl (H.wd.f0 a o h nx),fun a h => h.elim (H.wd.lt a) fun e => ⟨_,e ▸ g⟩,fun a h => h.elim (H.wd.nx a) fun e => e ▸ nx,H.wd.xex⟩
 have slots : ∀ j ov,SlotRep cx F s.heap ad j ov (slotAt ρ j) → SlotRep cx (fun a => F a ∨ a = ad i) s.heap ad j ov (slotAt (ρ.set i sl) j) := by
  intro j ov q'
  rw [hset]
  by_cases hj : j = i
  ·subst hj
   rw [if_pos rfl]
   rw [hs] at q'
   exact key ov q'
  ·rw [if_neg hj]
   generalize hsl : slotAt ρ j = sl at q'
   cases q' with
   | unset => exact .unset
   | val q => exact .val (q.mono hsub fun _ _ _ e => e)
   | own nf' nx' g z q hd' => exact .own (fun h => h.elim nf' fun e => hj (f.oinj j i _ _ hsl hs e)) nx' g z (q.mono hsub fun _ _ _ e => e) hd'
   | dic nf' nx' sm g q z hd' => exact .dic (fun h => h.elim nf' fun e => hj (f.oinj j i _ _ hsl hs e)) nx' sm g (q.mono hsub fun _ _ _ e => e) z hd'
   | fdic a b c q z => exact .fdic (.inl a) b c (q.mono hsub fun _ _ _ e => e) z
   | app a b c => exact .app (.inl a) b c
 have back : ∀ j l',slotAt (ρ.set i sl) j = .own l' → slotAt ρ j = .own l' ∧ j ≠ i := fun j l' e => by
  rw [hset] at e
  by_cases hj : j = i
  ·rw [if_pos hj] at e; exact absurd e (no l')
  ·rw [if_neg hj] at e; exact ⟨e,hj⟩
 refine ⟨fun a => F a ∨ a = ad i,⟨hsub,fun a h => h.imp id fun e => .inr (.inr (.inr ⟨i,l,hs,e⟩)),fun _ _ e _ _ => e,rfl,wd',fun a h => ?_⟩, ?_⟩
 ·rcases h with h | h | ⟨j,l',hj,rfl⟩
  ·exact .inl (.inl h)
  ·exact .inl (.inr (.inl h))
  ·exact .inl (.inr (.inr ⟨j,l',(back j l' hj).1,rfl⟩))
 ·refine ⟨⟨f.en.kind,f.en.names,f.en.glob,f.en.blt,f.en.code,f.en.lx,f.en.cxx,f.en.ns,f.en.cells,fun y j hy => (f.en.vars y j hy).imp (fun ⟨k,q⟩ => ⟨k,slots j _ q⟩) fun ⟨k,c,q⟩ => ⟨k,c,slots j _ q⟩⟩,
   fun h => h.elim f.lf fun e => h4 e.symm,fun n c hc => ⟨fun h => h.elim (f.cf n c hc).1 fun e => h5 n (e ▸ hc),(f.cf n c hc).2⟩,f.cinj,fun j k l1 l2 h1 h2 e => f.oinj j k _ _ (back j l1 h1).1 (back k l2 h2).1 e,fun j l1 h1 => ?_⟩
  obtain ⟨h1,hj⟩ := back j l1 h1
  obtain ⟨a1,a2,a3,a4,a5⟩ := f.own j l1 h1
  exact ⟨fun h => h.elim a1 fun e => hj (f.oinj j i _ _ h1 hs e),a2,a3,a4,a5⟩
theorem frozen {n cf A env F s ρ ad m cm} (H : HereS cx ε n cf A env F s ρ ad m cm) {i : Nat} {l : List D} (h : ownAt ρ i = some l) :
  ∃ F',StepS cx env F s ρ ad F' s (ρ.set i (.val (.list l))) ad ∧ Frm cx ε env F' s (ρ.set i (.val (.list l))) ad m cm := by
 obtain ⟨hs,hlt,hd⟩ := zbT h
 refine frozenG H hs hlt (fun _ e => nomatch e) fun ov q => ?_
 cases q with
 | dic _ _ _ _ _ _ hd' => rw [hd] at hd'; injection hd'
 | own _ _ g z q => exact .val (.list (.inr rfl) g z (q.mono (fun _ h => .inl h) fun _ _ _ e => e))
theorem zcn {st : Stmt} {i : Nat} {b : S} (hv : ∃ x,ε.vars.lookup x = some i) (h : SoundS cx ε st b) : SoundS cx ε st (.seq (.fz i) b) := by
 intro n cf A env F s ρ ad m cm H ρ' o he Q E hQ
 rw [zlj,ex_fz] at he
 cases hown : ownAt ρ i with
 | none =>
  rw [hown] at he
  exact h n cf A env F s ρ ad m cm H ρ' o he Q E hQ
 | some l =>
  rw [hown] at he
  obtain ⟨F',x,f⟩ := frozen H hown
  exact h n cf A env F' s _ ad m cm (H.stepS x f) ρ' o he Q E (hQ.after x)
end
section
variable {cx : XCx} {ε : Sc} {n : Nat} {cf : CfT} {A : Around} {env : Env} {F F₀ : AP} {s s₀ : Shared} {ρ : List Slot} {ad ad' : NAd} {m cm m' cm' : SV}
theorem zgC (H : HereS cx ε n cf A env F s ρ ad m cm) {b : Addr} (hb : Mut env ρ ad b) {h' : Heap} (sb : Heap.SameBut b s.heap h') (k : Nat) :
  Wd cx F { s with heap := h',toks := k } ∧ (∀ a o,F a → s.heap.get? a = some o → h'.get? a = some o) := by
 obtain ⟨nf,nx⟩ := H.frm.notF hb
 have hk : ∀ a o,a ≠ b → s.heap.get? a = some o → h'.get? a = some o := fun a o h e => (sb.2 a h).trans e
 have fne : ∀ a,F a → a ≠ b := fun a h e => nf (e ▸ h)
 refine ⟨⟨fun a o e x => hk a o (fne a (H.wd.f0 a o e x)) (H.wd.base a o e x),H.ok.xi _ _ _ _ H.wd.xi (fun _ h => h) (fun a o h e => hk a o (h.elim (fne a) fun h e => nx (e ▸ h)) e),H.wd.gens,H.wd.f0,fun a f => let ⟨o,e⟩ := H.wd.lt a f; ⟨o,hk a o (fne a f) e⟩,H.wd.nx,
  fun a f => let ⟨o,e⟩ := H.wd.xex a f; ⟨o,hk a o (fun e => nx (e ▸ f)) e⟩⟩,fun a o f e => hk a o (fne a f) e⟩
theorem zdF (H₀ : HereS cx ε n cf A env F₀ s₀ ρ ad m cm) (x : Step cx F₀ s₀ F s) {b : Addr} (hb : Mut env ρ ad b) {h' : Heap} (sb : Heap.SameBut b s.heap h') (k : Nat) {i : Nat} {sl : Slot}
  (hmu : ∀ l,sl = .own l → Mut env ρ ad (ad' i) ∨ s₀.heap.get? (ad' i) = none) (had : ∀ j,j ≠ i → ad' j = ad j) : StepS cx env F₀ s₀ ρ ad F { s with heap := h',toks := k } (ρ.set i sl) ad' := by
 refine ⟨x.sub,fun a h => (x.new a h).imp id .inl,fun a o e nx nm => ?_,x.os,(zgC (H₀.step x) hb sb k).1,fun a h => ?_⟩
 ·exact (sb.2 a fun e => nm (e ▸ hb)).trans (x.keep a o e nx)
 ·rcases h with h | h | ⟨j,l,hj,rfl⟩
  ·exact .inl (.inl h)
  ·exact .inl (.inr (.inl h))
  ·rw [zaR] at hj
   by_cases e : j = i
   ·subst e
    rw [if_pos rfl] at hj
    split at hj
    ·exact hmu l hj
    ·injection hj
   ·rw [if_neg e] at hj
    rw [had j e]
    exact .inl (.inr (.inr ⟨j,l,hj,rfl⟩))
set_option genInjectivity false in
structure NewOwn (cx : XCx) (env : Env) (F : AP) (h' : Heap) (ρ : List Slot) (ad ad' : NAd) (i : Nat) : Prop where
 nf : ¬ F (ad' i)
 nx : ¬ cx.X (ad' i)
 is : ∃ o,h'.get? (ad' i) = some o
 nl : ad' i ≠ env.locals
 nc : ∀ n,env.cells.lookup n ≠ some (ad' i)
 oth : ∀ j l,j ≠ i → slotAt ρ j = .own l → ad j ≠ ad' i
theorem Frm.put (H : HereS cx ε n cf A env F s ρ ad m cm) {b : Addr} (hb : Mut env ρ ad b) {h' : Heap} (sb : Heap.SameBut b s.heap h') (k : Nat) {i : Nat} {sl : Slot}
  (hns : h'.Ns env.locals m') (hcells : ∀ n c,env.cells.lookup n = some c → h'.IsCell c (cm' n))
  (hvars : ∀ x j,ε.vars.lookup x = some j → j ≠ i → m' x = m x ∧ cm' x = cm x)
  (hnew : ∀ x,ε.vars.lookup x = some i → (ε.kinds.lookup x = some .local → SlotRep cx F h' ad' i (m' x) sl) ∧ (ε.kinds.lookup x ≠ some .local → SlotRep cx F h' ad' i (cm' x) sl))
  (had : ∀ j,j ≠ i → ad' j = ad j) (happ : ad' i = ad i ∨ ∀ j,slotAt ρ j ≠ .app i)
  (hbo : ∀ j l,slotAt ρ j = .own l → j ≠ i → ad j ≠ b) (hown : ∀ l,sl = .own l → NewOwn cx env F h' ρ ad ad' i) :
  Frm cx ε env F { s with heap := h',toks := k } (ρ.set i sl) ad' m' cm' := by
 have f := H.frm
 obtain ⟨w',keep⟩ := zgC H hb sb k
 have keepB : ∀ a o,a ≠ b → s.heap.get? a = some o → h'.get? a = some o := fun a o h e => (sb.2 a h).trans e
 have old : ∀ j ov,j ≠ i → SlotRep cx F s.heap ad j ov (slotAt ρ j) → SlotRep cx F h' ad' j ov (slotAt ρ j) := by
  intro j ov hj q
  have hbo := fun l e => hbo j l e hj
  have happ := happ.imp id fun h => h j
  generalize slotAt ρ j = x at q hbo happ
  cases q with
  | unset => exact .unset
  | val q => exact .val (q.mono (fun _ h => h) keep)
  | own nf nx g z q hd =>
   rw [← had j hj] at nf nx g ⊢
   exact .own nf nx (keepB _ _ (by rw [had j hj]; exact hbo _ rfl) g) z (q.mono (fun _ h => h) keep) hd
  | dic nf nx sm g q z hd =>
   rw [← had j hj] at nf nx sm g ⊢
   obtain ⟨o,es,ep,ho,r⟩ := g
   exact .dic nf nx sm ⟨o,es,ep,keepB _ _ (by rw [had j hj]; exact hbo _ rfl) ho,r⟩ (q.mono (fun _ h => h) keep) z hd
  | fdic fb sm g q z =>
   obtain ⟨o,es,ep,ho,r⟩ := g
   exact .fdic fb sm ⟨o,es,ep,keep _ _ fb ho,r⟩ (q.mono (fun _ h => h) keep) z
  | @app b' o k fb g e =>
   refine .app fb (keep _ _ fb g) ?_
   by_cases hk : k = i
   ·subst hk
    rcases happ with h | h
    ·rw [h]; exact e
    ·exact absurd rfl h
   ·rw [had k hk]; exact e
 have slots : ∀ x j,ε.vars.lookup x = some j →
  (ε.kinds.lookup x = some .local ∧ SlotRep cx F h' ad' j (m' x) (slotAt (ρ.set i sl) j)) ∨
  ((ε.kinds.lookup x = some .cell ∨ ε.kinds.lookup x = some .free) ∧ (∃ c,env.cells.lookup x = some c) ∧ SlotRep cx F h' ad' j (cm' x) (slotAt (ρ.set i sl) j)) := by
  intro x j hx
  rw [zaR]
  by_cases e : j = i
  ·subst e
   rw [if_pos rfl]
   have nl : ∀ {k : NameKind},ε.kinds.lookup x = some k → k ≠ .local → ε.kinds.lookup x ≠ some .local := fun h hk e => hk (by rw [h] at e; exact Option.some.inj e)
   rcases f.en.vars x j hx with ⟨k,q⟩ | ⟨k,c,q⟩
   ·left
    refine ⟨k, ?_⟩
    split
    ·exact (hnew x hx).1 k
    ·exact .unset
   ·right
    refine ⟨k,c, ?_⟩
    split
    ·refine (hnew x hx).2 fun e => ?_
     rw [e] at k; rcases k with k | k <;> (injection k with k; injection k)
    ·exact .unset
  ·rw [if_neg e]
   obtain ⟨e1,e2⟩ := hvars x j hx e
   rw [e1,e2]
   exact (f.en.vars x j hx).imp (fun ⟨k,q⟩ => ⟨k,old j _ e q⟩) fun ⟨k,c,q⟩ => ⟨k,c,old j _ e q⟩
 refine ⟨⟨f.en.kind,f.en.names,f.en.glob,f.en.blt,f.en.code,f.en.lx,f.en.cxx,hns,hcells,slots⟩,f.lf,f.cf,f.cinj,fun p q l1 l2 h1 h2 e => ?_,fun j l hj => ?_⟩
 ·rw [zaR] at h1 h2
  by_cases hp : p = i
  ·by_cases hq : q = i
   ·rw [hp,hq]
   ·subst hp
    rw [if_pos rfl] at h1
    rw [if_neg hq] at h2
    split at h1
    ·have := (hown l1 h1).oth q l2 hq h2
     rw [had q hq] at e
     exact absurd e.symm this
    ·injection h1
  ·by_cases hq : q = i
   ·subst hq
    rw [if_neg hp] at h1
    rw [if_pos rfl] at h2
    split at h2
    ·have := (hown l2 h2).oth p l1 hp h1
     rw [had p hp] at e
     exact absurd e this
    ·injection h2
   ·rw [if_neg hp] at h1
    rw [if_neg hq] at h2
    rw [had p hp,had q hq] at e
    exact f.oinj p q l1 l2 h1 h2 e
 ·rw [zaR] at hj
  by_cases e : j = i
  ·subst e
   rw [if_pos rfl] at hj
   split at hj
   ·have q := hown l hj
    exact ⟨q.nf,q.nx,q.is,q.nl,q.nc⟩
   ·injection hj
  ·rw [if_neg e] at hj
   rw [had j e]
   obtain ⟨a1,a2,⟨o,g⟩,a4,a5⟩ := f.own j l hj
   exact ⟨a1,a2,⟨o,keepB _ _ (hbo j l hj e) g⟩,a4,a5⟩
theorem zbQ {A' : Around} (H₀ : HereS cx ε n cf A env F₀ s₀ ρ ad m cm) (st : Step cx F₀ s₀ F s) {x : Str} {i : Nat} (hx : ε.vars.lookup x = some i) (hfree : ε.kinds.lookup x ≠ some .free) {v : Value} {sl : Slot}
  (had : ∀ j,j ≠ i → ad' j = ad j) (happ : ad' i = ad i ∨ ∀ j,slotAt ρ j ≠ .app i)
  (hv : ∀ h',(∀ a o,F a ∨ ¬ Mut env ρ ad a → s.heap.get? a = some o → h'.get? a = some o) → SlotRep cx F h' ad' i (some v) sl)
  (hmu : ∀ l,sl = .own l → s₀.heap.get? (ad' i) = none ∧ ¬ F (ad' i) ∧ ¬ cx.X (ad' i) ∧ ∃ o,s.heap.get? (ad' i) = some o)
  {Q : Unit → Shared → Prop} {E : VP}
  (hQ : ∀ s' m' cm',(∀ a o, ¬ Mut env ρ ad a → s.heap.get? a = some o → s'.heap.get? a = some o) → StepS cx env F₀ s₀ ρ ad F s' (ρ.set i sl) ad' → Frm cx ε env F s' (ρ.set i sl) ad' m' cm' → Q () s') :
  wpAny (model cx.prog cx.w) A' (storeName env x v) Q E s := by
 have H := H₀.step st
 have f := H.frm
 have notMut : ∀ l,sl = .own l → ¬ Mut env ρ ad (ad' i) := fun l hl hm => by
  obtain ⟨o,e⟩ := H₀.frm.isSome hm
  rw [(hmu l hl).1] at e; injection e
 have mkOwn : ∀ h',(∀ a o, ¬ Mut env ρ ad a → s.heap.get? a = some o → h'.get? a = some o) → ∀ l,sl = .own l → NewOwn cx env F h' ρ ad ad' i := by
  intro h' hk l hl
  obtain ⟨a1,a2,a3,o,a4⟩ := hmu l hl
  have nm := notMut l hl
  exact ⟨a2,a3,⟨o,hk _ _ nm a4⟩,fun e => nm (.inl e),fun n e => nm (.inr (.inl ⟨n,e⟩)),fun j l' hj hs e => nm (.inr (.inr ⟨j,l',hs,e.symm⟩))⟩
 have others : ∀ y j,ε.vars.lookup y = some j → j ≠ i → y ≠ x := fun y j hy hj e => hj (by subst e; rw [hx] at hy; exact (Option.some.inj hy).symm)
 have same : ∀ y,ε.vars.lookup y = some i → y = x := fun y hy => H.sc.inj y x i hy hx
 rcases f.en.vars x i hx with ⟨hk,_⟩ | ⟨hk,⟨c,hc⟩,_⟩
 ·have hl : env.kindOf x = some .local := by unfold Env.kindOf; rw [f.en.names]; exact hk
  have hp : (env.scope.kind == .class || (env.scope.kind == .module && env.locals != env.globals)) = false := by rw [f.en.kind]; rfl
  refine wpAny_storeName_local hl f.en.ns (fun h' hn sb => ?_) hp
  have hb : Mut env ρ ad env.locals := .inl rfl
  have hk1 : ∀ a o, ¬ Mut env ρ ad a → s.heap.get? a = some o → h'.get? a = some o := fun a o nm e => (sb.2 a fun e => nm (e ▸ hb)).trans e
  have hk2 : ∀ a o,F a ∨ ¬ Mut env ρ ad a → s.heap.get? a = some o → h'.get? a = some o := fun a o nm e => nm.elim (fun h => (sb.2 a fun e => f.lf (e ▸ h)).trans e) fun h => hk1 a o h e
  refine hQ _ (fun y => if y = x then some v else m y) cm hk1 (zdF H₀ st hb sb _ (fun l hl => .inr (hmu l hl).1) had) ?_
  refine Frm.put H hb sb _ hn (fun n c hc => ?_) (fun y j hy hj => ⟨if_neg (others y j hy hj),rfl⟩) (fun y hy => ?_) had happ (fun j l hs _ => (f.own j l hs).2.2.2.1) (mkOwn h' hk1)
  ·obtain ⟨o,g,d⟩ := f.en.cells n c hc
   exact ⟨o,(sb.2 c (f.cf n c hc).2).trans g,d⟩
  ·have ey := same y hy
   refine ⟨fun _ => ?_,fun h => absurd (ey ▸ hk) h⟩
   show SlotRep cx F h' ad' i (if y = x then some v else m y) sl
   rw [if_pos ey]
   exact hv h' hk2
 ·have hl : env.kindOf x = some .cell := by
   unfold Env.kindOf; rw [f.en.names]
   exact hk.resolve_right hfree
  refine wpAny_storeName_cell f.en.kind hl hc (f.en.cells x c hc) (fun h' hn sb => ?_)
  have hb : Mut env ρ ad c := .inr (.inl ⟨x,hc⟩)
  have hk1 : ∀ a o, ¬ Mut env ρ ad a → s.heap.get? a = some o → h'.get? a = some o := fun a o nm e => (sb.2 a fun e => nm (e ▸ hb)).trans e
  have hk2 : ∀ a o,F a ∨ ¬ Mut env ρ ad a → s.heap.get? a = some o → h'.get? a = some o := fun a o nm e => nm.elim (fun h => (sb.2 a fun e => (f.cf x c hc).1 (e ▸ h)).trans e) fun h => hk1 a o h e
  refine hQ _ m (fun y => if y = x then some v else cm y) hk1 (zdF H₀ st hb sb s.toks (fun l hl => .inr (hmu l hl).1) had) ?_
  refine Frm.put H hb sb _ (f.en.ns.sameBut sb (Ne.symm (f.cf x c hc).2)) (fun n c' hc' => ?_) (fun y j hy hj => ⟨rfl,if_neg (others y j hy hj)⟩) (fun y hy => ?_) had happ (fun j l hs _ e => (f.own j l hs).2.2.2.2 x (e ▸ hc)) (mkOwn h' hk1)
  ·by_cases e : n = x
   ·subst e
    rw [hc] at hc'; (injection hc' with hc'; subst hc')
    rw [if_pos rfl]
    exact hn
   ·rw [if_neg e]
    obtain ⟨o,g,d⟩ := f.en.cells n c' hc'
    exact ⟨o,(sb.2 c' fun e' => e (f.cinj n x c (e' ▸ hc') hc)).trans g,d⟩
  ·have ey := same y hy
   refine ⟨fun h => ?_,fun _ => ?_⟩
   ·rw [ey] at h; rw [h] at hk; rcases hk with hk | hk <;> (injection hk with hk; injection hk)
   ·show SlotRep cx F h' ad' i (if y = x then some v else cm y) sl
    rw [if_pos ey]
    exact hv h' hk2
theorem zdx {A' : Around} (H₀ : HereS cx ε n cf A env F₀ s₀ ρ ad m cm) (st : Step cx F₀ s₀ F s) {x : Str} {i : Nat} (hx : ε.vars.lookup x = some i) (hfree : ε.kinds.lookup x ≠ some .free) {v : Value} {sl : Slot}
  (had : ∀ j,j ≠ i → ad' j = ad j) (happ : ad' i = ad i ∨ ∀ j,slotAt ρ j ≠ .app i)
  (hv : ∀ h',(∀ a o,F a ∨ ¬ Mut env ρ ad a → s.heap.get? a = some o → h'.get? a = some o) → SlotRep cx F h' ad' i (some v) sl)
  (hmu : ∀ l,sl = .own l → s₀.heap.get? (ad' i) = none ∧ ¬ F (ad' i) ∧ ¬ cx.X (ad' i) ∧ ∃ o,s.heap.get? (ad' i) = some o)
  {Q : Unit → Shared → Prop} {E : VP}
  (hQ : ∀ s' m' cm',StepS cx env F₀ s₀ ρ ad F s' (ρ.set i sl) ad' → Frm cx ε env F s' (ρ.set i sl) ad' m' cm' → Q () s') :
  wpAny (model cx.prog cx.w) A' (storeName env x v) Q E s := zbQ H₀ st hx hfree had happ hv hmu fun s' m' cm' _ => hQ s' m' cm'
end
section
variable {cx : XCx} {ε : Sc} {n : Nat} {cf : CfT} {A : Around} {env : Env} {F F₀ F' : AP} {s s₀ s' : Shared} {ρ ρ' : List Slot} {ad ad' : NAd} {m cm m' cm' : SV}
theorem StepS.rep (x : StepS cx env F s ρ ad F' s' ρ' ad') (H : HereS cx ε n cf A env F s ρ ad m cm) {v : Value} {d : D} (r : Rep cx.T F s.heap v d) : Rep cx.T F' s'.heap v d :=
 r.mono x.sub fun a o f e => x.keep a o e (H.wd.nx a f) fun hm => (H.frm.notF hm).1 f
theorem StepS.repL (x : StepS cx env F s ρ ad F' s' ρ' ad') (H : HereS cx ε n cf A env F s ρ ad m cm) {v : List Value} {d : List D} (r : RepL cx.T F s.heap v d) : RepL cx.T F' s'.heap v d :=
 r.mono x.sub fun a o f e => x.keep a o e (H.wd.nx a f) fun hm => (H.frm.notF hm).1 f
theorem zbv {A' : Around} (H₀ : HereS cx ε n cf A env F₀ s₀ ρ ad m cm) (st : Step cx F₀ s₀ F s) {x : Str} {i : Nat} (hx : ε.vars.lookup x = some i) (hfree : ε.kinds.lookup x ≠ some .free) {v : Value} {d : D} (hv : Rep cx.T F s.heap v d)
  {Q : Unit → Shared → Prop} {E : VP}
  (hQ : ∀ s' m' cm',StepS cx env F₀ s₀ ρ ad F s' (ρ.set i (.val d)) ad → Frm cx ε env F s' (ρ.set i (.val d)) ad m' cm' → Q () s') :
  wpAny (model cx.prog cx.w) A' (storeName env x v) Q E s :=
 zdx H₀ st hx hfree (sl := .val d) (ad' := ad) (fun _ _ => rfl) (.inl rfl) (fun h' hk => .val (hv.mono (fun _ h => h) fun a o f e => hk a o (.inl f) e)) (fun _ e => nomatch e) hQ
theorem zgN {x : X} {d : D} (h : ev1 cf x ρ = some d) : ∃ r,ev cf x ρ = some [r] ∧ r.fz = some d := by
 unfold ev1 at h
 split at h
 ·rename_i r e; exact ⟨r,e,h⟩
 ·injection h
theorem zbN (H : HereS cx ε n cf A env F s ρ ad m cm) {e : Expr} {x : X} (h : Sound cx ε e x) {d : D} (hd : ev1 cf x ρ = some d) {Q E : VP}
  (hQ : ∀ v F' s',Step cx F s F' s' → Rep cx.T F' s'.heap v d → Q v s') : wpAny (model cx.prog cx.w) A (eval e env) Q E s := by
 obtain ⟨r,e1,e2⟩ := zgN hd
 refine h.ev n cf A env F s ρ ad m cm H.here r e1 _ _ fun v F' s' st q => ?_
 obtain ⟨F'',st',_,q'⟩ := st.fz H.ok H.wd q e2
 exact hQ v F'' s' st' q'
end
section
variable {cx : XCx} {ε : Sc}
theorem zcV {pos : Pos} : SoundS cx ε (.Break pos) .brk := by
 intro n cf A env F s ρ ad m cm H ρ' o h Q E hQ
 replace h := (zjD cf).symm.trans h; (injection h with h; injection h with h z; subst h z)
 exact wpAny_Break (hQ .brk F s ad m cm (StepS.refl H.wd) H.frm .brk)
theorem zdB {pos : Pos} : SoundS cx ε (.Continue pos) .cont := by
 intro n cf A env F s ρ ad m cm H ρ' o h Q E hQ
 replace h := (zhu cf).symm.trans h; (injection h with h; injection h with h z; subst h z)
 exact wpAny_Continue (hQ .cont F s ad m cm (StepS.refl H.wd) H.frm .cont)
theorem zam {e : Expr} {x : X} {pos : Pos} (hx : Sound cx ε e x) : SoundS cx ε (.Return (some e) pos) (.ret x) := by
 intro n cf A env F s ρ ad m cm H ρ' o h Q E hQ
 replace h := (zjB cf).symm.trans h
 obtain ⟨d,hd,e'⟩ := Option.map_eq_some_iff.mp h
 (injection e' with e' z; subst e' z)
 refine wpAny_Return_some (zbN H hx hd fun v F' s' st q => ?_)
 exact hQ _ F' s' ad m cm (.ofStep st) (H.step st).frm (.ret q)
theorem zaf {c : Expr} {x : X} {bs es : List Stmt} {a b : S} {pos : Pos} (hx : Sound cx ε c x) (ha : SoundSs cx ε bs a) (hb : SoundSs cx ε es b) : SoundS cx ε (.If c bs es pos) (.ite x a b) := by
 intro n cf A env F s ρ ad m cm H ρ' o h Q E hQ
 replace h := (zjC cf).symm.trans h
 split at h
 ·rename_i e
  refine wpAny_If (hx.tr n cf A env F s ρ ad m cm H.here true e _ _ fun F' s' st => ?_)
  show wpAny _ _ _ _ _ _
  exact ha n cf A env F' s' ρ ad m cm (H.step st) ρ' o h _ _ (hQ.after (.ofStep st))
 ·rename_i e
  refine wpAny_If (hx.tr n cf A env F s ρ ad m cm H.here false e _ _ fun F' s' st => ?_)
  show wpAny _ _ _ _ _ _
  exact hb n cf A env F' s' ρ ad m cm (H.step st) ρ' o h _ _ (hQ.after (.ofStep st))
 ·injection h
theorem zeU {c : Expr} {x : X} {msg : Option Expr} {pos : Pos} (hx : Sound cx ε c x) : SoundS cx ε (.Assert c msg pos) (.assert x) := by
 intro n cf A env F s ρ ad m cm H ρ' o h Q E hQ
 replace h := (zid cf).symm.trans h
 split at h
 ·rename_i e
  (injection h with h; injection h with h z; subst h z)
  refine wpAny_Assert_holds (hx.tr n cf A env F s ρ ad m cm H.here true e _ _ fun F' s' st => ?_)
  exact ⟨rfl,hQ .next F' s' ad m cm (.ofStep st) (H.step st).frm .next⟩
 ·injection h
theorem zad {x : Str} {i : Nat} {e : Expr} {y : X} {pos' pos : Pos} (hx : ε.vars.lookup x = some i) (hf : ε.kinds.lookup x ≠ some .free) (h : Sound cx ε e y) (hs : ∀ env : Env,env.scope.kind = .function → env.scope.names = ε.kinds → swapsWith e (some (.Name x pos')) pos.line env = pure false) :
  SoundS cx ε (.Assign [.Name x pos'] e pos) (.assign i y) := by
 intro n cf A env F s ρ ad m cm H ρ' o he Q E hQ
 replace he := (zbX cf).symm.trans he
 obtain ⟨d,hd,e'⟩ := Option.map_eq_some_iff.mp he
 (injection e' with e' z; subst e' z)
 refine wpAny_Assign_Name (zbN H h hd fun v F' s' st q => ?_) (hs env H.frm.en.kind H.frm.en.names)
 exact zbv H st hx hf q fun s'' m' cm' x f => hQ .next F' s'' ad m' cm' x f .next
theorem zha {i : Nat} {ρ : List Slot} (h : noApp i ρ = true) : ∀ j,slotAt ρ j ≠ .app i := by
 intro j e
 unfold noApp at h
 rw [List.all_eq_true] at h
 unfold slotAt at e
 rw [List.getD_eq_getElem?_getD] at e
 cases hj : ρ[j]? with
 | none => rw [hj] at e; injection e
 | some sl =>
  rw [hj] at e
  have := h sl (List.mem_of_getElem? hj)
  have e' : sl = .app i := e
  subst e'
  simp at this
theorem zaX {x : Str} {i : Nat} {e : Expr} {y : X} {pos' pos : Pos} (hx : ε.vars.lookup x = some i) (hf : ε.kinds.lookup x ≠ some .free) (h : Sound cx ε e y) (hs : ∀ env : Env,env.scope.kind = .function → env.scope.names = ε.kinds → swapsWith e (some (.Name x pos')) pos.line env = pure false) :
  SoundS cx ε (.Assign [.Name x pos'] e pos) (.assignO i y) := by
 intro n cf A env F s ρ ad m cm H ρ' o he Q E hQ
 replace he := (zce cf).symm.trans he
 split at he
 ·rename_i hna
  split at he
  ·rename_i l e1
   by_cases hd : dSlot i = true
   ·rw [if_pos hd] at he; injection he
   rw [if_neg hd] at he
   have hd : dSlot i = false := by simpa using hd
   (injection he with he; injection he with he z; subst he z)
   refine wpAny_Assign_Name (h.ev n cf A env F s ρ ad m cm H.here _ e1 _ _ fun v F' s' st q => ?_) (hs env H.frm.en.kind H.frm.en.names)
   cases q with
   | @own a vs k l lo nf nx g z q =>
    refine zdx H st hx hf (sl := .own l) (ad' := fun j => if j = i then a else ad j) (fun j hj => if_neg hj) (.inr (zha hna)) (fun h' hk => ?_) (fun l' _ => ?_) fun s'' m' cm' x f => hQ .next F' s'' _ m' cm' x f .next
    ·have nm : ¬ Mut env ρ ad a := fun hm => by
      obtain ⟨o,e⟩ := H.frm.isSome hm
      rw [lo] at e; injection e
     have : SlotRep cx F' h' (fun j => if j = i then a else ad j) i (some (.ref ((fun j => if j = i then a else ad j) i))) (.own l) := by
      refine .own (vs := vs) (n := k) ?_ ?_ ?_ z (q.mono (fun _ h => h) fun b o f e => hk b o (.inl f) e) hd <;> simp only [if_true]
      ·exact nf
      ·exact nx
      ·exact hk a _ (.inr nm) g
     simpa using this
    ·simp only [if_true]
     exact ⟨lo,nf,nx,_,g⟩
  ·rename_i d e1
   (injection he with he; injection he with he z; subst he z)
   refine wpAny_Assign_Name (h.ev n cf A env F s ρ ad m cm H.here _ e1 _ _ fun v F' s' st q => ?_) (hs env H.frm.en.kind H.frm.en.names)
   cases q with
   | val q => exact zbv H st hx hf q fun s'' m' cm' x f => hQ .next F' s'' ad m' cm' x f .next
  ·injection he
 ·injection he
end
set_option genInjectivity false in
structure Iter (cx : XCx) (A : Around) (F₀ : AP) (s₀ : Shared) (items : List D) (I : Addr) (F : AP) (s : Shared) (fp wr : List Addr) (P : Nat → Value → Prop) (St : Nat → Heap → Prop) : Prop where
 st : Step cx F₀ s₀ F s
 W : ∀ A' : Around,A'.handled = none → Walks cx.prog cx.w A' I fp wr items.length P St
 s0 : St 0 s.heap
 new : ∀ b ∈ wr,s₀.heap.get? b = none ∧ ¬ F b
 one : ∀ b ∈ wr,b = I
 deps : ∀ b ∈ fp,b ∈ wr ∨ F b
 item : ∀ i v,P i v → ∃ d,items[i]? = some d ∧ Rep cx.T F s.heap v d
 ty : ∀ i h,St i h → ∃ o T,h.get? I = some o ∧ o.cls = .type T ∧ ["enumerate", "zip", "dict_itemiterator", "dict_reverseitemiterator", "odict_iterator", "itertools.zip_longest", "itertools.pairwise"].contains T = false
 lim : items.length ≤ lim
noncomputable def SoundI (cx : XCx) (ε : Sc) (it : Expr) (x : X) : Prop :=
 ∀ n cf A env F s ρ ad m cm,Here cx ε n cf A env F s ρ ad m cm → ∀ items,evI cf x ρ = some items → ∀ (Q E : VP),
  (∀ I F' s' fp wr P St,Iter cx A F s items I F' s' fp wr P St → Q (.ref I) s') →
  wpAny (model cx.prog cx.w) A (eval it env) (fun v s₁ => wpAny (model cx.prog cx.w) A (pyIter v) Q E s₁) E s
noncomputable def SoundA (cx : XCx) (ε : Sc) (target : Expr) (put : D → List Slot → Option (List Slot)) : Prop :=
 ∀ n cf A env F s ρ ad m cm,HereS cx ε n cf A env F s ρ ad m cm → ∀ v d ρ',Rep cx.T F s.heap v d → put d ρ = some ρ' → ∀ (Q : Unit → Shared → Prop) (E : VP),
  (∀ F' s' m' cm',StepS cx env F s ρ ad F' s' ρ' ad → Frm cx ε env F' s' ρ' ad m' cm' → Q () s') → wpAny (model cx.prog cx.w) A (assign target env v) Q E s
section
variable {cx : XCx} {ε : Sc} {n : Nat} {cf : CfT} {A : Around} {env : Env} {F F₀ F' : AP} {s s₀ s' : Shared} {ρ ρ' : List Slot} {ad ad' : NAd} {m cm m' cm' : SV}
theorem Frm.kept (f : Frm cx ε env F s ρ ad m cm) {h' : Heap} (k : Nat) (hk : ∀ a o,F a ∨ Mut env ρ ad a → s.heap.get? a = some o → h'.get? a = some o) :
  Frm cx ε env F { s with heap := h',toks := k } ρ ad m cm := by
 have hl : Mut env ρ ad env.locals := .inl rfl
 have slots : ∀ j ov,SlotRep cx F s.heap ad j ov (slotAt ρ j) → SlotRep cx F h' ad j ov (slotAt ρ j) := by
  intro j ov q
  have hm : ∀ l,slotAt ρ j = .own l → Mut env ρ ad (ad j) := fun l e => .inr (.inr ⟨j,l,e,rfl⟩)
  generalize slotAt ρ j = x at q hm
  cases q with
  | unset => exact .unset
  | val q => exact .val (q.mono (fun _ h => h) fun a o f e => hk a o (.inl f) e)
  | own nf nx g z q hd => exact .own nf nx (hk _ _ (.inr (hm _ rfl)) g) z (q.mono (fun _ h => h) fun a o f e => hk a o (.inl f) e) hd
  | dic nf nx sm g q z hd =>
   obtain ⟨o,es,ep,ho,r⟩ := g
   exact .dic nf nx sm ⟨o,es,ep,hk _ _ (.inr (hm _ rfl)) ho,r⟩ (q.mono (fun _ h => h) fun a o f e => hk a o (.inl f) e) z hd
  | fdic fb sm g q z =>
   obtain ⟨o,es,ep,ho,r⟩ := g
   exact .fdic fb sm ⟨o,es,ep,hk _ _ (.inl fb) ho,r⟩ (q.mono (fun _ h => h) fun a o f e => hk a o (.inl f) e) z
  | app fb g e => exact .app fb (hk _ _ (.inl fb) g) e
 refine ⟨⟨f.en.kind,f.en.names,f.en.glob,f.en.blt,f.en.code,f.en.lx,f.en.cxx,f.en.ns.at' fun o e => hk _ o (.inr hl) e,fun n c hc => let ⟨o,g,d⟩ := f.en.cells n c hc; ⟨o,hk _ o (.inr (.inr (.inl ⟨n,hc⟩))) g,d⟩,
  fun y i hy => (f.en.vars y i hy).imp (fun ⟨k,q⟩ => ⟨k,slots i _ q⟩) fun ⟨k,c,q⟩ => ⟨k,c,slots i _ q⟩⟩,f.lf,f.cf,f.cinj,f.oinj,fun i l hi => ?_⟩
 obtain ⟨a1,a2,⟨o,g⟩,a4,a5⟩ := f.own i l hi
 exact ⟨a1,a2,⟨o,hk _ _ (.inr (.inr (.inr ⟨i,l,hi,rfl⟩))) g⟩,a4,a5⟩
theorem StepS.kept (ok : CxOk cx) (w₀ : Wd cx F₀ s₀) (x : StepS cx env F₀ s₀ ρ ad F s ρ' ad') (f : Frm cx ε env F s ρ' ad' m cm) {wr : List Addr} (hw : ∀ b ∈ wr,s₀.heap.get? b = none ∧ ¬ F b ∧ ¬ Mut env ρ' ad' b) {h' : Heap} (k : Nat)
  (hk : ∀ a o,a ∉ wr → s.heap.get? a = some o → h'.get? a = some o) : StepS cx env F₀ s₀ ρ ad F { s with heap := h',toks := k } ρ' ad' ∧ Frm cx ε env F { s with heap := h',toks := k } ρ' ad' m cm := by
 have nf : ∀ a,F a → a ∉ wr := fun a h hm => (hw a hm).2.1 h
 have nm : ∀ a,Mut env ρ' ad' a → a ∉ wr := fun a h hm => (hw a hm).2.2 h
 have nx : ∀ a,cx.X a → a ∉ wr := fun a h hm => by
  obtain ⟨o,e⟩ := w₀.xex a h
  rw [(hw a hm).1] at e; injection e
 have w := x.wd
 refine ⟨⟨x.sub,x.new,fun a o e ax am => ?_,x.os,⟨fun a o e ax => hk a o (nf a (w.f0 a o e ax)) (w.base a o e ax),ok.xi _ _ _ _ w.xi (fun _ h => h) (fun a o h e => hk a o (h.elim (nf a) (nx a)) e),w.gens,w.f0,fun a h => let ⟨o,e⟩ := w.lt a h; ⟨o,hk a o (nf a h) e⟩,w.nx,fun a h => let ⟨o,e⟩ := w.xex a h; ⟨o,hk a o (nx a h) e⟩⟩,x.mu⟩,f.kept k fun a o h e => hk a o (h.elim (nf a) (nm a)) e⟩
 refine hk a o (fun hm => ?_) (x.keep a o e ax am)
 rw [(hw a hm).1] at e; injection e
end
section
variable {cx : XCx} {ε : Sc}
theorem zgk {x : Str} {i : Nat} {p : Pos} (hx : ε.vars.lookup x = some i) (hf : ε.kinds.lookup x ≠ some .free) : SoundA cx ε (.Name x p) (put1 i) := by
 intro n cf A env F s ρ ad m cm H v d ρ' hv hp Q E hQ
 (injection hp with hp; subst hp)
 exact wpAny_assign_Name (zbv H (Step.refl H.wd) hx hf hv fun s' m' cm' x f => hQ F s' m' cm' x f)
inductive WhI (cx : XCx) (ε : Sc) (env : Env) (F : AP) (s : Shared) (ρ : List Slot) (ad : NAd) (go : Nat → List Slot → Option (List Slot × Out)) (res : Option (List Slot × Out)) (k : Nat) (s' : Shared) : Prop
 | mk (F' : AP) (ρ₁ : List Slot) (ad₁ : NAd) (m₁ cm₁ : SV) (x1 : StepS cx env F s ρ ad F' s' ρ₁ ad₁) (f1 : Frm cx ε env F' s' ρ₁ ad₁ m₁ cm₁) (hg : go k ρ₁ = res)
theorem za9 {c : Expr} {x : X} {bs : List Stmt} {b : S} {pos : Pos} (hx : Sound cx ε c x) (hb : SoundSs cx ε bs b) : SoundS cx ε (.While c bs [] pos) (.while x b) := by
 intro n cf A env F s ρ ad m cm H ρ' o h Q E hQ
 replace h := (zfS cf).symm.trans h
 refine wpAny_While ?_
 refine codeAny_whileLoop (WhI cx ε env F s ρ ad (whileGo (evT cf x) (ex cf b)) (some (ρ',o))) (fun k s' hI => ?_) Mine.wf
  ⟨F,ρ,ad,m,cm,StepS.refl H.wd,H.frm,h⟩
 obtain ⟨F',ρ₁,ad₁,m₁,cm₁,x1,f1,hg⟩ := hI
 have H1 := H.stepS x1 f1
 cases k with
 | zero => injection hg
 | succ k =>
  cases e : evT cf x ρ₁ with
  | none => unfold whileGo at hg; rw [e] at hg; injection hg
  | some c =>
   refine hx.tr n cf A env F' s' ρ₁ ad₁ m₁ cm₁ H1.here c e _ _ fun F2 s2 st => ?_
   cases c with
   | false =>
    replace hg : some (ρ₁,Out.next) = some (ρ',o) := by unfold whileGo at hg; rw [e] at hg; exact hg
    cases hg
    show wpAny _ _ _ _ _ _
    exact wpAny_execs_nil (hQ .next F2 s2 ad₁ m₁ cm₁ (x1.trans (.ofStep st)) (H1.step st).frm .next)
   | true =>
    show wpAny _ _ _ _ _ _
    cases e2 : ex cf b ρ₁ with
    | none => unfold whileGo at hg; rw [e] at hg; simp only [e2] at hg; injection hg
    | some y =>
     obtain ⟨ρ₂,o₂⟩ := y
     refine hb n cf A env F2 s2 ρ₁ ad₁ m₁ cm₁ (H1.step st) ρ₂ o₂ e2 _ _ fun f F3 s3 ad3 m3 cm3 x3 f3 q => ?_
     have x4 := (x1.trans (.ofStep st)).trans x3
     unfold whileGo at hg
     rw [e] at hg
     simp only [e2] at hg
     cases q with
     | next => exact ⟨k,Nat.lt_succ_self k,F3,ρ₂,ad3,m3,cm3,x4,f3,hg⟩
     | cont => exact ⟨k,Nat.lt_succ_self k,F3,ρ₂,ad3,m3,cm3,x4,f3,hg⟩
     | brk => cases hg; exact hQ .next F3 s3 ad3 m3 cm3 x4 f3 .next
     | ret r => cases hg; exact hQ _ F3 s3 ad3 m3 cm3 x4 f3 (.ret r)
theorem zdn {A : Around} {s : Shared} {E : VP} {target : Expr} {I : Addr} {v : Value} {Q : Unit → Shared → Prop} {o : Obj} {T : String} (hg : s.heap.get? I = some o) (hc : o.cls = .type T)
  (hT : ["enumerate", "zip", "dict_itemiterator", "dict_reverseitemiterator", "odict_iterator", "itertools.zip_longest", "itertools.pairwise"].contains T = false) (h : Q () s) :
  wpAny (model cx.prog cx.w) A (letOwnedTupleGo target (.ref I) v) Q E s := by
 have key : ∀ es k p,wpAny (model cx.prog cx.w) A (letOwnedTupleGo (.Tuple es k p) (.ref I) v) Q E s := by
  intro es k p
  cases v with
  | ref a =>
   show wpAny _ _ (load I >>= _) Q E s
   refine wb (wpAny_load hg ?_)
   rw [hc]
   generalize o.data = dd
   cases dd with
   | fields vs =>
    show wpAny _ _ (if (_ && _) = true then _ else _) Q E s
    rw [hT]
    exact wpAny_pure h
   | _ => exact wpAny_pure h
  | _ => exact wpAny_pure h
 cases target with
 | Tuple es k p => exact key es k p
 | List es p => exact key [] 0 p
 | _ => exact wpAny_pure h
set_option genInjectivity false in
structure IterG (cx : XCx) (A : Around) (target : Expr) (F₀ : AP) (s₀ : Shared) (items : List D) (I : Addr) (F : AP) (s : Shared) (wr : List Addr) (Inv : Nat → Heap → Prop) (TR : (Addr → Prop) → Heap → Value → D → Prop) : Prop where
 st : Step cx F₀ s₀ F s
 i0 : Inv 0 s.heap
 new : ∀ b ∈ wr,s₀.heap.get? b = none ∧ ¬ F b
 live : ∀ j h,Inv j h → ∀ b ∈ wr, ∃ o,h.get? b = some o
 frame : ∀ j h h',Inv j h → (∀ b,b ∈ wr ∨ F b → ∀ o,h.get? b = some o → h'.get? b = some o) → Inv j h'
 next : ∀ j (s' : Shared) (F' : AP) (K : VP) (N : Shared → Prop) (E : VP),j < items.length → Inv j s'.heap → (∀ v d,Rep cx.T F s.heap v d → Rep cx.T F' s'.heap v d) → (∀ b ∈ wr, ¬ F' b) →
  (∀ v h' tk d,items[j]? = some d → TR F' h' v d → Inv (j + 1) h' → (∀ b o,b ∉ wr → s'.heap.get? b = some o → h'.get? b = some o) → K v { s' with heap := h',toks := tk }) →
  wpAny (model cx.prog cx.w) A (pyNext (.ref I)) (fun r s₁ => match r with | none => N s₁ | some v => wpAny (model cx.prog cx.w) A (letOwnedTupleGo target (.ref I) v) (fun _ s₂ => K v s₂) E s₁) E s'
 done : ∀ (s' : Shared) (K : VP) (N : Shared → Prop) (E : VP),Inv items.length s'.heap → (∀ h' tk,(∀ b o,b ∉ wr → s'.heap.get? b = some o → h'.get? b = some o) → N { s' with heap := h',toks := tk }) →
  wpAny (model cx.prog cx.w) A (pyNext (.ref I)) (fun r s₁ => match r with | none => N s₁ | some v => wpAny (model cx.prog cx.w) A (letOwnedTupleGo target (.ref I) v) (fun _ s₂ => K v s₂) E s₁) E s'
theorem Iter.gen {A : Around} (hh : A.handled = none) {target : Expr} {F₀ F : AP} {s₀ s : Shared} {items : List D} {I : Addr} {fp wr : List Addr} {P : Nat → Value → Prop} {St : Nat → Heap → Prop} (J : Iter cx A F₀ s₀ items I F s fp wr P St) :
  IterG cx A target F₀ s₀ items I F s wr St (Rep cx.T) := by
 refine ⟨J.st,J.s0,J.new,fun j h hs b hb => ?_,fun j h h' hs hk => (J.W A hh).frame _ _ _ hs fun b hb => hk b (J.deps b hb),fun j s' F' K N E hlt hst hrep hnw hQ => ?_,fun s' K N E hst hQ => ?_⟩
 ·obtain ⟨o,_,g,_⟩ := J.ty _ _ hs
  exact J.one b hb ▸ ⟨o,g⟩
 ·refine (J.W A hh).item j s' _ _ hlt hst fun v h' tk hP hst' hk => ?_
  obtain ⟨d,hd,hr⟩ := J.item j v hP
  obtain ⟨ob,T,g1,g2,g3⟩ := J.ty _ _ hst'
  exact zdn (s := { s' with heap := h',toks := tk }) g1 g2 g3 (hQ v h' tk d hd ((hrep v d hr).mono (fun _ h => h) fun a o f e => hk a o (fun hm => hnw a hm f) e) hst' hk)
 ·exact (J.W A hh).done s' _ _ hst fun h' tk hk => hQ h' tk hk
inductive ForI (cx : XCx) (ε : Sc) (env : Env) (F : AP) (s : Shared) (ρ : List Slot) (ad : NAd) (F0 : AP) (h0 : Heap) (wr : List Addr) (St : Nat → Heap → Prop) (items : List D) (go : List D → List Slot → Option (List Slot × Out)) (res : Option (List Slot × Out)) (k : Nat) (s' : Shared) : Prop
 | mk (j : Nat) (F' : AP) (ρ₁ : List Slot) (ad₁ : NAd) (m₁ cm₁ : SV) (hj : j ≤ items.length) (hk : k = items.length - j) (x1 : StepS cx env F s ρ ad F' s' ρ₁ ad₁) (hrep : ∀ v d,Rep cx.T F0 h0 v d → Rep cx.T F' s'.heap v d) (hF : ∀ a,F0 a → F' a) (f1 : Frm cx ε env F' s' ρ₁ ad₁ m₁ cm₁) (hst : St j s'.heap)
  (hwr : ∀ b ∈ wr, ¬ F' b ∧ ¬ Mut env ρ₁ ad₁ b) (hg : go (items.drop j) ρ₁ = res)
set_option genInjectivity false in
structure ForL (cx : XCx) (env : Env) (F0 : AP) (h0 : Heap) (wr : List Addr) (St : Nat → Heap → Prop) (j : Nat) (F4 : AP) (h4 : Heap) (ρ4 : List Slot) (ad4 : NAd) : Prop where
 p1 : ∀ v d,Rep cx.T F0 h0 v d → Rep cx.T F4 h4 v d
 p2 : ∀ a,F0 a → F4 a
 p3 : St j h4
 p4 : ∀ b ∈ wr, ¬ F4 b ∧ ¬ Mut env ρ4 ad4 b
theorem zju {target : Expr} {put : D → List Slot → Option (List Slot)} {it : Expr} {bs : List Stmt} {b : S} {pos : Pos} {TR : (Addr → Prop) → Heap → Value → D → Prop} (hb : SoundSs cx ε bs b)
  (hs : ∀ env x,foldedSetIterable it env x = pure x) {n cf A env F s ρ ad m cm} (H : HereS cx ε n cf A env F s ρ ad m cm) {items : List D}
  (ht : ∀ F s ρ m cm ad,HereS cx ε n cf A env F s ρ ad m cm → ∀ v d ρ',TR F s.heap v d → put d ρ = some ρ' → ∀ (Q : Unit → Shared → Prop) (E : VP),(∀ F' s' m' cm',StepS cx env F s ρ ad F' s' ρ' ad → Frm cx ε env F' s' ρ' ad m' cm' → Q () s') → wpAny (model cx.prog cx.w) A (assign target env v) Q E s)
  (hi : ∀ (Q E : VP),(∀ I F' s' wr St,IterG cx A target F s items I F' s' wr St TR → Q (.ref I) s') → wpAny (model cx.prog cx.w) A (eval it env) (fun v s₁ => wpAny (model cx.prog cx.w) A (pyIter v) Q E s₁) E s)
  {ρ' : List Slot} {o : Out}
  (h : forGo put (ex cf b) items ρ = some (ρ',o)) {Q : Flow → Shared → Prop} {E : VP} (hQ : PostS cx ε env F s ρ ad ρ' o Q) : wpAny (model cx.prog cx.w) A (exec (.For target it bs [] pos) env) Q E s := by
 refine wpAny_For (hi _ _ fun I F0 s0 wr St J => ?_) (hs env)
 have hx0 : ∀ b ∈ wr, ¬ cx.X b := fun b hb h => by
  obtain ⟨o,e⟩ := H.wd.xex b h
  rw [(J.new b hb).1] at e; injection e
 refine codeAny_forLoop_any (ForI cx ε env F s ρ ad F0 s0.heap wr St items (forGo put (ex cf b)) (some (ρ',o))) (fun k s' hI => ?_) items.length
  ⟨0,F0,ρ,ad,m,cm,Nat.zero_le _,rfl,.ofStep J.st,fun _ _ h => h,fun _ h => h,(H.step J.st).frm,J.i0,fun b hb => ⟨(J.new b hb).2,fun hm => ?_⟩,h⟩
 rotate_left
 ·obtain ⟨o,e⟩ := H.frm.isSome hm
  rw [(J.new b hb).1] at e; injection e
 obtain ⟨j,F',ρ₁,ad₁,m₁,cm₁,hj,rfl,x1,hrep,hF,f1,hst,hwr,hg⟩ := hI
 have hwr' : ∀ b ∈ wr,s.heap.get? b = none ∧ ¬ F' b ∧ ¬ Mut env ρ₁ ad₁ b := fun b hb => ⟨(J.new b hb).1,(hwr b hb).1,(hwr b hb).2⟩
 rcases Nat.lt_or_ge j items.length with hlt | hge
 ·refine J.next j s' F' _ _ _ hlt hst hrep (fun b hb => (hwr b hb).1) fun v h' tk d hd htr hst' hk => ?_
  obtain ⟨x2,f2⟩ := x1.kept H.ok H.wd f1 hwr' tk hk
  have hdrop : items.drop j = d :: items.drop (j + 1) := by
   have h1 : items[j]? = some items[j] := List.getElem?_eq_getElem hlt
   rw [h1] at hd
   (injection hd with hd; subst hd)
   exact List.drop_eq_getElem_cons hlt
  rw [hdrop] at hg
  have keepF : ∀ a o,F' a → s'.heap.get? a = some o → h'.get? a = some o := fun a o f e => hk a o (fun hm => (hwr a hm).1 f) e
  have hr2 : ∀ v d,Rep cx.T F0 s0.heap v d → Rep cx.T F' h' v d := fun v d hr => (hrep v d hr).mono (fun _ h => h) keepF
  cases e2 : put d ρ₁ with
  | none => unfold forGo at hg; rw [e2] at hg; injection hg
  | some ρ₂ =>
  have H2 := H.stepS x2 f2
  refine ht F' _ ρ₁ m₁ cm₁ ad₁ H2 v d ρ₂ htr e2 _ _ fun F3 s3 m3 cm3 x3 f3 => ?_
  have H3 := H2.stepS x3 f3
  have later : ∀ {F4 s4 ρ4 ad4 m4 cm4},StepS cx env F' { s' with heap := h',toks := tk } ρ₁ ad₁ F4 s4 ρ4 ad4 → Frm cx ε env F4 s4 ρ4 ad4 m4 cm4 →
    ForL cx env F0 s0.heap wr St (j + 1) F4 s4.heap ρ4 ad4 := by
   intro F4 s4 ρ4 ad4 m4 cm4 y f4
   refine ⟨fun v d q => y.rep H2 (hr2 v d q),fun a h => y.sub a (hF a h),J.frame _ _ _ hst' fun b hb ob' e => ?_,fun b hb => ?_⟩
   ·rcases hb with hb | hb
    ·exact y.keep b ob' e (hx0 b hb) (hwr b hb).2
    ·exact y.keep b ob' e (H2.wd.nx b (hF b hb)) fun hm => (f2.notF hm).1 (hF b hb)
   ·obtain ⟨ob,g1⟩ := J.live _ _ hst' b hb
    refine ⟨fun h => ?_,fun h => ?_⟩
    ·rcases y.new b h with q | q | q
     ·exact (hwr b hb).1 q
     ·rw [show ({ s' with heap := h',toks := tk } : Shared).heap.get? b = some ob from g1] at q; injection q
     ·exact (hwr b hb).2 q
    ·rcases y.mu b h with q | q
     ·exact (hwr b hb).2 q
     ·rw [show ({ s' with heap := h',toks := tk } : Shared).heap.get? b = some ob from g1] at q; injection q
  cases e3 : ex cf b ρ₂ with
  | none => unfold forGo at hg; rw [e2] at hg; simp only [e3] at hg; injection hg
  | some pr =>
  obtain ⟨ρ₃,o3⟩ := pr
  replace hg : (match o3 with
   | .next => forGo put (ex cf b) (items.drop (j + 1)) ρ₃
   | .cont => forGo put (ex cf b) (items.drop (j + 1)) ρ₃
   | .brk => some (ρ₃,.next)
   | .ret d => some (ρ₃,.ret d)) = some (ρ',o) := by
   unfold forGo at hg
   rw [e2] at hg
   simp only [e3] at hg
   cases o3 <;> exact hg
  refine hb n cf A env F3 s3 ρ₂ ad₁ m3 cm3 H3 _ o3 e3 _ _ fun f F4 s4 ad4 m4 cm4 x4 f4 q => ?_
  have x24 := x2.trans (x3.trans x4)
  obtain ⟨p1,p2,p3,p4⟩ := later (x3.trans x4) f4
  have again : forGo put (ex cf b) (items.drop (j + 1)) ρ₃ = some (ρ',o) → ∃ m,m < items.length - j ∧ ForI cx ε env F s ρ ad F0 s0.heap wr St items (forGo put (ex cf b)) (some (ρ',o)) m s4 := fun hg =>
   ⟨items.length - (j + 1),Nat.sub_lt_sub_left hlt (Nat.lt_succ_self j),j + 1,F4,ρ₃,ad4,m4,cm4,hlt,rfl,x24,p1,p2,f4,p3,p4,hg⟩
  cases q with
  | next => exact again hg
  | cont => exact again hg
  | brk => cases hg; exact hQ .next F4 s4 ad4 m4 cm4 x24 f4 .next
  | ret r => cases hg; exact hQ _ F4 s4 ad4 m4 cm4 x24 f4 (.ret r)
 ·have ej : j = items.length := Nat.le_antisymm (by assumption) (by assumption)
  subst ej
  rw [List.drop_length] at hg
  cases hg
  refine J.done s' _ _ _ hst fun h' tk hk => ?_
  obtain ⟨x2,f2⟩ := x1.kept H.ok H.wd f1 hwr' tk hk
  exact wpAny_execs_nil (hQ .next F' _ ad₁ m₁ cm₁ x2 f2 .next)
theorem zjv {target : Expr} {put : D → List Slot → Option (List Slot)} {it : Expr} {x : X} {bs : List Stmt} {b : S} {pos : Pos} (ht : SoundA cx ε target put) (hi : SoundI cx ε it x) (hb : SoundSs cx ε bs b)
  (hs : ∀ env x,foldedSetIterable it env x = pure x) {n cf A env F s ρ ad m cm} (H : HereS cx ε n cf A env F s ρ ad m cm) {items : List D} (hit : evI cf x ρ = some items) {ρ' : List Slot} {o : Out}
  (h : forGo put (ex cf b) items ρ = some (ρ',o)) {Q : Flow → Shared → Prop} {E : VP} (hQ : PostS cx ε env F s ρ ad ρ' o Q) : wpAny (model cx.prog cx.w) A (exec (.For target it bs [] pos) env) Q E s :=
 zju (TR := Rep cx.T) hb hs H (fun F s ρ m cm ad => ht n cf A env F s ρ ad m cm) (fun Q E k => hi n cf A env F s ρ ad m cm H.here items hit Q E fun I F' s' fp wr P St J => k I F' s' wr St (J.gen H.bud.hd)) h hQ
theorem za6 {x : Str} {i : Nat} {p : Pos} {it : Expr} {y : X} {bs : List Stmt} {b : S} {pos : Pos} (hx : ε.vars.lookup x = some i) (hf : ε.kinds.lookup x ≠ some .free) (hi : SoundI cx ε it y) (hb : SoundSs cx ε bs b)
  (hs : ∀ env x,foldedSetIterable it env x = pure x) : SoundS cx ε (.For (.Name x p) it bs [] pos) (.forE i y b) := by
 intro n cf A env F s ρ ad m cm H ρ' o h Q E hQ
 replace h := (zht cf).symm.trans h
 split at h
 ·rename_i items e
  exact zjv (zgk hx hf) hi hb hs H e h hQ
 ·injection h
end
section
variable {cx : XCx} {ε : Sc}
theorem evI_seq {cf : CfT} {x : X} {ρ : List Slot} {items : List D} (h : evI cf (.seqI x) ρ = some items) : ∃ r d,ev cf x ρ = some [r] ∧ r.fz = some d ∧ itemsOf d = some items := by
 unfold evI at h
 split at h
 ·rename_i l e
  cases h
  replace e := (zhw _).symm.trans e
  split at e
  ·rename_i r e1
   split at e
   ·rename_i d e2
    obtain ⟨l',e3,e4⟩ := Option.map_eq_some_iff.mp e
    cases e4
    exact ⟨r,d,e1,e2,e3⟩
   ·injection e
  ·injection e
 ·injection h
theorem zcz {A : Around} {F₀ F : AP} {s₀ s : Shared} {items : List D} {P : Nat → Value → Prop} {St : Nat → Heap → Prop} {fp : List Addr} {o : Obj} (ok : CxOk cx) (w₀ : Wd cx F₀ s₀) (st : Step cx F₀ s₀ F s)
  (W : ∀ A' : Around,A'.handled = none → Walks cx.prog cx.w A' s.heap.objs.size fp [s.heap.objs.size] items.length P St) (s0 : St 0 (s.heap.push o)) (deps : ∀ b ∈ fp,b = s.heap.objs.size ∨ F b)
  (item : ∀ i v,P i v → ∃ d,items[i]? = some d ∧ Rep cx.T F s.heap v d)
  (ty : ∀ i h,St i h → ∃ o T,h.get? s.heap.objs.size = some o ∧ o.cls = .type T ∧ ["enumerate", "zip", "dict_itemiterator", "dict_reverseitemiterator", "odict_iterator", "itertools.zip_longest", "itertools.pairwise"].contains T = false)
  (hl : items.length ≤ lim) (k : Nat) : Iter cx A F₀ s₀ items s.heap.objs.size F { s with heap := s.heap.push o,toks := k } fp [s.heap.objs.size] P St := by
 have stp := Step.push ok st.wd o k
 have fr := zaE s.heap
 refine ⟨st.trans stp,W,s0,fun b hb => ?_,fun b hb => by simpa using hb,fun b hb => (deps b hb).imp (fun e => by simp [e]) id,fun i v h => ?_,ty,hl⟩
 ·have e : b = s.heap.objs.size := by simpa using hb
  subst e
  exact ⟨st.fresh (st.wd.newNotX fr) fr,st.wd.newNotF fr⟩
 ·obtain ⟨d,e,r⟩ := item i v h
  exact ⟨d,e,stp.rep st.wd r⟩
theorem zkM {A : Around} (hh : A.handled = none) {F₀ F : AP} {s₀ s : Shared} (ok : CxOk cx) (w₀ : Wd cx F₀ s₀) (st : Step cx F₀ s₀ F s) {v : Value} {d : D} (q : Rep cx.T F s.heap v d) {items : List D} (hi : itemsOf d = some items)
  {Q E : VP} (hQ : ∀ I F' s' fp wr P St,Iter cx A F₀ s₀ items I F' s' fp wr P St → Q (.ref I) s') : wpAny (model cx.prog cx.w) A (pyIter v) Q E s := by
 cases q with
 | @list a vs n l f g z q =>
  cases hi
  have hne : a ≠ s.heap.objs.size := Nat.ne_of_lt (Heap.lt_size g)
  have el : items.length = vs.toArray.size := by rw [List.size_toArray]; exact q.length.symm
  refine wpAny_pyIter_list (zaN g) (hQ _ F _ [s.heap.objs.size,a] [s.heap.objs.size] (fun i v => vs.toArray[i]? = some v) (fun i h => h.IsListIter s.heap.objs.size a i ∧ h.IsList a vs.toArray) ?_)
  refine zcz (P := fun i v => vs.toArray[i]? = some v) ok w₀ st (fun A' hh => el ▸ Walks.list hh _ a hne vs.toArray) ⟨⟨_,Heap.get?_push_size _ rfl,rfl,rfl⟩,(zaN g).push _⟩ (fun b hb => ?_) (fun i v h => ?_) (fun i h hs => ?_) (by rw [← q.length]; exact z) s.toks
  ·simp only [List.mem_cons,List.not_mem_nil,or_false] at hb
   rcases hb with rfl | rfl
   ·exact .inl rfl
   ·exact .inr f
  ·rw [List.getElem?_toArray] at h
   exact q.getV h
  ·obtain ⟨⟨o,g,c,_⟩,_⟩ := hs
   exact ⟨o,_,g,c,by decide⟩
 | @tup a vs n l f g z q =>
  cases hi
  have hne : a ≠ s.heap.objs.size := Nat.ne_of_lt (Heap.lt_size g)
  have el : items.length = vs.toArray.size := by rw [List.size_toArray]; exact q.length.symm
  have ht : s.heap.IsTuple a vs.toArray := ⟨_,g,rfl,n,rfl⟩
  refine wpAny_pyIter_tuple ht (hQ _ F _ [s.heap.objs.size,a] [s.heap.objs.size] (fun i v => vs.toArray[i]? = some v) (fun i h => h.IsTupleIter s.heap.objs.size a i ∧ h.IsTuple a vs.toArray) ?_)
  refine zcz (P := fun i v => vs.toArray[i]? = some v) ok w₀ st (fun A' hh => el ▸ Walks.tuple hh _ a hne vs.toArray) ⟨⟨_,Heap.get?_push_size _ rfl,rfl,rfl⟩,ht.push _⟩ (fun b hb => ?_) (fun i v h => ?_) (fun i h hs => ?_) (by rw [← q.length]; exact z) s.toks
  ·simp only [List.mem_cons,List.not_mem_nil,or_false] at hb
   rcases hb with rfl | rfl
   ·exact .inl rfl
   ·exact .inr f
  ·rw [List.getElem?_toArray] at h
   exact q.getV h
  ·obtain ⟨⟨o,g,c,_⟩,_⟩ := hs
   exact ⟨o,_,g,c,by decide⟩
 | @str l t p z =>
  (injection hi with hi; subst hi)
  have el : (l.map fun c => D.str [c]).length = (PySem.Str.mk l.toArray).cps.size := by simp
  have item : ∀ i v,SignAt ⟨l.toArray⟩ i v → ∃ d,(l.map fun c => D.str [c])[i]? = some d ∧ Rep cx.T F s.heap v d := by
   rintro i v ⟨c,u,e,rfl⟩
   rw [show (PySem.Str.mk l.toArray).cps = l.toArray from rfl,List.getElem?_toArray] at e
   refine ⟨.str [c],by rw [List.getElem?_map,e]; rfl,.str (l := [c]) u (fun c' h => ?_) (by simp [lim])⟩
   simp only [List.mem_cons,List.not_mem_nil,or_false] at h
   subst h
   exact p _ (List.mem_of_getElem? e)
  have hz : (l.map fun c => D.str [c]).length ≤ lim := by simpa using z
  have deps : ∀ b ∈ [s.heap.objs.size],b = s.heap.objs.size ∨ F b := fun b hb => .inl (by simpa using hb)
  cases ha : (PySem.Str.mk l.toArray).cps.all (· < 128)
  ·refine wpAny_pyIter_wide ha (hQ _ F _ _ _ _ _ (zcz ok w₀ st (fun A' hh => el ▸ Walks.strWide hh _ ⟨l.toArray⟩ t) ⟨_,Heap.get?_push_size _ rfl,rfl,rfl⟩ deps item (fun i h hs => ?_) hz s.toks))
   obtain ⟨o,g,c,_⟩ := hs
   exact ⟨o,_,g,c,by decide⟩
  ·refine wpAny_pyIter_ascii ha (hQ _ F _ _ _ _ _ (zcz ok w₀ st (fun A' hh => el ▸ Walks.strAscii hh _ ⟨l.toArray⟩ t) ⟨_,Heap.get?_push_size _ rfl,rfl,rfl⟩ deps item (fun i h hs => ?_) hz s.toks))
   obtain ⟨o,g,c,_⟩ := hs
   exact ⟨o,_,g,c,by decide⟩
 | _ => injection hi
theorem zay {e : Expr} {x : X} (h : Sound cx ε e x) : SoundI cx ε e (.seqI x) := by
 intro n cf A env F s ρ ad m cm H items hi Q E hQ
 obtain ⟨r,d,e1,e2,e3⟩ := evI_seq hi
 refine h.ev n cf A env F s ρ ad m cm H r e1 _ _ fun v F' s' st q => ?_
 obtain ⟨F'',st',_,q'⟩ := st.fz H.ok H.wd q e2
 exact zkM H.bud.hd H.ok H.wd st' q' e3 hQ
theorem zh5 {A : Around} (hh : A.handled = none) {F₀ F : AP} {s₀ s : Shared} (ok : CxOk cx) (w₀ : Wd cx F₀ s₀) (st : Step cx F₀ s₀ F s) {r : Addr} {a b c : Int} {t u v : Tok} (hr : IsRange s.heap r a b c t u v) (hs : Builtin.Range.small a b c = true)
  {k : Nat} (hk : Builtin.Range.rangeSize a b c = (k : Int)) (hl : k ≤ lim)
  {Q E : VP} (hQ : ∀ I F' s' fp wr P St,Iter cx A F₀ s₀ ((upTo k a c).map .int) I F' s' fp wr P St → Q (.ref I) s') : wpAny (model cx.prog cx.w) A (pyIter (.ref r)) Q E s := by
 have el : ((upTo k a c).map D.int).length = k := by simp [upTo]
 let P : Nat → Value → Prop := fun i v => i < k ∧ ∃ t,v = .int (a + i * c) t
 have W : ∀ A' : Around,A'.handled = none → Walks cx.prog cx.w A' s.heap.objs.size [s.heap.objs.size] [s.heap.objs.size] k P (fun i h => IsRangeIter h s.heap.objs.size (a + (i : Nat) * c) ((k : Int) - (i : Nat)) c) := fun A' hh => (Walks.range hh _ a c k).bound
 refine wpAny_pyIter_range hr hs (hQ _ F _ _ _ _ _ (zcz (P := P) ok w₀ st (by rw [el]; exact W) ?_ (fun b hb => .inl (by simpa using hb)) ?_ (fun i h hs => ⟨_,_,hs,rfl,by decide⟩) (by rw [el]; exact hl) s.toks))
 ·have := Heap.get?_push_size s.heap (o := { cls := .type "range_iterator",data := .fields #[rawInt a,rawInt (Builtin.Range.rangeSize a b c),rawInt c] }) rfl
  show IsRangeIter _ _ _ _ _
  rw [hk] at this
  simpa [IsRangeIter,hk] using this
 ·rintro i v ⟨hi,t,rfl⟩
  refine ⟨.int (a + i * c), ?_,.int _ t⟩
  rw [List.getElem?_map]
  unfold upTo
  rw [List.getElem?_map,List.getElem?_range hi]
  simp [Int.mul_comm]
theorem zbS {i : Int} (h : small i = true) : -1000000000 ≤ i ∧ i ≤ 1000000000 := by
 unfold small at h
 simpa using h
theorem zds {z : Int} (h : z ≤ 1000000) : z.toNat ≤ lim := by unfold lim; omega
theorem zg7 (a b : Int) : (if a < b then b - a else 0) = ((b - a).toNat : Int) := by split <;> omega
theorem lo62 {i : Int} (h : -1000000000 ≤ i) : -(2 ^ 62) ≤ i := Int.le_trans (by decide) h
theorem hi62 {i : Int} (h : i ≤ 1000000000) : i < 2 ^ 62 := Int.lt_of_le_of_lt h (by decide)
inductive RangeI : List D → List D → Prop
 | one {i : Int} : -1000000000 ≤ i → i ≤ 1000000000 → i ≤ 1000000 → RangeI [.int i] (rangeL 0 i)
 | two {a i : Int} : -1000000000 ≤ a → a ≤ 1000000000 → -1000000000 ≤ i → i ≤ 1000000000 → i - a ≤ 1000000 → RangeI [.int a,.int i] (rangeL a i)
 | down {a i : Int} : -1000000000 ≤ a → a ≤ 1000000000 → -1000000000 ≤ i → i ≤ 1000000000 → a - i ≤ 1000000 → RangeI [.int a,.int i,.int (-1)] (rangeDown a i)
theorem ziK {ds l : List D} (hl : opRange ds = some l) : RangeI ds l := by
 rcases ds with _ | ⟨a0,t⟩
 ·injection hl
 cases a0 <;> try (injection hl; done)
 rename_i a
 rcases t with _ | ⟨a1,t⟩
 ·rename Int => i
  replace hl : (if (small i && decide (i ≤ 1000000)) = true then some (rangeL 0 i) else none) = some l := hl
  split at hl
  ·rename_i hi
   (injection hl with hl; subst hl)
   obtain ⟨h1,h2⟩ := Bool.and_eq_true _ _ ▸ hi
   obtain ⟨h3,h4⟩ := zbS h1
   exact .one h3 h4 (of_decide_eq_true h2)
  ·injection hl
 cases a1 <;> try (injection hl; done)
 rename_i i
 rcases t with _ | ⟨a2,t⟩
 ·replace hl : (if (small a && small i && decide (i - a ≤ 1000000)) = true then some (rangeL a i) else none) = some l := hl
  split at hl
  ·rename_i hi
   (injection hl with hl; subst hl)
   obtain ⟨h12,h5⟩ := Bool.and_eq_true _ _ ▸ hi
   obtain ⟨h1,h2⟩ := Bool.and_eq_true _ _ ▸ h12
   obtain ⟨h3,h4⟩ := zbS h1
   obtain ⟨h6,h7⟩ := zbS h2
   exact .two h3 h4 h6 h7 (of_decide_eq_true h5)
  ·injection hl
 cases a2 <;> try (injection hl; done)
 rename_i c
 rcases t with _ | ⟨a3,t⟩ <;> try (injection hl; done)
 replace hl : (if c = -1 ∧ small a ∧ small i ∧ a - i ≤ 1000000 then some (rangeDown a i) else none) = some l := hl
 split at hl
 ·rename_i hi
  (injection hl with hl; subst hl)
  obtain ⟨rfl,h1,h2,h5⟩ := hi
  obtain ⟨h3,h4⟩ := zbS h1
  obtain ⟨h6,h7⟩ := zbS h2
  exact .down h3 h4 h6 h7 h5
 ·injection hl
theorem zez {A : Around} {F₀ F : AP} {s₀ s : Shared} (ok : CxOk cx) (st : Step cx F₀ s₀ F s) {vs : List Value} {ds : List D} (q : BRepL cx F s.heap vs ds) {l : List D} (hl : opRange ds = some l)
  {Q E : VP} (hQ : ∀ (r : Addr) (a b c : Int) (t u v : Tok) (k : Nat) (s' : Shared),Step cx F₀ s₀ F s' → IsRange s'.heap r a b c t u v → Builtin.Range.small a b c = true → Builtin.Range.rangeSize a b c = (k : Int) → k ≤ lim → l = (upTo k a c).map .int → Q (.ref r) s') :
  wpAny (model cx.prog cx.w) A (call (.type "range") vs) Q E s := by
 cases ziK hl with
 | @one i h3 h4 h2 =>
  obtain ⟨v,rfl,q1⟩ := q.one
  obtain ⟨t,rfl⟩ := q1.int_inv
  exact call_range_1 (hQ _ 0 i 1 _ _ _ (i - 0).toNat _ (st.trans (Step.push ok st.wd ({ cls := .type "range",data := .fields #[.int 0 s.toks,.int i t,.int 1 (s.toks + 1)] } : Obj) (s.toks + 1 + 1))) (IsRange.new s.heap 0 i 1 _ _ _) (small_one (by decide) (by decide) (lo62 h3) (hi62 h4)) (by rw [rangeSize_one,zg7]) (zds (by rw [Int.sub_zero]; exact h2)) rfl)
 | @two a i h3 h4 h6 h7 h5 =>
  obtain ⟨v,v',rfl,q1,q2⟩ := q.two
  obtain ⟨t,rfl⟩ := q1.int_inv
  obtain ⟨u,rfl⟩ := q2.int_inv
  exact call_range_2 (hQ _ a i 1 _ _ _ (i - a).toNat _ (st.trans (Step.push ok st.wd ({ cls := .type "range",data := .fields #[.int a t,.int i u,.int 1 s.toks] } : Obj) (s.toks + 1))) (IsRange.new s.heap a i 1 _ _ _) (small_one (lo62 h3) (hi62 h4) (lo62 h6) (hi62 h7)) (by rw [rangeSize_one,zg7]) (zds h5) rfl)
 | @down a i h3 h4 h6 h7 h5 =>
  cases q with
  | cons q1 q => cases q with | cons q2 q => cases q with | cons q3 q =>
  cases q
  obtain ⟨t,rfl⟩ := q1.int_inv
  obtain ⟨u,rfl⟩ := q2.int_inv
  obtain ⟨x,rfl⟩ := q3.int_inv
  exact call_range_3 (by decide) (hQ _ a i (-1) _ _ _ (a - i).toNat _ (st.trans (Step.push ok st.wd ({ cls := .type "range",data := .fields #[.int a t,.int i u,.int (-1) x] } : Obj) s.toks)) (IsRange.new s.heap a i (-1) _ _ _) (PySem.W.small_down (lo62 h3) (hi62 h4) (lo62 h6) (hi62 h7)) (PySem.W.rangeSize_downNat a i) (zds h5) rfl) (Or.inl (PyProof.noPylong_small (by decide)))
theorem zij {A : Around} {n : Nat} (hb : BudE n A) {F₀ F : AP} {s₀ s : Shared} (ok : CxOk cx) (w₀ : Wd cx F₀ s₀) (st : Step cx F₀ s₀ F s) {vs : List Value} {ds : List D} (q : BRepL cx F s.heap vs ds) {l : List D} (hl : opRange ds = some l)
  {Q E : VP} (hQ : ∀ I F' s' fp wr P St,Iter cx A F₀ s₀ l I F' s' fp wr P St → Q (.ref I) s') :
  wpAny (model cx.prog cx.w) A (call (.type "range") vs) (fun v s₁ => wpAny (model cx.prog cx.w) A (pyIter v) Q E s₁) E s :=
 zez ok st q hl fun r a b c t u v k s' st' hr hs hk hl' e => zh5 hb.hd ok w₀ st' hr hs hk hl' (e ▸ hQ)
theorem zjI {cf : CfT} {x : X} {ρ : List Slot} {items : List D} (h : evI cf (.rangeI x) ρ = some items) : ∃ rs,ev cf x ρ = some rs ∧ opRange (rs.map R.ds) = some items := by
 unfold evI at h
 split at h
 ·rename_i l e
  cases h
  replace e := (zcP _).symm.trans e
  split at e
  ·rename_i rs e1
   obtain ⟨l',e3,e4⟩ := Option.map_eq_some_iff.mp e
   cases e4
   exact ⟨rs,e1,e3⟩
  ·injection e
 ·injection h
theorem zbm {p pos : Pos} {es : List Expr} {x : X} (hk : ε.kinds.lookup ("range" : Str) = some .globalImplicit) (hg : cx.mg ("range" : Str) = none) (h : SoundL cx ε es x false) : SoundI cx ε (.Call (.Name "range" p) es [] pos) (.rangeI x) := by
 intro n cf A env F s ρ ad m cm H items hi Q E hQ
 obtain ⟨rs,e1,e2⟩ := zjI hi
 rw [zaw (by intro _ _ _ e; injection e)]
 refine wb (zaL H hk hg (by decide) (v := .type "range") (by rfl) (by decide) ?_)
 refine PyProof.Rows.callWith_type (zaM h) (zaO h H e1 fun vs F' s' st q => ?_)
 exact zij H.bud H.ok H.wd st q.brep e2 hQ
end
section
variable {cx : XCx} {ε : Sc} {n : Nat} {cf : CfT} {A : Around} {env : Env} {F F₀ F' : AP} {s s₀ s' : Shared} {ρ ρ' : List Slot} {ad ad' : NAd} {m cm m' cm' : SV}
theorem SlotRep.own_inv {h : Heap} {i : Nat} {ov : Option Value} {l : List D} (hd : dSlot i = false) (q : SlotRep cx F h ad i ov (.own l)) : ov = some (.ref (ad i)) ∧ ∃ vs k,h.get? (ad i) = some (lobj vs.toArray k) ∧ vs.length ≤ lim ∧ RepL cx.T F h vs l := by
 cases q with
 | own _ _ g z q => exact ⟨rfl,_,_,g,z,q⟩
 | dic _ _ _ _ _ _ hd' => rw [hd] at hd'; injection hd'
inductive OwnNow (cx : XCx) (F : AP) (h : Heap) (a : Addr) (l : List D) : Prop
 | mk (vs : List Value) (k : Nat) (g : h.get? a = some (lobj vs.toArray k)) (z : vs.length ≤ lim) (q : RepL cx.T F h vs l)
theorem zb9 (H : HereS cx ε n cf A env F s ρ ad m cm) {x : Str} {i : Nat} (hx : ε.vars.lookup x = some i) {l : List D} (hi : ownAt ρ i = some l) : OwnNow cx F s.heap (ad i) l := by
 have hs := (zbT hi).1
 rcases H.frm.en.vars x i hx with ⟨_,q⟩ | ⟨_,_,q⟩ <;> rw [hs] at q <;> exact (let ⟨vs,k,g,z,q⟩ := (q.own_inv (zbT hi).2.2).2; ⟨vs,k,g,z,q⟩)
theorem zcy (H : HereS cx ε n cf A env F s ρ ad m cm) {x : Str} {i : Nat} {p : Pos} (hx : ε.vars.lookup x = some i) (hn : (x == ("__classdict__" : Str)) = false) (hd : (x == ("__debug__" : Str)) = false) {l : List D} (hi : ownAt ρ i = some l)
  {Q E : VP} (h : Q (.ref (ad i)) s) : wpAny (model cx.prog cx.w) A (eval (.Name x p) env) Q E s := by
 have hs := (zbT hi).1
 refine wpAny_Name (zdm H.here hx hn (fun v q => ?_) (by rw [hs]; intro e; injection e)) hd
 rw [hs] at q
 (injection (q.own_inv (zbT hi).2.2).1 with q; subst q)
 exact h
theorem zhZ (H₀ : HereS cx ε n cf A env F₀ s₀ ρ ad m cm) (st : Step cx F₀ s₀ F s) {i : Nat} {l : List D} (hs : slotAt ρ i = .own l) {h' : Heap} (sb : Heap.SameBut (ad i) s.heap h') {l' : List D} (is : ∃ o,h'.get? (ad i) = some o)
  (key : (∀ a o,F a → s.heap.get? a = some o → h'.get? a = some o) → ∀ ov,SlotRep cx F s.heap ad i ov (.own l) → SlotRep cx F h' ad i ov (.own l')) (k : Nat) :
  StepS cx env F₀ s₀ ρ ad F { s with heap := h',toks := k } (ρ.set i (.own l')) ad ∧ Frm cx ε env F { s with heap := h',toks := k } (ρ.set i (.own l')) ad m cm := by
 have H := H₀.step st
 have f := H.frm
 have hb : Mut env ρ ad (ad i) := .inr (.inr ⟨i,l,hs,rfl⟩)
 obtain ⟨nf,nx,_,nl,nc⟩ := f.own i l hs
 obtain ⟨w',keep⟩ := zgC H hb sb k
 refine ⟨zdF H₀ st hb sb k (fun _ _ => .inl hb) (fun _ _ => rfl),Frm.put H hb sb k (f.en.ns.sameBut sb (Ne.symm nl)) (fun n c hc => ?_) (fun _ _ _ _ => ⟨rfl,rfl⟩) (fun y hy => ?_) (fun _ _ => rfl) (.inl rfl) (fun j l2 hj hne e => hne (f.oinj j i _ _ hj hs e)) (fun _ _ => ?_)⟩
 ·obtain ⟨o,g,d⟩ := f.en.cells n c hc
  exact ⟨o,(sb.2 c fun e => nc n (e ▸ hc)).trans g,d⟩
 ·refine ⟨fun hk => ?_,fun hk => ?_⟩
  ·rcases f.en.vars y i hy with ⟨_,q⟩ | ⟨e,_⟩
   ·exact key keep _ (hs ▸ q)
   ·rw [hk] at e; rcases e with e | e <;> (injection e with e; injection e)
  ·rcases f.en.vars y i hy with ⟨e,_⟩ | ⟨_,_,q⟩
   ·exact absurd e hk
   ·exact key keep _ (hs ▸ q)
 ·exact ⟨nf,nx,is,nl,nc,fun j l2 hj hs2 e => hj (f.oinj j i _ _ hs2 hs e)⟩
theorem zbi (H₀ : HereS cx ε n cf A env F₀ s₀ ρ ad m cm) (st : Step cx F₀ s₀ F s) {i : Nat} {l : List D} (hi : ownAt ρ i = some l) {h' : Heap} (sb : Heap.SameBut (ad i) s.heap h') {vs' : List Value} {k' : Nat} {l' : List D}
  (hl' : h'.get? (ad i) = some (lobj vs'.toArray k')) (z : vs'.length ≤ lim) (q' : RepL cx.T F s.heap vs' l') (k : Nat) :
  StepS cx env F₀ s₀ ρ ad F { s with heap := h',toks := k } (ρ.set i (.own l')) ad ∧ Frm cx ε env F { s with heap := h',toks := k } (ρ.set i (.own l')) ad m cm := by
 obtain ⟨hs,_,hd⟩ := zbT hi
 obtain ⟨nf,nx,_,_,_⟩ := (H₀.step st).frm.own i l hs
 refine zhZ H₀ st hs sb ⟨_,hl'⟩ (fun keep ov q => ?_) k
 rw [(q.own_inv hd).1]
 exact .own nf nx hl' z (q'.mono (fun _ h => h) keep) hd
theorem zcp {h : Heap} {a : Addr} {vs : List Value} {k : Nat} (g : h.get? a = some (lobj vs.toArray k)) (f : Array Value → Array Value) (ws : List Value) (hf : f vs.toArray = ws.toArray) :
  ∃ k',(h.update a (Obj.mapSeq f)).get? a = some (lobj ws.toArray k') := by
 have := IsL.update (n := k) (items := vs.toArray) (show IsL h a vs.toArray k from g) f
 rw [hf] at this
 exact ⟨_,this⟩
theorem zfU (vs : List Value) (j : Nat) : vs.toArray.eraseIdxIfInBounds j = (vs.eraseIdx j).toArray := by
 unfold Array.eraseIdxIfInBounds
 split
 ·rw [List.eraseIdx_toArray]
 ·rename_i h
  rw [List.size_toArray] at h
  rw [List.eraseIdx_of_length_le (by omega)]
theorem exprS {e : Expr} {pos : Pos} {Q : Flow → Shared → Prop} {E : VP} (hi : env.scope.kind = .function) (hs : swapsWith e none pos.line env = pure false)
  (h : wpAny (model cx.prog cx.w) A (eval e env) (fun v s' => (∀ a,v ≠ .ref a) ∧ Q .next s') E s) : wpAny (model cx.prog cx.w) A (exec (.Expr e pos) env) Q E s := by
 refine wpAny_Expr (wpAny_mono h (fun v s' h' => ?_) fun _ _ e => e) ?_ hs
 ·cases v <;> first | exact h'.2 | exact absurd rfl (h'.1 _)
 ·unfold interactive; rw [hi]; rfl
end
section
variable {cx : XCx} {ε : Sc}
theorem zhA {cf : CfT} {y : X} {ρ : List Slot} {r : R} (h : ev cf y ρ = some [r]) : ev cf (.cons y .nil) ρ = some [r] := by
 rw [zdo,h]; rfl
theorem arg1 {n cf A env F s ρ ad m cm} (H : Here cx ε n cf A env F s ρ ad m cm) {e : Expr} {y : X} {pos : Pos} {f : Value} (h : Sound cx ε e y) (hst : starred e = false) {d : D} (hd : ev1 cf y ρ = some d) {Q : Args → Shared → Prop} {E : VP}
  (hQ : ∀ v F' s',Step cx F s F' s' → Rep cx.T F' s'.heap v d → Q ⟨[v],[]⟩ s') : wpAny (model cx.prog cx.w) A (evalArgs f true (backTo pos (starEach [e] env)) []) Q E s := by
 obtain ⟨r,e1,e2⟩ := zgN hd
 refine zaO (SoundL.cons h hst .nil) H (zhA e1) fun vs F' s' st q => ?_
 obtain ⟨F'',st',_,q'⟩ := zfO H.ok H.wd st (fun _ h => h) q (ds := [d]) (by unfold fzAll; rw [e2]; rfl)
 cases q' with
 | cons a b => cases b; exact hQ _ F'' s' st' a
theorem zbe {x : Str} {i : Nat} {e : Expr} {y : X} {p apos pos pos' : Pos} (hx : ε.vars.lookup x = some i) (hn : (x == ("__classdict__" : Str)) = false) (hd : (x == ("__debug__" : Str)) = false) (hl : (apos.endLine == pos.line) = true)
  (h : Sound cx ε e y) (hst : starred e = false) : SoundS cx ε (.Expr (.Call (.Attribute (.Name x p) "append" apos) [e] [] pos) pos') (.append i y) := by
 intro n cf A env F s ρ ad m cm H ρ' o he Q E hQ
 replace he := (zeH cf).symm.trans he
 split at he
 ·rename_i d l e1 e2
  split at he
  ·rename_i hz
   (injection he with he; injection he with he z; subst he z)
   refine exprS H.frm.en.kind rfl ?_
   refine zbD rfl hl (by simp) (by rw [zaM (SoundL.cons h hst .nil)]) ?_
   refine zcy H hx hn hd e2 ?_
   obtain ⟨vs,k,g,_,_⟩ := zb9 H hx e2
   refine Calls.getMethod_list_append g rfl rfl ?_
   refine Calls.callWith_builtin (zaM (SoundL.cons h hst .nil)) (arg1 H.here h hst e1 fun v F' s' st q => ?_)
   obtain ⟨vs,k,g,z,qs⟩ := zb9 (H.step st) hx e2
   show wpAny _ _ (call (.builtin "list.append") [.ref (ad i),v]) _ _ s'
   have hlen : vs.length = l.length := qs.length
   refine call_meets PySem.F.slot_list_append ⟨_,g,rfl⟩ PySem.F.entry_list_append (PySem.F.args_list_append_2 _ _) (list_append (ad i) vs.toArray k v (by rw [List.size_toArray]; exact zaC z)) ⟨g, ?_⟩
   refine ⟨(fun a e => nomatch e), ?_⟩
   obtain ⟨k',g'⟩ := zcp g (fun x => x.push v) (vs ++ [v]) (by simp)
   obtain ⟨x1,f1⟩ := zbi H st e2 (Heap.SameBut.update ..) g' (by simp; omega) (qs.append (.cons q .nil)) s'.toks
   exact hQ .next F' _ ad m cm x1 f1 .next
  ·injection he
 ·injection he
theorem zhP {x : Str} {i : Nat} {p apos pos pos' : Pos} (hx : ε.vars.lookup x = some i) (hn : (x == ("__classdict__" : Str)) = false) (hd : (x == ("__debug__" : Str)) = false) (hl : (apos.endLine == pos.line) = true) :
  SoundS cx ε (.Expr (.Call (.Attribute (.Name x p) "pop" apos) [] [] pos) pos') (.pop i) := by
 intro n cf A env F s ρ ad m cm H ρ' o he Q E hQ
 replace he := (exq_pop cf).symm.trans he
 split at he
 ·rename_i l e2
  split at he
  ·rename_i y e1
   (injection he with he; injection he with he z; subst he z)
   refine exprS H.frm.en.kind rfl ?_
   refine zbD rfl hl (by simp) (zaM (ε := ε) (cx := cx) .nil) ?_
   refine zcy H hx hn hd e2 ?_
   obtain ⟨vs,k,g,z,qs⟩ := zb9 H hx e2
   refine getMethod_builtin (T := "list") ⟨_,g,rfl⟩ PySem.F.plainAttrs_list PySem.F.slot_list_pop PySem.F.type_list_pop (fun a e => ⟨_,by cases e; exact g,rfl⟩) ?_
   refine Calls.callWith_builtin (zaM (ε := ε) (cx := cx) .nil) (PySem.evalArgs_none ?_)
   show wpAny _ _ (call (.builtin "list.pop") [.ref (ad i)]) _ _ s
   have hlen : vs.length = l.length := qs.length
   rw [List.getLast?_eq_getElem?] at e1
   obtain ⟨v,hv,rv⟩ := qs.get e1
   cases rv with
   | str t pp zz =>
   refine call_meets PySem.F.slot_list_pop ⟨_,g,rfl⟩ PySem.F.entry_list_pop (PySem.F.args_list_pop_1 _) (MeetsSeq.list_pop_last (ad i) vs.toArray k _ (by rw [List.size_toArray,List.getElem?_toArray,hlen]; exact hv) (by rw [List.size_toArray]; exact zaC z)) ⟨g, ?_⟩
   refine ⟨(fun a e => nomatch e), ?_⟩
   obtain ⟨k',g'⟩ := zcp g (fun xs => xs.eraseIdxIfInBounds (vs.toArray.size - 1)) vs.dropLast (by
    show vs.toArray.eraseIdxIfInBounds (vs.toArray.size - 1) = _
    rw [zfU,List.size_toArray,List.eraseIdx_length_sub_one])
   obtain ⟨x1,f1⟩ := zbi H (Step.refl H.wd) e2 (Heap.SameBut.update ..) g' (by simp; omega) qs.dropLast s.toks
   exact hQ .next F _ ad m cm x1 f1 .next
  ·injection he
 ·injection he
theorem ziN {i : Int} {n p : Nat} (h : place i n = some p) : seqIndex? i n = some p ∧ p < n := by
 unfold place at h
 unfold seqIndex?
 split at h
 ·split at h
  ·(injection h with h; subst h)
   rename_i h1 h2
   have : ¬ i < 0 := by omega
   simp [this,h1,h2]
   skip
  ·injection h
 ·split at h
  ·(injection h with h; subst h)
   rename_i h1 h2
   have : i < 0 := by omega
   simp [this,h2]
   omega
  ·injection h
theorem zhS {i : Int} (h : small i = true) : Builtin.List.listFitsIndex i = true := by
 obtain ⟨h1,h2⟩ := zbS h
 unfold Builtin.List.listFitsIndex
 simp only [Bool.and_eq_true,decide_eq_true_eq]
 omega
theorem zea {x : Str} {i : Nat} {ek e : Expr} {k y : X} {p pos pos' : Pos} (hx : ε.vars.lookup x = some i) (hn : (x == ("__classdict__" : Str)) = false) (hd : (x == ("__debug__" : Str)) = false)
  (hk : Sound cx ε ek k) (h : Sound cx ε e y) (hs : ∀ env,swapsWith e (some (.Subscript (.Name x p) ek pos')) pos.line env = pure false) : SoundS cx ε (.Assign [.Subscript (.Name x p) ek pos'] e pos) (.setItem i k y) := by
 intro n cf A env F s ρ ad m cm H ρ' o he Q E hQ
 replace he := (zgI cf).symm.trans he
 split at he
 ·rename_i d j l e1 e2 e3
  split at he
  ·rename_i hsm
   split at he
   ·rename_i pl hp
    (injection he with he; injection he with he z; subst he z)
    refine wpAny_Assign_Subscript (zbN H h e1 fun v F1 s1 st1 q => ?_) (hs env)
    have H1 := H.step st1
    refine zcy H1 hx hn hd e3 ?_
    refine zbN H1 hk e2 fun kv F2 s2 st2 qk => ?_
    have H2 := H1.step st2
    obtain ⟨vs,kk,g,z,qs⟩ := zb9 H2 hx e3
    have q2 := st2.rep st1.wd q
    cases qk with
    | int _ t =>
    have hlen : vs.length = l.length := qs.length
    obtain ⟨h1,h2⟩ := ziN hp
    refine zgq (zaN g) g (zhS hsm) (by rw [List.size_toArray,hlen]; exact h1) (by rw [List.size_toArray,hlen]; exact h2) ?_
    obtain ⟨k',g'⟩ := zcp g (fun xs => xs.setIfInBounds pl v) (vs.set pl v) (by simp)
    obtain ⟨x1,f1⟩ := zbi H (st1.trans st2) e3 (Heap.SameBut.update ..) g' (by simp; omega) (qs.set pl q2) s2.toks
    exact hQ .next F2 _ ad m cm x1 f1 .next
   ·injection he
  ·injection he
 ·injection he
theorem zeb {x : Str} {i : Nat} {ek : Expr} {k : X} {p pos pos' : Pos} (hx : ε.vars.lookup x = some i) (hn : (x == ("__classdict__" : Str)) = false) (hd : (x == ("__debug__" : Str)) = false)
  (hk : Sound cx ε ek k) : SoundS cx ε (.Delete [.Subscript (.Name x p) ek pos'] pos) (.delItem i k) := by
 intro n cf A env F s ρ ad m cm H ρ' o he Q E hQ
 replace he := (zgJ cf).symm.trans he
 split at he
 ·rename_i j l e2 e3
  split at he
  ·rename_i hp
   (injection he with he; injection he with he z; subst he z)
   refine wpAny_Delete (wpAny_deleteEach_cons ?_)
   show wpAny _ _ (do
    let ov ← eval (.Name x p) env
    let iv ← holding [ov] (eval ek env)
    standAt pos'
    holding [ov,iv] (delItem ov iv)
    release [ov,iv] []) _ _ s
   refine wb (zcy H hx hn hd e3 ?_)
   refine wb (wpAny_holding (zbN H hk e2 fun kv F2 s2 st2 qk => ?_))
   have H2 := H.step st2
   obtain ⟨vs,kk,g,z,qs⟩ := zb9 H2 hx e3
   cases qk with
   | int _ t =>
   have hlen : vs.length = l.length := qs.length
   have hle : vs.length ≤ lim := z
   refine wb (wpAny_standAt (wb (wpAny_holding ?_)))
   refine P.delItem_list (n := kk) (k := j.toNat) g (by unfold Builtin.List.listFitsIndex; simp only [Bool.and_eq_true,decide_eq_true_eq]; unfold lim at hle; omega) (by
    rw [List.size_toArray,hlen]
    unfold seqIndex?
    have h0 : ¬ j < 0 := by omega
    simp only [if_neg h0]
    rw [if_pos (by simp only [Bool.and_eq_true,decide_eq_true_eq]; exact hp)]) ?_ (by rw [List.size_toArray]; exact zaC z)
   obtain ⟨k',g'⟩ := zcp g (fun xs => xs.eraseIdxIfInBounds j.toNat) (vs.eraseIdx j.toNat) (zfU _ _)
   obtain ⟨x1,f1⟩ := zbi H st2 e3 (Heap.SameBut.update ..) g' (Nat.le_trans (List.length_eraseIdx_le ..) z) (qs.eraseIdx j.toNat) s2.toks
   exact wpAny_release (wpAny_deleteEach_nil (hQ .next F2 _ ad m cm x1 f1 .next))
  ·injection he
 ·injection he
end
section
variable {cx : XCx} {ε : Sc}
theorem zfy {x y : Str} {i j : Nat} {p p' apos pos : Pos} (hx : ε.vars.lookup x = some i) (hf : ε.kinds.lookup x ≠ some .free) (hy : ε.vars.lookup y = some j) (hn : (y == ("__classdict__" : Str)) = false) (hd : (y == ("__debug__" : Str)) = false) :
  SoundS cx ε (.Assign [.Name x p'] (.Attribute (.Name y p) "append" apos) pos) (.alias i j) := by
 intro n cf A env F s ρ ad m cm H ρ' o he Q E hQ
 replace he := (zjE cf).symm.trans he
 split at he
 ·rename_i l e1
  (injection he with he; injection he with he z; subst he z)
  refine wpAny_Assign_Name ?_ rfl
  rw [arm_eval_Attribute]
  show wpAny _ _ (do
   let o ← attributeBase (.Name y p) "append" env (eval (.Name y p) env)
   standAt apos.atName
   let r ← holding [o] (getAttr o "append" true)
   letTemporaryGo (.Name y p) o r
   pure r) _ _ _
  rw [zcZ rfl]
  refine wb (zcy H hy hn hd e1 ?_)
  obtain ⟨vs,k,g,z,qs⟩ := zb9 H hy e1
  refine wb (wpAny_standAt (wb (wpAny_holding (zej g ?_))))
  refine wb (wpAny_pure (wpAny_pure ?_))
  have st := Step.push H.ok H.wd (appObj (ad j)) (s.toks + 1)
  have g' : (s.heap.push (appObj (ad j))).get? s.heap.objs.size = some (appObj (ad j)) := Heap.get?_push_size _ rfl
  have st' := st.freeze H.ok H.wd (zaE _) g'
  refine zdx H st' hx hf (sl := .app j) (ad' := ad) (fun _ _ => rfl) (.inl rfl) (fun h' hk => .app (.inr rfl) (hk _ _ (.inl (.inr rfl)) g') rfl) (fun _ e => nomatch e) fun s'' m' cm' x f => hQ .next _ s'' ad m' cm' x f .next
 ·injection he
theorem zaI {x y : Str} {i j : Nat} {e : Expr} {z : X} {p pos pos' : Pos} (hx : ε.vars.lookup x = some i) (hy : ε.vars.lookup y = some j) (hn : (x == ("__classdict__" : Str)) = false) (hd : (x == ("__debug__" : Str)) = false)
  (h : Sound cx ε e z) (hst : starred e = false) : SoundS cx ε (.Expr (.Call (.Name x p) [e] [] pos) pos') (.appendVia i j z) := by
 intro n cf A env F s ρ ad m cm H ρ' o he Q E hQ
 replace he := (zfg cf).symm.trans he
 split at he
 ·rename_i j' e0
  split at he
  ·rename_i ej
   subst ej
   split at he
   ·rename_i d l e1 e2
    split at he
    ·rename_i hz
     (injection he with he; injection he with he z; subst he z)
     have hs : slotAt ρ i = .app j' := by unfold slotAt; simp [List.getD,e0]
     refine exprS H.frm.en.kind rfl ?_
     rw [zaw (by intro _ _ _ e; injection e)]
     refine wb (wpAny_Name (zdm H.here hx hn (fun v q => ?_) (by rw [hs]; intro e; injection e)) hd)
     rw [hs] at q
     cases q with
     | @app b o _ fb g eo =>
     subst eo
     refine zep (l := ad j') (zaM (SoundL.cons h hst .nil)) (arg1 H.here h hst e1 fun v F' s' st q => ?_)
     have g' := st.keep _ _ g (H.wd.nx _ fb)
     refine ⟨g', ?_⟩
     obtain ⟨vs,k,gl,z,qs⟩ := zb9 (H.step st) hy e2
     have hlen : vs.length = l.length := qs.length
     refine wpAny_call (zim g' gl (zgV gl (by rw [List.size_toArray]; exact zaC z) ?_))
     refine ⟨(fun a e => nomatch e), ?_⟩
     obtain ⟨k',gk⟩ := zcp gl (fun x => x.push v) (vs ++ [v]) (by simp)
     obtain ⟨x1,f1⟩ := zbi H st e2 (Heap.SameBut.update ..) gk (by simp; omega) (qs.append (.cons q .nil)) s'.toks
     exact hQ .next F' _ ad m cm x1 f1 .next
    ·injection he
   ·injection he
  ·injection he
 ·injection he
theorem zew {x : Str} {i : Nat} {e : Expr} {z : X} {p pos : Pos} (hx : ε.vars.lookup x = some i) (hf : ε.kinds.lookup x ≠ some .free) (hn : (x == ("__classdict__" : Str)) = false) (h : Sound cx ε e z) :
  SoundS cx ε (.AugAssign (.Name x p) .Add e pos) (.aug i z) := by
 intro n cf A env F s ρ ad m cm H ρ' o he Q E hQ
 replace he := (exq_aug cf).symm.trans he
 split at he
 ·rename_i a b e0 e1
  split at he
  ·rename_i hz
   (injection he with he; injection he with he z; subst he z)
   have hs : slotAt ρ i = .val (.str a) := by unfold slotAt; simp [List.getD,e0]
   refine wpAny_AugAssign_Name (zdm H.here hx hn (fun v q => ?_) (by rw [hs]; intro e; injection e))
   rw [hs] at q
   cases q with
   | val q =>
   cases q with
   | str t pa za =>
   refine zbN H h e1 fun v F' s' st q => ?_
   cases q with
   | str u pb zb =>
   refine PyProof.Rows.iadd_str (fun t' tk => ?_) (by
    show a.toArray.size + b.toArray.size ≤ sizeLine
    rw [List.size_toArray,List.size_toArray]; exact zaC hz)
   have e : (PySem.Str.mk a.toArray ++ PySem.Str.mk b.toArray) = PySem.Str.mk (a ++ b).toArray := by
    show PySem.Str.mk (a.toArray ++ b.toArray) = _
    simp
   rw [e]
   have st2 := st.toks tk
   have r : Rep cx.T F' s'.heap (.str ⟨(a ++ b).toArray⟩ t') (.str (a ++ b)) := .str _ (fun c hc => (List.mem_append.mp hc).elim (pa c) (pb c)) (by rw [List.length_append]; exact hz)
   exact zbv H st2 hx hf r fun s'' m' cm' x f => hQ .next F' s'' ad m' cm' x f .next
  ·injection he
 ·injection he
end
inductive Stores (cx : XCx) (ε : Sc) (A : Around) (env : Env) : List (Value → Sem Unit) → List Nat → Prop
 | nil : Stores cx ε A env [] []
 | cons {f : Value → Sem Unit} {fs : List (Value → Sem Unit)} {x : Str} {i : Nat} {is : List Nat} : ε.vars.lookup x = some i → ε.kinds.lookup x ≠ some .free →
   (∀ (v : Value) (Q : Unit → Shared → Prop) (E : VP) (s : Shared),wpAny (model cx.prog cx.w) A (storeName env x v) Q E s → wpAny (model cx.prog cx.w) A (f v) Q E s) → Stores cx ε A env fs is → Stores cx ε A env (f :: fs) (i :: is)
section
variable {cx : XCx} {ε : Sc}
theorem Stores.run {n cf A env} {fs : List (Value → Sem Unit)} {is : List Nat} (S : Stores cx ε A env fs is) : ∀ {F s ρ ad m cm},HereS cx ε n cf A env F s ρ ad m cm → ∀ {vs : List Value} {ds : List D},RepL cx.T F s.heap vs ds → ds.length = is.length → ∀ {Q : Unit → Shared → Prop} {E : VP},
  (∀ F' s' m' cm',StepS cx env F s ρ ad F' s' (setAll ρ is ds) ad → Frm cx ε env F' s' (setAll ρ is ds) ad m' cm' → Q () s') → wpAny (model cx.prog cx.w) A (assignInOrder fs vs) Q E s := by
 induction S with
 | nil =>
  intro F s ρ ad m cm H vs ds q hl Q E hQ
  cases ds with
  | nil => cases q; exact wpAny_pure (hQ F s m cm (StepS.refl H.wd) H.frm)
  | cons _ _ => injection hl
 | @cons f fs x i is hx hf hs S ih =>
  intro F s ρ ad m cm H vs ds q hl Q E hQ
  cases ds with
  | nil => injection hl
  | cons d ds =>
   cases q with
   | @cons v vs _ _ a b =>
   show wpAny _ _ (do holding vs (f v); assignInOrder fs vs) Q E s
   refine wb (wpAny_holding (hs v _ _ _ (zbv H (Step.refl H.wd) hx hf a fun s' m' cm' x1 f1 => ?_)))
   have H1 := H.stepS x1 f1
   exact ih H1 (x1.repL H b) (by simpa using hl) fun F2 s2 m2 cm2 x2 f2 => hQ F2 s2 m2 cm2 (x1.trans x2) f2
theorem zfq {n cf A env F s ρ ad m cm} (H : HereS cx ε n cf A env F s ρ ad m cm) {a : Addr} {vs : List Value} (ht : s.heap.IsTuple a vs.toArray) {ds : List D} (q : RepL cx.T F s.heap vs ds) {k : Nat} (hk : ds.length = k) {Q : List Value → Shared → Prop} {E : VP}
  (hQ : ∀ vs s',Step cx F s F s' → RepL cx.T F s'.heap vs ds → Q vs s') : wpAny (model cx.prog cx.w) A (unpackItems (.ref a) k none) Q E s := by
 have hk' : k = vs.toArray.size := by rw [List.size_toArray,q.length,hk]
 rw [hk']
 refine wpAny_unpackItems_tuple H.bud.hd ht fun h' he => ?_
 have st : Step cx F s F { s with heap := h' } := Step.grown H.ok H.wd s.toks fun b o e => he b o (Nat.ne_of_lt (Heap.lt_size e)) e
 refine hQ _ _ st ?_
 have := st.repL H.wd q
 simpa using this
theorem zfu {n cf A env F s ρ ad m cm} (H : HereS cx ε n cf A env F s ρ ad m cm) {elts : List Expr} {k : Nat} {pos : Pos} {a : Addr} {vs : List Value} (ht : s.heap.IsTuple a vs.toArray) {ds : List D} (q : RepL cx.T F s.heap vs ds) {is : List Nat} (hl : ds.length = is.length)
  (hlen : (assignEach elts env).length = is.length) (hst : (assignEach elts env).findIdx? (·.1) = none) (S : Stores cx ε A env ((assignEach elts env).map (·.2)) is) {Q : Unit → Shared → Prop} {E : VP}
  (hQ : ∀ F' s' m' cm',StepS cx env F s ρ ad F' s' (setAll ρ is ds) ad → Frm cx ε env F' s' (setAll ρ is ds) ad m' cm' → Q () s') : wpAny (model cx.prog cx.w) A (assign (.Tuple elts k pos) env (.ref a)) Q E s := by
 rw [arm_assign_Tuple]
 refine wb (wpAny_standAt ?_)
 unfold unpack
 rw [hlen,hst]
 refine wb (wpAny_holding (zfq H ht q hl fun vs s' st q' => ?_))
 have H1 := H.step st
 exact S.run H1 q' hl fun F2 s2 m2 cm2 x2 f2 => hQ F2 s2 m2 cm2 ((StepS.ofStep st).trans x2) f2
theorem zk3 {T : NAd} {F : AP} {h : Heap} {v : Value} {ds : List D} (q : Rep T F h v (.tup ds)) : ∃ a vs,v = .ref a ∧ h.IsTuple a vs.toArray ∧ RepL T F h vs ds := by
 cases q with
 | tup f g z q => exact ⟨_,_,rfl,⟨_,g,rfl,_,rfl⟩,q⟩
theorem zhK {n cf A env F s ρ ad m cm} (H : HereS cx ε n cf A env F s ρ ad m cm) {v : Value} {ds : List D} (q : Rep cx.T F s.heap v (.tup ds)) {k : Nat} (hk : ds.length = k) {Q : List Value → Shared → Prop} {E : VP}
  (hQ : ∀ vs s',Step cx F s F s' → RepL cx.T F s'.heap vs ds → Q vs s') : wpAny (model cx.prog cx.w) A (unpackItems v k none) Q E s := by
 obtain ⟨a,vs,rfl,ht,q'⟩ := zk3 q
 exact zfq H ht q' hk hQ
theorem zes {n cf A env F s ρ ad m cm} (H : HereS cx ε n cf A env F s ρ ad m cm) {elts : List Expr} {k : Nat} {pos : Pos} {v : Value} {ds : List D} (q : Rep cx.T F s.heap v (.tup ds)) {is : List Nat} (hl : ds.length = is.length)
  (hlen : (assignEach elts env).length = is.length) (hst : (assignEach elts env).findIdx? (·.1) = none) (S : Stores cx ε A env ((assignEach elts env).map (·.2)) is) {Q : Unit → Shared → Prop} {E : VP}
  (hQ : ∀ F' s' m' cm',StepS cx env F s ρ ad F' s' (setAll ρ is ds) ad → Frm cx ε env F' s' (setAll ρ is ds) ad m' cm' → Q () s') : wpAny (model cx.prog cx.w) A (assign (.Tuple elts k pos) env v) Q E s := by
 obtain ⟨a,vs,rfl,ht,q'⟩ := zk3 q
 exact zfu H ht q' hl hlen hst S hQ
theorem za5 {A : Around} {env : Env} {x : Str} {p : Pos} : ∀ (v : Value) (Q : Unit → Shared → Prop) (E : VP) (s : Shared),wpAny (model cx.prog cx.w) A (storeName env x v) Q E s → wpAny (model cx.prog cx.w) A (assign (.Name x p) env v) Q E s :=
 fun _ _ _ _ h => wpAny_assign_Name h
theorem zgj {x y : Str} {i j : Nat} {p p' pos : Pos} {k : Nat} (hx : ε.vars.lookup x = some i) (hy : ε.vars.lookup y = some j) (hfx : ε.kinds.lookup x ≠ some .free) (hfy : ε.kinds.lookup y ≠ some .free) :
  SoundA cx ε (.Tuple [.Name x p,.Name y p'] k pos) (put2 i j) := by
 intro n cf A env F s ρ ad m cm H v d ρ' hv hp Q E hQ
 unfold put2 at hp
 split at hp <;> (first | (injection hp; done) | (injection hp with hp; subst hp))
 exact zes H hv (is := [i,j]) rfl rfl rfl (.cons hx hfx za5 (.cons hy hfy za5 .nil)) hQ
theorem zec {x y w : Str} {i j l : Nat} {p p' p'' pos' pos : Pos} {k : Nat} {e : Expr} {z : X} (hx : ε.vars.lookup x = some i) (hy : ε.vars.lookup y = some j) (hw' : ε.vars.lookup w = some l) (hfx : ε.kinds.lookup x ≠ some .free) (hfy : ε.kinds.lookup y ≠ some .free) (hfw : ε.kinds.lookup w ≠ some .free)
  (h : Sound cx ε e z) (hs : ∀ env,swapsWith e (some (.Tuple [.Name x p,.Name y p',.Name w p''] k pos')) pos.line env = pure false) (hw : ∀ env,swappedStores [.Tuple [.Name x p,.Name y p',.Name w p''] k pos'] e env = pure none) :
  SoundS cx ε (.Assign [.Tuple [.Name x p,.Name y p',.Name w p''] k pos'] e pos) (.assign3 i j l z) := by
 intro n cf A env F s ρ ad m cm H ρ' o he Q E hQ
 replace he := (zdU cf).symm.trans he
 split at he <;> (first | (injection he; done) | (injection he with he; injection he with he z; subst he z))
 rename_i a b c e1
 refine wpAny_Assign_stores (zbN H h e1 fun v F1 s1 st q => ?_) (hs env) (hw env)
 show wpAny _ _ (assign (.Tuple [.Name x p,.Name y p',.Name w p''] k pos') env v) _ _ _
 have H1 := H.step st
 exact zes H1 q (is := [i,j,l]) rfl rfl rfl (.cons hx hfx za5 (.cons hy hfy za5 (.cons hw' hfw za5 .nil))) fun F2 s2 m2 cm2 x2 f2 => hQ .next F2 s2 ad m2 cm2 ((StepS.ofStep st).trans x2) f2 .next
theorem zcU {x y : Str} {i j : Nat} {ts : List Expr} {pos' pos : Pos} {k : Nat} {e : Expr} {z : X} (hx : ε.vars.lookup x = some i) (hy : ε.vars.lookup y = some j) (hfx : ε.kinds.lookup x ≠ some .free) (hfy : ε.kinds.lookup y ≠ some .free) (hij : i ≠ j)
  (h : Sound cx ε e z) (hs : ∀ env,swapsWith e (some (.Tuple ts k pos')) pos.line env = pure false) (hw : ∀ env : Env,env.scope.kind = .function → env.scope.names = ε.kinds → swappedStores [.Tuple ts k pos'] e env = pure (some [x,y])) :
  SoundS cx ε (.Assign [.Tuple ts k pos'] e pos) (.assign2 i j z) := by
 intro n cf A env F s ρ ad m cm H ρ' o he Q E hQ
 replace he := (zgK cf).symm.trans he
 split at he <;> (first | (injection he; done) | (injection he with he; injection he with he z; subst he z))
 rename_i a b e1
 rw [exec_Assign_arm]
 refine wb (wpAny_standAt ?_)
 rw [show swapsWithSole [.Tuple ts k pos'] e pos.line env = pure false from hs env]
 refine wb (wpAny_pure ?_)
 rw [if_neg (by decide)]
 refine wb (zbN H h e1 fun v F1 s1 st q => ?_)
 rw [hw env H.frm.en.kind H.frm.en.names]
 refine wb (wpAny_pure ?_)
 have H1 := H.step st
 show wpAny _ _ (do
  rule "assign.swapped-stores"
  let items ← unpackItems v 2 none
  assignInOrder [bindName env y,bindName env x] items.reverse
  pure Flow.next) _ _ _
 refine wb (wpAny_rule (wb (zhK H1 q rfl fun vs s2 st2 q2 => ?_)))
 have H2 := H1.step st2
 have q3 := q2.reverse
 have S : Stores cx ε A env [bindName env y,bindName env x] [j,i] := .cons hy hfy (fun _ _ _ _ h => wpAny_bindName h) (.cons hx hfx (fun _ _ _ _ h => wpAny_bindName h) .nil)
 refine wb (S.run H2 q3 rfl fun F3 s3 m3 cm3 x3 f3 => wpAny_pure ?_)
 have e : setAll ρ [j,i] [a,b].reverse = (ρ.set i (.val a)).set j (.val b) := by
  show (ρ.set j (.val b)).set i (.val a) = _
  rw [List.set_comm _ _ hij]
 rw [e] at x3 f3
 exact hQ .next F3 s3 ad m3 cm3 (((StepS.ofStep st).trans (StepS.ofStep st2)).trans x3) f3 .next
theorem zdA {x y : Str} {i j : Nat} {p p' pos' : Pos} {k : Nat} {it : Expr} {z : X} {bs : List Stmt} {b : S} {pos : Pos} (hx : ε.vars.lookup x = some i) (hy : ε.vars.lookup y = some j) (hfx : ε.kinds.lookup x ≠ some .free) (hfy : ε.kinds.lookup y ≠ some .free) (hi : SoundI cx ε it z) (hb : SoundSs cx ε bs b)
  (hs : ∀ env x,foldedSetIterable it env x = pure x) : SoundS cx ε (.For (.Tuple [.Name x p,.Name y p'] k pos') it bs [] pos) (.forE2 i j z b) := by
 intro n cf A env F s ρ ad m cm H ρ' o h Q E hQ
 replace h := (zdT cf).symm.trans h
 split at h
 ·rename_i items e
  exact zjv (zgj hx hy hfx hfy) hi hb hs H e h hQ
 ·injection h
theorem zbR {body : List Stmt} {h₀ : ExceptHandler} {hs : List ExceptHandler} {b : S} {pos : Pos} (hb : SoundSs cx ε body b) : SoundS cx ε (.Try body (h₀ :: hs) [] [] pos) (.try_ b) := by
 intro n cf A env F s ρ ad m cm H ρ' o h Q E hQ
 replace h := (zhr cf).symm.trans h
 refine wpAny_Try_except (hb n cf A env F s ρ ad m cm H ρ' o h _ _ fun f F' s' ad' m' cm' x fr q => ?_)
 cases q with
 | next => exact wpAny_execs_nil (hQ _ F' s' ad' m' cm' x fr .next)
 | brk => exact hQ _ F' s' ad' m' cm' x fr .brk
 | cont => exact hQ _ F' s' ad' m' cm' x fr .cont
 | ret r => exact hQ _ F' s' ad' m' cm' x fr (.ret r)
end
theorem zcf {env : Env} : ∀ (names : List (Str × NameKind)) (cs : List (Str × Addr)),(∀ n k,(n,k) ∈ names → k = .free → ∃ c,env.cells.lookup n = some c) → (∀ n c,cs.lookup n = some c → env.cells.lookup n = some c) →
  ∃ cs',(forIn names cs fun (x : Str × NameKind) (r : List (Str × Addr)) => (if (x.2 == NameKind.free) = true then do let c ← cellOf env x.1; pure (ForInStep.yield ((x.1,c) :: r)) else pure (ForInStep.yield r) : Sem (ForInStep (List (Str × Addr))))) = (pure cs' : Sem _) ∧
   (∀ n c,cs'.lookup n = some c → env.cells.lookup n = some c) ∧ (∀ n,(cs.lookup n).isSome ∨ (n,NameKind.free) ∈ names → (cs'.lookup n).isSome)
 | [],cs,_,h2 => ⟨cs,rfl,h2,fun n h => h.elim id fun h => nomatch h⟩
 | (n,k) :: r,cs,h1,h2 => by
  rw [List.forIn_cons]
  by_cases hk : k = .free
  ·subst hk
   obtain ⟨c,hc⟩ := h1 n .free List.mem_cons_self rfl
   obtain ⟨cs',e,h3,h4⟩ := zcf r ((n,c) :: cs) (fun n' k' h => h1 n' k' (List.mem_cons_of_mem _ h)) (fun n' c' h => by
    rw [List.lookup_cons] at h
    cases hn : n' == n with
    | true => rw [hn] at h; (injection h with h; subst h); rw [beq_iff_eq.mp hn]; exact hc
    | false => rw [hn] at h; exact h2 n' c' h)
   refine ⟨cs', ?_,h3,fun n' h => h4 n' ?_⟩
   ·have e1 : cellOf env n = pure c := by unfold cellOf; rw [hc]
    simp only [beq_self_eq_true,if_true,e1,pure_bind]
    exact e
   ·rw [List.lookup_cons]
    cases hn : n' == n with
    | true => exact .inl rfl
    | false =>
     rcases h with h | h
     ·exact .inl h
     ·rcases List.mem_cons.mp h with h | h
      ·cases h; simp at hn
      ·exact .inr h
  ·obtain ⟨cs',e,h3,h4⟩ := zcf r cs (fun n' k' h => h1 n' k' (List.mem_cons_of_mem _ h)) h2
   have hb : (k == NameKind.free) = false := by simpa using hk
   refine ⟨cs', ?_,h3,fun n' h => h4 n' (h.imp id fun h => ?_)⟩
   ·simp only [hb,Bool.false_eq_true,if_false,pure_bind]
    exact e
   ·rcases List.mem_cons.mp h with h | h
    ·cases h; exact absurd rfl hk
    ·exact h
theorem zii {scope : Scope} {env : Env} (h : ∀ n k,(n,k) ∈ scope.names → k = .free → ∃ c,env.cells.lookup n = some c) :
  ∃ cl,closureFor scope env = pure cl ∧ (∀ n c,cl.lookup n = some c → env.cells.lookup n = some c) ∧ (∀ n,(n,NameKind.free) ∈ scope.names → (cl.lookup n).isSome) := by
 obtain ⟨cs',e,h3,h4⟩ := zcf scope.names [] h (fun _ _ h => nomatch h)
 refine ⟨cs', ?_,h3,fun n h => h4 n (.inr h)⟩
 unfold closureFor
 simp only [bind_pure]
 refine Eq.trans ?_ e
 congr 1
noncomputable def relab (ks : List (Str × NameKind)) (names : List (Str × NameKind)) : List (Str × NameKind) :=
 names.map fun (n,k) => if (k == .free && ks.lookup n == some .cell) then (n,.cell) else (n,k)
noncomputable def compSc (ε : Sc) (scope : Scope) (tv : List (Str × Nat)) : Sc :=
 ⟨relab ε.kinds scope.names,tv ++ ε.vars.filter fun y => scope.names.lookup y.1 == some .free,ε.code,false⟩
theorem zb8 {ks : List (Str × NameKind)} {x : Str} : ∀ {names : List (Str × NameKind)},names.lookup x = some .local → (relab ks names).lookup x = some .local
 | [],h => nomatch h
 | (n,k) :: r,h => by
  unfold relab
  rw [List.map_cons]
  rw [List.lookup_cons] at h
  cases hx : x == n with
  | true =>
   rw [hx] at h
   (injection h with h; subst h)
   show List.lookup x ((n,NameKind.local) :: _) = _
   rw [List.lookup_cons,hx]
  | false =>
   rw [hx] at h
   by_cases hc : (k == .free && ks.lookup n == some .cell) = true
   ·simp only [hc,if_true,List.lookup_cons,hx]; exact zb8 h
   ·simp only [if_neg hc,List.lookup_cons,hx]; exact zb8 h
theorem zcH {ks : List (Str × NameKind)} {x : Str} : ∀ {names : List (Str × NameKind)},names.lookup x = some .free → (relab ks names).lookup x = some .cell ∨ (relab ks names).lookup x = some .free
 | [],h => nomatch h
 | (n,k) :: r,h => by
  unfold relab
  rw [List.map_cons]
  rw [List.lookup_cons] at h
  cases hx : x == n with
  | true =>
   rw [hx] at h
   (injection h with h; subst h)
   by_cases hc : (NameKind.free == .free && ks.lookup n == some .cell) = true
   ·left; simp only [hc,if_true,List.lookup_cons,hx]
   ·right; simp only [if_neg hc,List.lookup_cons,hx]
  | false =>
   rw [hx] at h
   by_cases hc : (k == .free && ks.lookup n == some .cell) = true
   ·simp only [hc,if_true,List.lookup_cons,hx]; exact zcH h
   ·simp only [if_neg hc,List.lookup_cons,hx]; exact zcH h
theorem zaU {β : Type} {p : Str → Bool} {x : Str} {j : β} : ∀ {l : List (Str × β)},(l.filter fun y => p y.1).lookup x = some j → l.lookup x = some j ∧ p x = true
 | [],h => nomatch h
 | (n,k) :: r,h => by
  rw [List.filter_cons] at h
  rw [List.lookup_cons]
  cases hx : x == n with
  | true =>
   have e := beq_iff_eq.mp hx
   subst e
   by_cases hp : p x = true
   ·simp only [hp,if_true,List.lookup_cons,hx] at h
    exact ⟨h,hp⟩
   ·rw [if_neg hp] at h
    exact absurd (zaU h).2 hp
  | false =>
   by_cases hp : p n = true
   ·simp only [hp,if_true,List.lookup_cons,hx] at h
    exact zaU h
   ·rw [if_neg hp] at h
    exact zaU h
theorem zcx {β : Type} {x : Str} : ∀ {l r : List (Str × β)},(l ++ r).lookup x = (match l.lookup x with | some b => some b | none => r.lookup x)
 | [],r => rfl
 | (n,k) :: l,r => by
  rw [List.cons_append,List.lookup_cons,List.lookup_cons]
  cases hx : x == n with
  | true => rfl
  | false => exact zcx
noncomputable def updL (m : SV) : List Str → List Value → Str → Option Value
 | x :: xs,v :: vs => updL (fun y => if y = x then some v else m y) xs vs
 | _,_ => m
theorem zgZ {x : Str} : ∀ {xs : List Str} {vs : List Value} {m : SV},x ∉ xs → updL m xs vs x = m x
 | [],_,_,_ => rfl
 | _ :: _,[],_,_ => rfl
 | y :: xs,v :: vs,m,h => by
  show updL _ xs vs x = _
  rw [zgZ fun h' => h (List.mem_cons_of_mem _ h')]
  exact if_neg fun (e : x = y) => h (by rw [e]; exact List.mem_cons_self)
theorem zcG {j : Nat} : ∀ {is : List Nat} {ds : List D} {ρ : List Slot},j ∉ is → slotAt (setAll ρ is ds) j = slotAt ρ j
 | [],_,_,_ => rfl
 | _ :: _,[],_,_ => rfl
 | i :: is,d :: ds,ρ,h => by
  show slotAt (setAll (ρ.set i (.val d)) is ds) j = _
  rw [zcG fun h' => h (List.mem_cons_of_mem _ h'),zaR,if_neg fun (e : j = i) => h (by rw [e]; exact List.mem_cons_self)]
theorem zft {cx : XCx} {F : AP} {h : Heap} {ad : NAd} {x : Str} {i : Nat} : ∀ {xs : List Str} {is : List Nat} {vs : List Value} {ds : List D} {m : SV} {ρ : List Slot},xs.Nodup → is.Nodup → xs.length = is.length → ds.length = is.length → RepL cx.T F h vs ds → (xs.zip is).lookup x = some i →
  SlotRep cx F h ad i (updL m xs vs x) (slotAt (setAll ρ is ds) i) := by
 intro xs
 induction xs with
 | nil => intro is vs ds m ρ _ _ _ _ _ e; injection e
 | cons y xs ih =>
  intro is vs ds m ρ h1 h2 h3 h4 q e
  cases is with
  | nil => injection h3
  | cons j is => cases q with
   | nil => injection h4
   | @cons v vs d ds a b =>
    rw [List.zip_cons_cons,List.lookup_cons] at e
    obtain ⟨n1,h1'⟩ := List.nodup_cons.mp h1
    obtain ⟨n2,h2'⟩ := List.nodup_cons.mp h2
    cases hx : x == y with
    | true =>
     rw [hx] at e
     cases e
     have ey := beq_iff_eq.mp hx
     subst ey
     show SlotRep cx F h ad i (updL _ xs vs x) (slotAt (setAll (ρ.set i (.val d)) is ds) i)
     rw [zgZ n1,zcG n2,zaR,if_pos rfl,if_pos rfl]
     split
     ·exact .val a
     ·exact .unset
    | false =>
     rw [hx] at e
     show SlotRep cx F h ad i (updL _ xs vs x) (slotAt (setAll (ρ.set j (.val d)) is ds) i)
     exact ih h1' h2' (Nat.succ.inj h3) (Nat.succ.inj h4) b e
theorem zc5 {x : Str} {i : Nat} : ∀ {xs : List Str} {is : List Nat},(xs.zip is).lookup x = some i → x ∈ xs ∧ i ∈ is
 | [],_,h => nomatch h
 | _ :: _,[],h => nomatch h
 | y :: xs,j :: is,h => by
  rw [List.zip_cons_cons,List.lookup_cons] at h
  cases hx : x == y with
  | true => rw [hx] at h; cases h; rw [beq_iff_eq.mp hx]; exact ⟨List.mem_cons_self,List.mem_cons_self⟩
  | false => rw [hx] at h; obtain ⟨a,b⟩ := zc5 h; exact ⟨List.mem_cons_of_mem _ a,List.mem_cons_of_mem _ b⟩
set_option genInjectivity false in
structure CompOK (ε : Sc) (scope : Scope) (xs : List Str) (is : List Nat) : Prop where
 kind : scope.kind = .function
 nocell : ∀ y ∈ scope.names,y.2 ≠ .cell
 names : ∀ y ∈ scope.names,y.2 = .local → scope.names.lookup y.1 = some .local
 xl : ∀ x ∈ xs,scope.names.lookup x = some .local
 free : ∀ y k,(y,k) ∈ scope.names → k = .free → (∃ j,ε.vars.lookup y = some j) ∧ ε.kinds.lookup y ≠ some .local
 apart : ∀ y j,ε.vars.lookup y = some j → j ∉ is
 xn : xs.Nodup
 isn : is.Nodup
 len : xs.length = is.length
theorem za0 {β : Type} {x : Str} {b : β} : ∀ {l : List (Str × β)},l.lookup x = some b → (x,b) ∈ l
 | [],h => nomatch h
 | (n,k) :: r,h => by
  rw [List.lookup_cons] at h
  cases hx : x == n with
  | true => rw [hx] at h; cases h; rw [beq_iff_eq.mp hx]; exact List.mem_cons_self
  | false => rw [hx] at h; exact List.mem_cons_of_mem _ (za0 h)
section
variable {cx : XCx} {ε : Sc} {env : Env} {F : AP} {h : Heap} {ρ : List Slot} {ad : NAd} {m cm : SV}
theorem EnvOK.closure (e : EnvOK cx ε env F h ρ ad m cm) {scope : Scope} {xs : List Str} {is : List Nat} (c : CompOK ε scope xs is) :
  ∃ cl,closureFor scope env = pure cl ∧ (∀ n c,cl.lookup n = some c → env.cells.lookup n = some c) ∧ (∀ n,(n,NameKind.free) ∈ scope.names → (cl.lookup n).isSome) :=
 zii fun n k hm hk => by
  obtain ⟨⟨j,hj⟩,hl⟩ := c.free n k hm hk
  rcases e.vars n j hj with ⟨h,_⟩ | ⟨_,h,_⟩
  ·exact absurd h hl
  ·exact h
theorem EnvOK.comp (e : EnvOK cx ε env F h ρ ad m cm) {scope : Scope} {xs : List Str} {is : List Nat} (c : CompOK ε scope xs is) {cl : List (Str × Addr)} (h1 : ∀ n c,cl.lookup n = some c → env.cells.lookup n = some c) (h2 : ∀ n,(n,NameKind.free) ∈ scope.names → (cl.lookup n).isSome)
  {C : Addr} (hC : ¬ cx.X C) {m₁ : SV} {vs : List Value} {ds : List D} (hn : h.Ns C (updL m₁ xs vs)) (hd : ds.length = is.length) (hr : RepL cx.T F h vs ds) :
  EnvOK cx (compSc ε scope (xs.zip is)) (compEnvC scope cl C env) F h (setAll ρ is ds) ad (updL m₁ xs vs) cm := by
 refine ⟨c.kind, ?_,e.glob,e.blt,e.code,hC,fun n a ha => e.cxx n a (h1 n a ha),hn,fun n a ha => e.cells n a (h1 n a ha),fun y j hy => ?_⟩
 ·show (relabel scope env).names = relab ε.kinds scope.names
  unfold relabel relab
  have ek : env.scope.kind = .function := e.kind
  have en : ∀ n,env.kindOf n = ε.kinds.lookup n := fun n => by unfold Env.kindOf; rw [e.names]
  simp only [ek,en,beq_self_eq_true,Bool.and_true]
 ·have hy' : ((xs.zip is) ++ ε.vars.filter fun y => scope.names.lookup y.1 == some .free).lookup y = some j := hy
  rw [zcx] at hy'
  split at hy'
  ·rename_i i ei
   cases hy'
   left
   exact ⟨zb8 (c.xl y (zc5 ei).1),zft c.xn c.isn c.len hd hr ei⟩
  ·obtain ⟨hj,hp⟩ := zaU (p := fun z => scope.names.lookup z == some .free) hy'
   have hf : scope.names.lookup y = some .free := by simpa using hp
   right
   have hm := za0 hf
   have hl := (c.free y .free hm rfl).2
   rcases e.vars y j hj with ⟨h,_⟩ | ⟨_,_,q⟩
   ·exact absurd h hl
   ·refine ⟨zcH hf, ?_, ?_⟩
    ·exact Option.isSome_iff_exists.mp (h2 y hm)
    ·rw [zcG (c.apart y j hj)]
     exact q
end
section
variable {cx : XCx} {ε : Sc} {A : Around} {env : Env} {F F₀ : AP} {s s₀ : Shared}
theorem Step.kept (ok : CxOk cx) (w₀ : Wd cx F₀ s₀) (x : Step cx F₀ s₀ F s) {wr : AP} (hw : ∀ b,wr b → s₀.heap.get? b = none ∧ ¬ F b) {h' : Heap} (k : Nat)
  (hk : ∀ a o, ¬ wr a → s.heap.get? a = some o → h'.get? a = some o) : Step cx F₀ s₀ F { s with heap := h',toks := k } := by
 have nf : ∀ a,F a → ¬ wr a := fun a h hm => (hw a hm).2 h
 have nx : ∀ a,cx.X a → ¬ wr a := fun a h hm => by
  obtain ⟨o,e⟩ := w₀.xex a h
  rw [(hw a hm).1] at e; injection e
 have w := x.wd
 refine ⟨x.sub,x.new,fun a o e ax => hk a o (fun hm => ?_) (x.keep a o e ax),x.os,⟨fun a o e ax => hk a o (nf a (w.f0 a o e ax)) (w.base a o e ax),ok.xi _ _ _ _ w.xi (fun _ h => h) (fun a o h e => hk a o (h.elim (nf a) (nx a)) e),w.gens,w.f0,fun a h => let ⟨o,e⟩ := w.lt a h; ⟨o,hk a o (nf a h) e⟩,w.nx,fun a h => let ⟨o,e⟩ := w.xex a h; ⟨o,hk a o (nx a h) e⟩⟩⟩
 rw [(hw a hm).1] at e; injection e
noncomputable def Tests (cx : XCx) (ε : Sc) (ifs : List Expr) (c : X) : Prop :=
 ∀ n cf A env F s ρ ad m cm,Here cx ε n cf A env F s ρ ad m cm → ∀ b,evT cf c ρ = some b → ∀ (Q : Bool → Shared → Prop) (E : VP),(∀ F' s',Step cx F s F' s' → Q b s') →
  wpAny (model cx.prog cx.w) A (forIn ifs true fun c r => if r = true then do let ok ← isTrue c env (eval c env); pure (ForInStep.yield ok) else pure (ForInStep.yield r)) Q E s
theorem zcl : Tests cx ε [] (.const (.bool true)) := by
 intro n cf A env F s ρ ad m cm H b hb Q E hQ
 have hb' : some true = some b := hb
 (injection hb' with hb'; subst hb')
 rw [List.forIn_nil]
 exact wpAny_pure (hQ F s (Step.refl H.wd))
theorem zbH {t : Expr} {c : X} (h : Sound cx ε t c) : Tests cx ε [t] c := by
 intro n cf A env F s ρ ad m cm H b hb Q E hQ
 rw [List.forIn_cons]
 simp only [if_true]
 refine wb (wb (h.tr n cf A env F s ρ ad m cm H b hb _ _ fun F' s' st => wpAny_pure ?_))
 show wpAny _ _ (forIn [] b _) _ _ _
 rw [List.forIn_nil]
 exact wpAny_pure (hQ F' s' st)
noncomputable def TargetC (cx : XCx) (tg : Expr) (xs : List Str) (bind : D → Option (List D)) : Prop :=
 ∀ (A : Around) (F : AP) (s : Shared) (cenv : Env) (C : Addr) (m : SV) (v : Value) (d : D) (ds : List D),CxOk cx → Wd cx F s → A.handled = none → cenv.locals = C → (∀ x ∈ xs,cenv.kindOf x = some .local) →
  (cenv.scope.kind == .class || (cenv.scope.kind == .module && cenv.locals != cenv.globals)) = false → s.heap.Ns C m → ¬ F C → Rep cx.T F s.heap v d → bind d = some ds → ∀ (Q : Unit → Shared → Prop) (E : VP),
  (∀ h' tk vs,(∀ a o,a ≠ C → s.heap.get? a = some o → h'.get? a = some o) → h'.Ns C (updL m xs vs) → RepL cx.T F h' vs ds → Q () { s with heap := h',toks := tk }) → wpAny (model cx.prog cx.w) A (assign tg cenv v) Q E s
noncomputable def one1 (d : D) : Option (List D) := some [d]
theorem zaF {x : Str} {p : Pos} : TargetC cx (.Name x p) [x] one1 := by
 intro A F s cenv C m v d ds ok w hh hC hk hp hn nf hv hb Q E hQ
 (injection hb with hb; subst hb)
 subst hC
 refine wpAny_assign_Name (wpAny_storeName_local (hk x List.mem_cons_self) hn (fun h' hn' sb => ?_) hp)
 have keep : ∀ a o,a ≠ cenv.locals → s.heap.get? a = some o → h'.get? a = some o := fun a o h e => (sb.2 a h).trans e
 exact hQ h' _ [v] keep hn' (.cons (hv.mono (fun _ h => h) fun a o f e => keep a o (fun e => nf (e ▸ f)) e) .nil)
end
theorem zf1 {prog : Program} {w : World} {A : Around} {R : Result → Shared → Prop} {s : Shared} {elt target iter : Expr} {ifs : List Expr} {scope : Scope} {pos : Pos} {it acc : Value} {env : Env} (I : Nat → Shared → Prop)
  (turn : ∀ n s,I n s → wpAny (model prog w) A (pyNext it) (fun r s₁ => match r with
   | none => R (.ok .next) s₁
   | some v => wpAny (model prog w) A (letOwnedTupleGo target it v) (fun _ s₁' => wpAny (model prog w) A (assign target env v) (fun _ s₂ =>
     wpAny (model prog w) A (forIn ifs true fun c r => if r = true then do let ok ← isTrue c env (eval c env); pure (ForInStep.yield ok) else pure (ForInStep.yield r)) (fun ok s₃ =>
      if ok = true then wpAny (model prog w) A (eval elt env) (fun x s₄ =>
       wpAny (model prog w) A (call (.builtin "list.append") [acc,x]) (fun _ s₅ => ∃ m,m < n ∧ I m s₅) (notedBy (model prog w) A env fun e s' => R (.error e) s') s₄) (notedBy (model prog w) A env fun e s' => R (.error e) s') s₃
      else ∃ m,m < n ∧ I m s₃) (notedBy (model prog w) A env fun e s' => R (.error e) s') s₂) (notedBy (model prog w) A env fun e s' => R (.error e) s') s₁') (notedBy (model prog w) A env fun e s' => R (.error e) s') s₁) (notedBy (model prog w) A env fun e s' => R (.error e) s') s)
  (n : Nat) (h : I n s) :
  codeAny (model prog w) A (.compLoop (.ListComp elt [⟨target,iter,ifs,0⟩] scope pos) 0 it acc env) R s := by
 refine codeAny_loop rfl I (fun n s hI => ?_) n h
 show wpAny _ A ((compTurn (.ListComp elt [⟨target,iter,ifs,0⟩] scope pos) 0 it acc env).onRaise (fun x => do noteFrame x env; theTreesLotGoes x)) _ _ s
 refine wpAny_noted ?_
 rw [compTurn_list]
 refine wb (wpAny_standAt (wb (wpAny_mono (turn n s hI) (fun r s₁ h₁ => ?_) fun _ _ h' => h')))
 cases r with
 | none => exact wpAny_pure h₁
 | some v =>
  refine wb (wpAny_mono h₁ (fun _ s₁' h₁' => ?_) fun _ _ h' => h')
  refine wb (wpAny_mono h₁' (fun _ s₂ h₂ => wb (wpAny_mono h₂ (fun ok s₃ h₃ => ?_) fun _ _ h' => h')) fun _ _ h' => h')
  cases ok with
  | false => exact wpAny_pure ⟨rfl,h₃⟩
  | true =>
   exact wb (wb (wpAny_mono h₃ (fun x s₄ h₄ => wb (wpAny_mono h₄ (fun _ s₅ h₅ => wpAny_pure (wpAny_pure ⟨rfl,h₅⟩)) fun _ _ h' => h')) fun _ _ h' => h'))
noncomputable def turnC (cf : CfT) (is : List Nat) (bind : D → Option (List D)) (c e : X) (ρ : List Slot) (d : D) : Option (Option D) :=
 match bind d with
 | some ds => turnD (ev cf c (setAll ρ is ds)) (ev cf e (setAll ρ is ds))
 | none => none
set_option genInjectivity false in
structure AccK (cx : XCx) (e elt tg iter : Expr) (ifs : List Expr) (mk : Sem Value) (aid : String) (P : Obj → List Value → List D → Prop) (good : List D → Prop) : Prop where
 cl : clausesOf e = [⟨tg,iter,ifs,0⟩]
 start : ∀ {A : Around} {R : Result → Shared → Prop} {s : Shared} {it acc : Value} {env : Env},codeAny (model cx.prog cx.w) A (.compLoop e 0 it acc env) R s →
  wpAny (model cx.prog cx.w) A (pyIter it) (fun it' s' => codeAny (model cx.prog cx.w) A (.compLoop e 0 it' acc env) R s') (notedBy (model cx.prog cx.w) A env fun x s' => R (.error x) s') s → codeAny (model cx.prog cx.w) A (.compStart e 0 it acc env) R s
 loop : ∀ {A : Around} {R : Result → Shared → Prop} {s : Shared} {it acc : Value} {env : Env} (I : Nat → Shared → Prop)
  (turn : ∀ n s,I n s → wpAny (model cx.prog cx.w) A (pyNext it) (fun r s₁ => match r with
   | none => R (.ok .next) s₁
   | some v => wpAny (model cx.prog cx.w) A (letOwnedTupleGo tg it v) (fun _ s₁' => wpAny (model cx.prog cx.w) A (assign tg env v) (fun _ s₂ =>
     wpAny (model cx.prog cx.w) A (forIn ifs true fun c r => if r = true then do let ok ← isTrue c env (eval c env); pure (ForInStep.yield ok) else pure (ForInStep.yield r)) (fun ok s₃ =>
      if ok = true then wpAny (model cx.prog cx.w) A (eval elt env) (fun x s₄ =>
       wpAny (model cx.prog cx.w) A (call (.builtin aid) [acc,x]) (fun _ s₅ => ∃ m,m < n ∧ I m s₅) (notedBy (model cx.prog cx.w) A env fun e s' => R (.error e) s') s₄) (notedBy (model cx.prog cx.w) A env fun e s' => R (.error e) s') s₃
      else ∃ m,m < n ∧ I m s₃) (notedBy (model cx.prog cx.w) A env fun e s' => R (.error e) s') s₂) (notedBy (model cx.prog cx.w) A env fun e s' => R (.error e) s') s₁') (notedBy (model cx.prog cx.w) A env fun e s' => R (.error e) s') s₁) (notedBy (model cx.prog cx.w) A env fun e s' => R (.error e) s') s)
  (n : Nat) (h : I n s),codeAny (model cx.prog cx.w) A (.compLoop e 0 it acc env) R s
 new : ∀ {A : Around} {Q E : VP} {s : Shared},(∀ o : Obj,P o [] [] → o.isFreed = false → Q (.ref s.heap.objs.size) { s with heap := s.heap.push o }) → wpAny (model cx.prog cx.w) A mk Q E s
 pre : ∀ {a b : List D},good (a ++ b) → good a
 add : ∀ {A : Around} {Q E : VP} {s : Shared} {F : AP} {Da : Addr} {o : Obj} {ys : List Value} {ds : List D} {v : Value} {y : D},s.heap.get? Da = some o → P o ys ds → ys.length ≤ lim → Rep cx.T F s.heap v y → good (ds ++ [y]) →
  (∀ h' tk o',Heap.SameBut Da s.heap h' → h'.get? Da = some o' → P o' (ys ++ [v]) (ds ++ [y]) → Q .none { s with heap := h',toks := tk }) → wpAny (model cx.prog cx.w) A (call (.builtin aid) [.ref Da,v]) Q E s
inductive CoreI (P : Obj → List Value → List D → Prop) (cx : XCx) (F : AP) (s : Shared) (F1 : AP) (h1 : Heap) (wr : List Addr) (Da C : Addr) (St : Nat → Heap → Prop) (items l : List D) (go : List D → Option (List D)) (k : Nat) (s' : Shared) : Prop
 | mk (j : Nat) (F' : AP) (ys : List Value) (ds : List D) (kk : Obj) (m' : SV) (hj : j ≤ items.length) (hk : k = items.length - j) (st : Step cx F s F' s') (hrep : ∀ v d,Rep cx.T F1 h1 v d → Rep cx.T F' s'.heap v d) (hF : ∀ a,F1 a → F' a) (hst : St j s'.heap)
  (hwr : ∀ b ∈ wr, ¬ F' b) (hnD : ¬ F' Da) (hnC : ¬ F' C) (hD : s'.heap.get? Da = some kk) (hP : P kk ys ds) (hys : RepL cx.T F' s'.heap ys ds) (hyl : ys.length ≤ j) (hns : s'.heap.Ns C m') (rest : List D) (hgo : go (items.drop j) = some rest) (hrest : l = ds ++ rest)
set_option genInjectivity false in
structure CoreL (cx : XCx) (F1 : AP) (h1 : Heap) (wr : List Addr) (Da C : Addr) (St : Nat → Heap → Prop) (j : Nat) (ys : List Value) (ds : List D) (kk : Obj) (m' : SV) (F4 : AP) (h4 : Heap) : Prop where
 p1 : ∀ v d,Rep cx.T F1 h1 v d → Rep cx.T F4 h4 v d
 p2 : ∀ a,F1 a → F4 a
 p3 : St j h4
 p4 : ∀ b ∈ wr, ¬ F4 b
 p5 : ¬ F4 Da
 p6 : ¬ F4 C
 p7 : h4.get? Da = some kk
 p8 : RepL cx.T F4 h4 ys ds
 p9 : h4.Ns C m'
inductive CoreT (cf : CfT) (c e : X) (ρ : List Slot) (go : Option (List D)) (rest : List D) : Prop
 | skip : truthR (ev cf c ρ) = some false → go = some rest → CoreT cf c e ρ go rest
 | take (r : R) (y : D) (ys : List D) : truthR (ev cf c ρ) = some true → ev cf e ρ = some [r] → r.fz = some y → go = some ys → rest = y :: ys → CoreT cf c e ρ go rest
theorem zeK {f : D → Option (Option D)} {d : D} {r rest : List D} (h : compGo f (d :: r) = some rest) : (f d = some none ∧ compGo f r = some rest) ∨ ∃ y ys,f d = some (some y) ∧ compGo f r = some ys ∧ rest = y :: ys := by
 unfold compGo at h
 cases e : f d with
 | none => rw [e] at h; injection h
 | some o =>
  rw [e] at h
  cases o with
  | none => exact .inl ⟨rfl,h⟩
  | some y =>
   cases e2 : compGo f r with
   | none => simp only [e2] at h; injection h
   | some ys => simp only [e2] at h; (injection h with h; subst h); exact .inr ⟨y,ys,rfl,rfl,rfl⟩
theorem zcj {c e : Option (List R)} {o : Option D} (h : turnD c e = some o) : (truthR c = some false ∧ o = none) ∨ ∃ r y,truthR c = some true ∧ e = some [r] ∧ r.fz = some y ∧ o = some y := by
 unfold turnD at h
 cases t : truthR c with
 | none => rw [t] at h; injection h
 | some b =>
  rw [t] at h
  cases b with
  | false => (injection h with h; subst h); exact .inl ⟨rfl,rfl⟩
  | true =>
   rcases e with _ | _ | ⟨r,_ | ⟨_,_⟩⟩ <;> try (injection h; done)
   obtain ⟨y,e1,e2⟩ := Option.map_eq_some_iff.mp (show r.fz.map some = some o from h)
   exact .inr ⟨r,y,rfl,rfl,e1,e2.symm⟩
theorem zjM {cf : CfT} {is : List Nat} {bind : D → Option (List D)} {c e : X} {ρ : List Slot} {d : D} {r rest : List D} (h : compGo (turnC cf is bind c e ρ) (d :: r) = some rest) :
  ∃ dv,bind d = some dv ∧ CoreT cf c e (setAll ρ is dv) (compGo (turnC cf is bind c e ρ) r) rest := by
 have key : ∀ {o},turnC cf is bind c e ρ d = some o → ∃ dv,bind d = some dv ∧ turnD (ev cf c (setAll ρ is dv)) (ev cf e (setAll ρ is dv)) = some o := by
  intro o h
  cases q : bind d with
  | none => simp only [turnC,q] at h; injection h
  | some dv => simp only [turnC,q] at h; exact ⟨dv,rfl,h⟩
 rcases zeK h with ⟨h1,h2⟩ | ⟨y,ys,h1,h2,h3⟩
 ·obtain ⟨dv,e1,e2⟩ := key h1
  refine ⟨dv,e1, ?_⟩
  rcases zcj e2 with ⟨t,_⟩ | ⟨_,_,_,_,_,q⟩
  ·exact .skip t h2
  ·injection q
 ·obtain ⟨dv,e1,e2⟩ := key h1
  refine ⟨dv,e1, ?_⟩
  rcases zcj e2 with ⟨_,q⟩ | ⟨r',y',t,a,b,q⟩
  ·injection q
  ·(injection q with q; subst q); exact .take r' y ys t a b h2 h3
section
variable {cx : XCx} {ε : Sc}
theorem zeJ {ex elt iter tg : Expr} {ifs : List Expr} {mk : Sem Value} {aid : String} {PA : Obj → List Value → List D → Prop} {good : List D → Prop} (K : AccK cx ex elt tg iter ifs mk aid PA good) {scope : Scope} {cpos : Pos} {xs : List Str} {is : List Nat} {bind : D → Option (List D)} {c e it : X}
  (hT : TargetC cx tg xs bind) (hb : ∀ d ds,bind d = some ds → ds.length = is.length) (hi : SoundI cx ε iter it) (ok : CompOK ε scope xs is) (hc : Tests cx (compSc ε scope (xs.zip is)) ifs c) (he : Sound cx (compSc ε scope (xs.zip is)) elt e)
  (hs : ∀ env x,foldedSetIterable iter env x = pure x)
  {n cf A env F s ρ ad m cm} (H : Here cx ε n cf A env F s ρ ad m cm) {items l : List D} (hit : evI cf it ρ = some items) (hl : compGo (turnC cf is bind c e ρ) items = some l)
  (hgood : good l) {use : Option (Value → Sem Unit)} {Q E : VP}
  (hRR : ∀ Da C F' s' m' ob ys,Step cx F s F' s' → s.heap.get? Da = none → ¬ F' Da → ¬ cx.X Da → s'.heap.get? Da = some ob → PA ob ys l → RepL cx.T F' s'.heap ys l → ys.length ≤ lim → s'.heap.Ns C m' → s.heap.get? C = none → ¬ F' C → C ≠ Da → compPost (model cx.prog cx.w) A E use Q (.ref Da) C (.ok .next) s') :
  wpAny (model cx.prog cx.w) A (comprehension ex scope env cpos mk false (eval iter env) use) Q E s := by
 obtain ⟨cl,hclos,h1,h2⟩ := H.env.closure ok
 refine wpAny_comprehension_free K.cl (hs env) hclos ok.kind ok.names (hi n cf A env F s ρ ad m cm H items hit _ _ fun I F1 s1 fp wr P St J => ?_)
 refine K.new fun o0 hP0 hfr => ?_
 refine (wpAny_newFunctionEnv ok.nocell (by intro y hy; simp at hy) (fun h₁ hns₁ hsb₁ => ?_) ok.kind)
 dsimp only at hns₁ hsb₁ ⊢
 generalize hH2 : s1.heap.push o0 = H2 at hns₁ hsb₁ ⊢
 generalize hD : s1.heap.objs.size = Da
 generalize hCe : H2.objs.size = C at hns₁ hsb₁
 have hCD : C = Da + 1 := by rw [← hCe, ← hD, ← hH2,Heap.size_push]
 have hDC : C ≠ Da := by rw [hCD]; exact Nat.succ_ne_self Da
 have fr : ∀ a,Da ≤ a → s1.heap.get? a = none := fun a ha => by
  cases e : s1.heap.get? a with
  | none => rfl
  | some o' => exact absurd (hD ▸ Heap.lt_size e) (Nat.not_lt.mpr ha)
 have lt1 : ∀ b o,s1.heap.get? b = some o → b ≠ C ∧ b ≠ Da := fun b o e => ⟨Nat.ne_of_lt (by rw [hCD]; exact Nat.lt_succ_of_lt (hD ▸ Heap.lt_size e)),Nat.ne_of_lt (hD ▸ Heap.lt_size e)⟩
 have old : ∀ b o,s1.heap.get? b = some o → h₁.get? b = some o := fun b o e => hsb₁.extBut b o (lt1 b o e).1 (Heap.get?_push_of_some _ (hH2 ▸ Heap.get?_push_of_some _ e))
 have hacc : h₁.get? Da = some o0 := hsb₁.extBut _ _ hDC.symm (Heap.get?_push_of_some _ (by rw [← hH2, ← hD]; exact Heap.get?_push_size _ hfr))
 have frD := fr Da (Nat.le_refl _)
 have frC := fr C (by rw [hCD]; exact Nat.le_succ Da)
 have xD : ¬ cx.X Da := J.st.wd.newNotX frD
 have xC : ¬ cx.X C := J.st.wd.newNotX frC
 have frD0 : s.heap.get? Da = none := J.st.fresh xD frD
 have frC0 : s.heap.get? C = none := J.st.fresh xC frC
 have st1 : Step cx F s F1 { s1 with heap := h₁,toks := s1.toks + ([] : List (Str × Value)).length } := J.st.trans (Step.grown H.ok J.st.wd _ old)
 have loop : ∀ s₃ : Shared,s₃ = { s1 with heap := h₁,toks := s1.toks + ([] : List (Str × Value)).length } →
   codeAny (model cx.prog cx.w) A (.compLoop ex 0 (.ref I) (.ref Da) (compEnvC scope cl C env)) (compPost (model cx.prog cx.w) A E use Q (.ref Da) C) s₃ := by
  rintro s₃ rfl
  refine K.loop (CoreI PA cx F s F1 s1.heap wr Da C St items l (compGo (turnC cf is bind c e ρ))) (fun k s' hI => ?_) items.length
   ⟨0,F1,[],[],o0,_,Nat.zero_le _,rfl,st1,fun v d r => r.mono (fun _ h => h) fun a o _ e => old a o e,fun _ h => h,(J.W A H.bud.hd).frame _ _ _ J.s0 fun b _ o e => old b o e,fun b hb => (J.new b hb).2,J.st.wd.newNotF frD,J.st.wd.newNotF frC,hacc,hP0,.nil,Nat.le_refl _,hns₁,l,hl,rfl⟩
  obtain ⟨j,F',ys,ds,kk,m',hj,rfl,st',hrep,hF,hst,hwr,hnD,hnC,hD',hPo,hys,hyl,hns',rest,hgo,hrest⟩ := hI
  obtain ⟨o0,T0,gI,_,_⟩ := J.ty 0 _ J.s0
  have hwI : ∀ b ∈ wr,b ≠ C ∧ b ≠ Da := fun b hb => by rw [J.one b hb]; exact lt1 I _ gI
  have dC : C ∉ wr := fun h => (hwI C h).1 rfl
  have dD : Da ∉ wr := fun h => (hwI Da h).2 rfl
  have hwn : ∀ b,b ∈ wr → s.heap.get? b = none ∧ ¬ F' b := fun b hb => ⟨(J.new b hb).1,hwr b hb⟩
  have xwr : ∀ b ∈ wr, ¬ cx.X b := fun b hb h => by
   obtain ⟨o,e⟩ := H.wd.xex b h
   rw [(J.new b hb).1] at e; injection e
  rcases Nat.lt_or_ge j items.length with hlt | hge
  ·refine (J.W A H.bud.hd).item j s' _ _ hlt hst fun v h' tk hP hst' hk => ?_
   have st2 := st'.kept H.ok H.wd (wr := (· ∈ wr)) hwn tk hk
   obtain ⟨d,hd,hr⟩ := J.item j v hP
   have hdrop : items.drop j = d :: items.drop (j + 1) := by
    have h1 : items[j]? = some items[j] := List.getElem?_eq_getElem hlt
    rw [h1] at hd
    (injection hd with hd; subst hd)
    exact List.drop_eq_getElem_cons hlt
   rw [hdrop] at hgo
   obtain ⟨dv,hdv,hturn⟩ := zjM hgo
   obtain ⟨ob,T,g1,g2,g3⟩ := J.ty _ _ hst'
   have keepF : ∀ a o,F' a → s'.heap.get? a = some o → h'.get? a = some o := fun a o f e => hk a o (fun hm => hwr a hm f) e
   have hr2 : ∀ v d,Rep cx.T F1 s1.heap v d → Rep cx.T F' h' v d := fun v d hr => (hrep v d hr).mono (fun _ h => h) keepF
   refine zdn (s := { s' with heap := h',toks := tk }) g1 g2 g3 ?_
   have hnC' : h'.Ns C m' := hns'.at' fun o e => hk C o dC e
   refine hT A F' { s' with heap := h',toks := tk } (compEnvC scope cl C env) C m' v d dv H.ok st2.wd H.bud.hd rfl (fun x hx => lookup_relabel_local (ok.xl x hx)) (by simp [compEnvC,relabel,ok.kind]) hnC' hnC (hr2 v d hr) hdv _ _ fun h3 tk3 vs3 hk3 hns3 hr3 => ?_
   have st3 : Step cx F s F' { s' with heap := h3,toks := tk3 } := st2.kept H.ok H.wd (wr := (· = C)) (fun b hb => by subst hb; exact ⟨frC0,hnC⟩) tk3 hk3
   have keep3 : ∀ a o,F' a → s'.heap.get? a = some o → h3.get? a = some o := fun a o f e => hk3 a o (fun e => hnC (e ▸ f)) (keepF a o f e)
   have H3 : Here cx (compSc ε scope (xs.zip is)) n cf A (compEnvC scope cl C env) F' { s' with heap := h3,toks := tk3 } (setAll ρ is dv) ad (updL m' xs vs3) cm :=
    ⟨H.ok,H.calls,H.bud,st3.wd,(H.step st3).env.comp ok h1 h2 xC hns3 (hb d dv hdv) hr3⟩
   have hst3 : St (j + 1) h3 := (J.W A H.bud.hd).frame _ _ _ hst' fun b hb o e => hk3 b o (by
    rcases J.deps b hb with h | h
    ·exact (hwI b h).1
    ·exact fun e => hnC (e ▸ hF b h)) e
   have hD3 : h3.get? Da = some kk := hk3 Da _ hDC.symm (hk Da _ dD hD')
   have later : ∀ {F4 s4},Step cx F' { s' with heap := h3,toks := tk3 } F4 s4 → CoreL cx F1 s1.heap wr Da C St (j + 1) ys ds kk (updL m' xs vs3) F4 s4.heap := by
    intro F4 s4 y
    have isC : ∃ o,h3.get? C = some o := by obtain ⟨o,_,_,e,_⟩ := hns3; exact ⟨o,e⟩
    obtain ⟨oC,eC⟩ := isC
    obtain ⟨ob3,T3,g13,_,_⟩ := J.ty _ _ hst3
    refine ⟨fun v d q => y.rep H3.wd ((hr2 v d q).mono (fun _ h => h) fun a o f e => hk3 a o (fun e => hnC (e ▸ f)) e),fun a h => y.sub a (hF a h),(J.W A H.bud.hd).frame _ _ _ hst3 fun b hb o e => ?_,fun b hb => ?_,y.notF hnD hD3,y.notF hnC eC,y.keep _ _ hD3 xD,y.repL H3.wd (hys.mono (fun _ h => h) keep3),hns3.at' fun o e => y.keep _ o e xC⟩
    ·rcases J.deps b hb with h | h
     ·exact y.keep b o e (xwr b h)
     ·exact y.keep b o e (H3.wd.nx b (hF b h))
    ·exact y.notF (hwr b hb) (by rw [J.one b hb]; exact g13)
   cases hturn with
   | skip htr hgo' =>
    refine hc n cf A _ F' _ _ ad _ cm H3 false htr _ _ fun F4 s4 st4 => ?_
    obtain ⟨p1,p2,p3,p4,p5,p6,p7,p8,p9⟩ := later st4
    rw [if_neg (by decide)]
    exact ⟨items.length - (j + 1),Nat.sub_lt_sub_left hlt (Nat.lt_succ_self j),j + 1,F4,ys,ds,kk,_,hlt,rfl,st3.trans st4,p1,p2,p3,p4,p5,p6,p7,hPo,p8,by omega,p9,rest,hgo',hrest⟩
   | take r y ys' htr e1 e2 e4 e5 =>
     refine hc n cf A _ F' _ _ ad _ cm H3 true htr _ _ fun F4 s4 st4 => ?_
     rw [if_pos rfl]
     have H4 := H3.step st4
     refine he.ev n cf A _ F4 s4 _ ad _ cm H4 r e1 _ _ fun v5 F5 s5 st5 q5 => ?_
     obtain ⟨F6,st6,_,r6⟩ := st5.fz H.ok st4.wd q5 e2
     obtain ⟨p1,p2,p3,p4,p5,p6,p7,p8,p9⟩ := later (st4.trans st6)
     have hlen : ys.length < lim := by have := J.lim; omega
     have hgd : good (ds ++ [y]) := K.pre (b := ys') (by rw [List.append_assoc]; have := hrest; rw [e5] at this; exact this ▸ hgood)
     refine K.add p7 hPo (Nat.le_of_lt hlen) r6 hgd fun h7 tk7 k7 sb7 hl7 hP7 => ?_
     have st7 : Step cx F s F6 { s5 with heap := h7,toks := tk7 } := (st3.trans (st4.trans st6)).kept H.ok H.wd (wr := (· = Da)) (fun b hb => by subst hb; exact ⟨frD0,p5⟩) tk7 fun a o h e => (sb7.2 a h).trans e
     have keep7 : ∀ a o,F6 a → s5.heap.get? a = some o → h7.get? a = some o := fun a o f e => (sb7.2 a fun e => p5 (e ▸ f)).trans e
     refine ⟨items.length - (j + 1),Nat.sub_lt_sub_left hlt (Nat.lt_succ_self j),j + 1,F6,ys ++ [v5],ds ++ [y],k7,_,hlt,rfl,st7,fun v d q => (p1 v d q).mono (fun _ h => h) keep7,p2,(J.W A H.bud.hd).frame _ _ _ p3 fun b hb o e => (sb7.2 b ?_).trans e,p4,p5,p6,hl7,hP7,(p8.append (.cons r6 .nil)).mono (fun _ h => h) keep7,by rw [List.length_append]; simp; omega,p9.sameBut sb7 hDC,ys',e4,by rw [hrest,e5]; simp⟩
     rcases J.deps b hb with h | h
     ·exact (hwI b h).2
     ·exact fun e => p5 (e ▸ p2 b h)
  ·have ej : j = items.length := Nat.le_antisymm (by assumption) (by assumption)
   subst ej
   rw [List.drop_length] at hgo
   (injection hgo with hgo; subst hgo)
   refine (J.W A H.bud.hd).done s' _ _ hst fun h' tk hk => ?_
   have st2 := st'.kept H.ok H.wd (wr := (· ∈ wr)) hwn tk hk
   have keepF : ∀ a o,F' a → s'.heap.get? a = some o → h'.get? a = some o := fun a o f e => hk a o (fun hm => hwr a hm f) e
   rw [List.append_nil] at hrest
   subst hrest
   exact hRR Da C F' _ m' kk ys st2 frD0 hnD xD (hk Da _ dD hD') hPo (hys.mono (fun _ h => h) keepF) (by have := J.lim; omega) (hns'.at' fun o e => hk C o dC e) frC0 hnC hDC
 exact K.start (loop _ rfl) ((J.W A H.bud.hd).self 0 _ _ _ ((J.W A H.bud.hd).frame _ _ _ J.s0 fun b _ o e => old b o e) (loop _ rfl))
noncomputable def LsP (o : Obj) (ys : List Value) (_ : List D) : Prop := ∃ k,o = lobj ys.toArray k
theorem accList {elt tg iter : Expr} {ifs : List Expr} {scope : Scope} {pos : Pos} : AccK cx (.ListComp elt [⟨tg,iter,ifs,0⟩] scope pos) elt tg iter ifs (newList []) "list.append" LsP (fun _ => True) where
 cl := rfl
 start := fun h0 h => codeAny_compStart_list h0 h
 loop := fun I turn n h => zf1 I turn n h
 new := fun h => wpAny_newObj_type (h _ ⟨0,rfl⟩ rfl)
 pre := fun _ => trivial
 add := fun {A Q E s F Da o ys ds v y} g hP z r _ h => by
  obtain ⟨k,rfl⟩ := hP
  refine wpAny_list_append_plain ⟨k,g⟩ (fun h7 hl7 sb7 => ?_) (by rw [List.size_toArray]; exact zaC z)
  obtain ⟨k7,hl7⟩ := hl7
  have e7 : ys.toArray.push v = (ys ++ [v]).toArray := by simp
  rw [e7] at hl7
  exact h h7 s.toks _ sb7 hl7 ⟨k7,rfl⟩
theorem zfZ {elt iter tg : Expr} {ifs : List Expr} {scope : Scope} {pos cpos : Pos} {xs : List Str} {is : List Nat} {bind : D → Option (List D)} {c e it : X}
  (hT : TargetC cx tg xs bind) (hb : ∀ d ds,bind d = some ds → ds.length = is.length) (hi : SoundI cx ε iter it) (ok : CompOK ε scope xs is) (hc : Tests cx (compSc ε scope (xs.zip is)) ifs c) (he : Sound cx (compSc ε scope (xs.zip is)) elt e)
  (hs : ∀ env x,foldedSetIterable iter env x = pure x)
  {n cf A env F s ρ ad m cm} (H : Here cx ε n cf A env F s ρ ad m cm) {items l : List D} (hit : evI cf it ρ = some items) (hl : compGo (turnC cf is bind c e ρ) items = some l)
  {use : Option (Value → Sem Unit)} {Q E : VP}
  (hRR : ∀ Da C F' s' m',Step cx F s F' s' → RepR cx F' s.heap s'.heap (.ref Da) (.own l) → s'.heap.Ns C m' → s.heap.get? C = none → ¬ F' C → C ≠ Da → compPost (model cx.prog cx.w) A E use Q (.ref Da) C (.ok .next) s') :
  wpAny (model cx.prog cx.w) A (comprehension (.ListComp elt [⟨tg,iter,ifs,0⟩] scope pos) scope env cpos (newList []) false (eval iter env) use) Q E s :=
 zeJ accList hT hb hi ok hc he hs H hit hl trivial fun Da C F' s' m' ob ys st f0 nf nx g hP q z hn c1 c2 c3 => by
  obtain ⟨k,rfl⟩ := hP
  exact hRR Da C F' s' m' st (.own f0 nf nx g z q) hn c1 c2 c3
end
section
variable {cx : XCx} {ε : Sc}
theorem zif {elt iter tg : Expr} {ifs : List Expr} {scope : Scope} {pos : Pos} {xs : List Str} {is : List Nat} {bind : D → Option (List D)} {c e it : X}
  (hT : TargetC cx tg xs bind) (hb : ∀ d ds,bind d = some ds → ds.length = is.length) (hi : SoundI cx ε iter it) (ok : CompOK ε scope xs is) (hc : Tests cx (compSc ε scope (xs.zip is)) ifs c) (he : Sound cx (compSc ε scope (xs.zip is)) elt e)
  (hs : ∀ env x,foldedSetIterable iter env x = pure x)
  {n cf A env F s ρ ad m cm} (H : Here cx ε n cf A env F s ρ ad m cm) {items l : List D} (hit : evI cf it ρ = some items) (hl : compGo (turnC cf is bind c e ρ) items = some l)
  {Q E : VP} (hQ : Post cx F s (.own l) Q) :
  wpAny (model cx.prog cx.w) A (eval (.ListComp elt [⟨tg,iter,ifs,0⟩] scope pos) env) Q E s := by
 rw [eval_ListComp]
 refine zfZ (use := none) hT hb hi ok hc he hs H hit hl fun Da C F' s' m' st q hn frC nC hne => ?_
 refine ⟨m',hn,fun h'' sb => ?_⟩
 have st2 : Step cx F s F' { s' with heap := h'' } := st.kept H.ok H.wd (wr := (· = C)) (fun b hb => by subst hb; exact ⟨frC,nC⟩) s'.toks fun a o h e => (sb.2 a h).trans e
 refine hQ _ F' _ st2 ?_
 cases q with
 | own lo nf nx g z q => exact .own lo nf nx ((sb.2 Da hne.symm).trans g) z (q.mono (fun _ h => h) fun a o f e => (sb.2 a fun e => nC (e ▸ f)).trans e)
theorem zgM {cf : CfT} {i : Nat} {it c e : X} {ρ : List Slot} {r : R} (h : ev cf (.comp i it c e) ρ = some [r]) : ∃ items l,evI cf it ρ = some items ∧ compGo (turnC cf [i] one1 c e ρ) items = some l ∧ r = .own l := by
 replace h := (zhy _).symm.trans h
 split at h
 ·rename_i items e1
  obtain ⟨l,e2,e3⟩ := Option.map_eq_some_iff.mp h
  (injection e3 with e3 z; injection z; subst e3)
  refine ⟨items,l,by unfold evI; rw [e1],e2,rfl⟩
 ·injection h
set_option genInjectivity false in
structure CompX (cx : XCx) (ε : Sc) (elt iter tg : Expr) (ifs : List Expr) (scope : Scope) (xs : List Str) (is : List Nat) (bind : D → Option (List D)) (it c e : X) : Prop where
 hT : TargetC cx tg xs bind
 hb : ∀ d ds,bind d = some ds → ds.length = is.length
 hi : SoundI cx ε iter it
 ok : CompOK ε scope xs is
 hc : Tests cx (compSc ε scope (xs.zip is)) ifs c
 he : Sound cx (compSc ε scope (xs.zip is)) elt e
 hs : ∀ env x,foldedSetIterable iter env x = pure x
theorem zcF {elt iter tg : Expr} {ifs : List Expr} {scope : Scope} {pos : Pos} {x : Str} {i : Nat} {it c e : X} (h : CompX cx ε elt iter tg ifs scope [x] [i] one1 it c e) :
  Sound cx ε (.ListComp elt [⟨tg,iter,ifs,0⟩] scope pos) (.comp i it c e) := by
 refine Sound.ofE ?_ fun _ => rfl
 intro n cf A env F s ρ ad m cm H r hr Q E hQ
 obtain ⟨items,l,e1,e2,rfl⟩ := zgM hr
 exact zif h.hT h.hb h.hi h.ok h.hc h.he h.hs H e1 e2 hQ
theorem zjN {elt iter tg : Expr} {ifs : List Expr} {scope : Scope} {pos spos py : Pos} {xs : List Str} {is : List Nat} {bind : D → Option (List D)} {c e it : X} {y : Str} {j : Nat} (h : CompX cx ε elt iter tg ifs scope xs is bind it c e)
  (hy : ε.vars.lookup y = some j) (hf : ε.kinds.lookup y ≠ some .free) (hs : ∀ env : Env,env.scope.kind = .function → env.scope.names = ε.kinds → swapsWith (.ListComp elt [⟨tg,iter,ifs,0⟩] scope pos) (some (.Name y py)) spos.line env = pure true)
  {n cf A env F s ρ ad m cm} (H : HereS cx ε n cf A env F s ρ ad m cm) {items l : List D} (hit : evI cf it ρ = some items) (hl : compGo (turnC cf is bind c e ρ) items = some l)
  (own : Bool) (hna : own = true → noApp j ρ = true ∧ dSlot j = false) {Q : Flow → Shared → Prop} {E : VP} (hQ : PostS cx ε env F s ρ ad (ρ.set j (if own then .own l else .val (.list l))) .next Q) :
  wpAny (model cx.prog cx.w) A (exec (.Assign [.Name y py] (.ListComp elt [⟨tg,iter,ifs,0⟩] scope pos) spos) env) Q E s := by
 rw [exec_Assign_Name_used _ _ _ _ (hs env H.frm.en.kind H.frm.en.names)]
 refine wb (wpAny_standAt (wb ?_))
 show wpAny _ A (do let _ ← comprehension (.ListComp elt [⟨tg,iter,ifs,0⟩] scope pos) scope env _ (newList []) false (eval iter env) (some (assign (.Name y py) env))) _ _ s
 refine wb (zfZ (use := some (assign (.Name y py) env)) h.hT h.hb h.hi h.ok h.hc h.he h.hs H.here hit hl fun Da C F' s' m' st q hn frC nC hne => ?_)
 show wpAny _ A (assign (.Name y py) env (.ref Da)) _ _ _
 refine wpAny_assign_Name ?_
 have nm : ∀ {a},s.heap.get? a = none → ¬ Mut env ρ ad a := fun e hm => by
  obtain ⟨o,e'⟩ := H.frm.isSome hm
  rw [e] at e'; injection e'
 cases q with
 | @own _ vs k _ lo nf nx g z q =>
 have fin : ∀ {F'' : AP} {sl : Slot} {ad' : NAd} {s'' : Shared} {m'' cm'' : SV},sl = (if own then Slot.own l else .val (.list l)) → (∀ l',sl = .own l' → ad' j = Da) → (∀ i,i ≠ j → ad' i = ad i) → StepS cx env F s ρ ad F'' s'' (ρ.set j sl) ad' → Frm cx ε env F'' s'' (ρ.set j sl) ad' m'' cm'' → ¬ F'' C → s''.heap.Ns C m' →
   ∃ m,s''.heap.Ns C m ∧ ∀ h',Heap.SameBut C s''.heap h' → wpAny (model cx.prog cx.w) A (pure PUnit.unit) (fun _ s' => wpAny (model cx.prog cx.w) A (pure Flow.next) Q E s') E { s'' with heap := h' } := by
  intro F'' sl ad' s'' m'' cm'' hsl hDa had x f nF hn'
  refine ⟨m',hn',fun h' sb => wpAny_pure (wpAny_pure ?_)⟩
  have nM : ¬ Mut env (ρ.set j sl) ad' C := fun hm => by
   rcases hm with h | h | ⟨i,l',hi,rfl⟩
   ·exact nm frC (.inl h)
   ·exact nm frC (.inr (.inl h))
   ·rw [zaR] at hi
    by_cases e : i = j
    ·subst e
     rw [if_pos rfl] at hi
     split at hi
     ·exact hne (hDa l' hi)
     ·injection hi
    ·rw [if_neg e] at hi
     rw [had i e] at frC
     exact nm frC (.inr (.inr ⟨i,l',hi,rfl⟩))
  obtain ⟨x2,f2⟩ := x.kept H.ok H.wd f (wr := [C]) (fun b hb => by simp only [List.mem_cons,List.not_mem_nil,or_false] at hb; subst hb; exact ⟨frC,nF,nM⟩) (h' := h') s''.toks (fun a o hm e => (sb.2 a (by simpa using hm)).trans e)
  rw [hsl] at x2 f2
  exact hQ .next F'' _ ad' m'' cm'' x2 f2 .next
 cases own with
 | false =>
  have st2 := st.freeze H.ok H.wd lo g
  refine zbQ H st2 hy hf (sl := .val (.list l)) (ad' := ad) (fun _ _ => rfl) (.inl rfl) (fun h' hk => .val (.list (.inr rfl) (hk Da _ (.inl (.inr rfl)) g) z (q.mono (fun _ h => .inl h) fun a o f e => hk a o (.inl (.inl f)) e))) (fun _ e => nomatch e) fun s'' m'' cm'' hk x f => ?_
  exact fin (sl := .val (.list l)) (by rw [if_neg (by decide)]) (fun _ e => nomatch e) (fun _ _ => rfl) x f (fun h => h.elim nC hne) (hn.at' fun o e => hk C o (nm frC) e)
 | true =>
  refine zbQ H st hy hf (sl := .own l) (ad' := fun i => if i = j then Da else ad i) (fun i hi => if_neg hi) (.inr (zha (hna rfl).1)) (fun h' hk => ?_) (fun l' _ => ?_) fun s'' m'' cm'' hk x f => ?_
  ·have : SlotRep cx F' h' (fun i => if i = j then Da else ad i) j (some (.ref ((fun i => if i = j then Da else ad i) j))) (.own l) := by
    refine .own (vs := vs) (n := k) ?_ ?_ ?_ z (q.mono (fun _ h => h) fun b o f e => hk b o (.inl f) e) (hna rfl).2 <;> simp only [if_true]
    ·exact nf
    ·exact nx
    ·exact hk Da _ (.inr (nm lo)) g
   simpa using this
  ·simp only [if_true]
   exact ⟨lo,nf,nx,_,g⟩
  ·exact fin (sl := .own l) (ad' := fun i => if i = j then Da else ad i) (by rw [if_pos rfl]) (fun _ _ => if_pos rfl) (fun i hi => if_neg hi) x f nC (hn.at' fun o e => hk C o (nm frC) e)
theorem ev1_own {cf : CfT} {x : X} {ρ : List Slot} {d : D} (h : ev1 cf x ρ = some d) {P : List D → Prop} (hp : ∀ r,ev cf x ρ = some [r] → ∃ l,r = .own l ∧ P l) : ∃ l,d = .list l ∧ P l := by
 obtain ⟨r,e1,e2⟩ := zgN h
 obtain ⟨l,rfl,p⟩ := hp r e1
 (injection e2 with e2; subst e2)
 exact ⟨l,rfl,p⟩
theorem zaY {elt iter tg : Expr} {ifs : List Expr} {scope : Scope} {pos spos py : Pos} {x y : Str} {i j : Nat} {it c e : X} (h : CompX cx ε elt iter tg ifs scope [x] [i] one1 it c e)
  (hy : ε.vars.lookup y = some j) (hf : ε.kinds.lookup y ≠ some .free) (hs : ∀ env : Env,env.scope.kind = .function → env.scope.names = ε.kinds → swapsWith (.ListComp elt [⟨tg,iter,ifs,0⟩] scope pos) (some (.Name y py)) spos.line env = pure true) :
  SoundS cx ε (.Assign [.Name y py] (.ListComp elt [⟨tg,iter,ifs,0⟩] scope pos) spos) (.assign j (.comp i it c e)) := by
 intro n cf A env F s ρ ad m cm H ρ' o he Q E hQ
 replace he := (zbX cf).symm.trans he
 obtain ⟨d,hd,e'⟩ := Option.map_eq_some_iff.mp he
 (injection e' with e' z; subst e' z)
 obtain ⟨l,rfl,items,e1,e2⟩ := ev1_own (P := fun l => ∃ items,evI cf it ρ = some items ∧ compGo (turnC cf [i] one1 c e ρ) items = some l) hd fun r hr => by
  obtain ⟨items,l,e1,e2,e3⟩ := zgM hr
  exact ⟨l,e3,items,e1,e2⟩
 exact zjN h hy hf hs H e1 e2 false (fun e => nomatch e) (by rw [if_neg (by decide)]; exact hQ)
end
theorem zf4 {kindOf : Str → Option NameKind} {x : Str} : ∀ {ps : List Str} {vs : List Value} {m : SV},x ∉ ps → bindL kindOf (ps.zip vs) m x = m x
 | [],_,_,_ => rfl
 | _ :: _,[],_,_ => rfl
 | n :: ps,v :: vs,m,h => by
  rw [List.zip_cons_cons]
  unfold bindL
  rw [zf4 fun h' => h (List.mem_cons_of_mem _ h')]
  split
  ·exact if_neg fun (e : x = n) => h (by rw [e]; exact List.mem_cons_self)
  ·rfl
theorem zhE {kindOf : Str → Option NameKind} {x : Str} {v : Value} (hk : kindOf x = some .local) : ∀ {ps : List Str} {vs : List Value} {m : SV} {k : Nat},ps.Nodup → ps[k]? = some x → vs[k]? = some v → bindL kindOf (ps.zip vs) m x = some v
 | [],_,_,_,_,h,_ => nomatch h
 | _ :: _,[],_,_,_,_,h => nomatch h
 | n :: ps,v' :: vs,m,k,hn,h1,h2 => by
  obtain ⟨n1,hn'⟩ := List.nodup_cons.mp hn
  rw [List.zip_cons_cons]
  unfold bindL
  cases k with
  | zero =>
   simp only [List.getElem?_cons_zero,Option.some.injEq] at h1 h2
   subst h1; subst h2
   rw [zf4 n1,if_pos hk]
   exact if_pos rfl
  | succ k =>
   simp only [List.getElem?_cons_succ] at h1 h2
   exact zhE hk hn' h1 h2
theorem zf5 {kindOf : Str → Option NameKind} {x : Str} : ∀ {ps : List Str} {vs : List Value} {m : SV},x ∉ ps → bindC kindOf (ps.zip vs) m x = m x
 | [],_,_,_ => rfl
 | _ :: _,[],_,_ => rfl
 | n :: ps,v :: vs,m,h => by
  rw [List.zip_cons_cons]
  unfold bindC
  rw [zf5 fun h' => h (List.mem_cons_of_mem _ h')]
  split
  ·rfl
  ·exact if_neg fun (e : x = n) => h (by rw [e]; exact List.mem_cons_self)
theorem zhF {kindOf : Str → Option NameKind} {x : Str} {v : Value} (hk : kindOf x ≠ some .local) : ∀ {ps : List Str} {vs : List Value} {m : SV} {k : Nat},ps.Nodup → ps[k]? = some x → vs[k]? = some v → bindC kindOf (ps.zip vs) m x = some v
 | [],_,_,_,_,h,_ => nomatch h
 | _ :: _,[],_,_,_,_,h => nomatch h
 | n :: ps,v' :: vs,m,k,hn,h1,h2 => by
  obtain ⟨n1,hn'⟩ := List.nodup_cons.mp hn
  rw [List.zip_cons_cons]
  unfold bindC
  cases k with
  | zero =>
   simp only [List.getElem?_cons_zero,Option.some.injEq] at h1 h2
   subst h1; subst h2
   rw [zf5 n1,if_neg hk]
   exact if_pos rfl
  | succ k =>
   simp only [List.getElem?_cons_succ] at h1 h2
   exact zhF hk hn' h1 h2
theorem zbg {x : Str} : ∀ {names : List (Str × NameKind)} {n : Nat} {acc : List (Str × Addr)},(acc.lookup x).isSome ∨ (x,NameKind.cell) ∈ names → ((cellsFrom n names acc).lookup x).isSome
 | [],n,acc,h => by
  unfold cellsFrom
  rcases h with h | h
  ·exact h
  ·cases h
 | (y,k) :: r,n,acc,h => by
  unfold cellsFrom
  split
  ·rename_i hk
   refine zbg ?_
   rw [List.lookup_cons]
   cases hx : x == y with
   | true => exact .inl rfl
   | false =>
    rcases h with h | h
    ·exact .inl h
    ·rcases List.mem_cons.mp h with e | h
     ·(injection e with e z; subst e z); simp at hx
     ·exact .inr h
  ·rename_i hk
   refine zbg (h.imp id fun h => ?_)
   rcases List.mem_cons.mp h with e | h
   ·(injection e with e z; subst e z); simp at hk
   ·exact h
noncomputable def boundTo (fn : Fn) (args : List D) : Option (List D) :=
 if fn.va then (if fn.np ≤ args.length ∧ args.length ≤ lim then some (args.take fn.np ++ [.tup (args.drop fn.np)]) else none)
 else if args.length = fn.np then some args else none
noncomputable def BindOK (cx : XCx) (fd : FuncData) (fn : Fn) (ps : List Str) : Prop :=
 ∀ A F s vs args ds,CxOk cx → Wd cx F s → RepL cx.T F s.heap vs args → boundTo fn args = some ds → ∀ (Q : List (Str × Value) → Shared → Prop) (E : VP),
  (∀ F' s' vs',Step cx F s F' s' → RepL cx.T F' s'.heap vs' ds → Q (ps.zip vs') s') → wpAny (model cx.prog cx.w) A (bindArgs fd ⟨vs,[]⟩) Q E s
set_option genInjectivity false in
structure FnIs (cx : XCx) (ε : Sc) (i : Nat) (fn : Fn) (fd : FuncData) (body : List Stmt) (ps : List Str) : Prop where
 obj : ∃ o,cx.h0.get? (cx.fa i) = some o ∧ o.data = .func fd
 nx : ¬ cx.X (cx.fa i)
 code : ∃ c,fd.code = .ref c ∧ ¬ cx.X c ∧ cx.h0.CodeRec (.ref c) fd.qualname
 body : fd.body = .stmts body
 codeAt : ∀ c q,ε.code = some (c,q) → fd.code = .ref c ∧ fd.qualname ++ ".<locals>." = q
 clo : fd.closure = []
 glob : fd.globals = mainGlobals
 blt : fd.builtins = builtinsNs
 co : fd.scope.isCoroutine = false
 gen : fd.scope.isGenerator = false
 kind : fd.scope.kind = .function
 names : fd.scope.names = ε.kinds
 bind : BindOK cx fd fn ps
 len : ∀ args ds,boundTo fn args = some ds → ds.length = ps.length
 nodup : ps.Nodup
 pv : ∀ (k : Nat) x,ps[k]? = some x → ε.vars.lookup x = some k
 vk : ∀ x j,ε.vars.lookup x = some j → ε.kinds.lookup x = some .local ∨ ε.kinds.lookup x = some .cell
 sc : ScOK ε
 top : ε.top = false
theorem zgS {fn : Fn} {args : List D} {ρ : List Slot} (h : bindD fn args = some ρ) : ∃ ds k,boundTo fn args = some ds ∧ ρ = ds.map .val ++ List.replicate k .unset := by
 unfold bindD at h
 unfold boundTo
 split at h
 ·split at h <;> (first | (injection h; done) | (injection h with h; subst h))
  rename_i h1 h2
  rw [if_pos h1,if_pos h2]
  exact ⟨_,fn.ns - fn.np - 1,rfl,by simp⟩
 ·split at h <;> (first | (injection h; done) | (injection h with h; subst h))
  rename_i h1 h2
  rw [if_neg h1,if_pos h2]
  exact ⟨_,_,rfl,rfl⟩
theorem zcX {ds : List D} {k j : Nat} : slotAt (ds.map .val ++ List.replicate k .unset) j = (match ds[j]? with | some d => .val d | none => .unset) := by
 unfold slotAt
 rw [List.getD_eq_getElem?_getD,List.getElem?_append]
 split
 ·rename_i h
  rw [List.getElem?_map]
  rw [List.length_map] at h
  rw [List.getElem?_eq_getElem h]
  rfl
 ·rename_i h
  rw [List.length_map] at h
  rw [List.getElem?_eq_none (Nat.le_of_not_lt h),List.getElem?_replicate]
  split <;> rfl
section
variable {cx : XCx}
theorem bud_dp {d n : Nat} (h : d + (n + 1) < 890) : d + 1 + n < 890 := by omega
theorem bud_un {u n : Nat} (h : u + 10 * (n + 1) + 200 < 9900) : u + 3 + 10 * n + 200 < 9900 := by omega
theorem bud_sl {u n : Nat} (h : u + 10 * (n + 1) + 200 < 9900) : u + 3 + 10 * n + 207 < 9900 := by omega
set_option genInjectivity false in
structure OpenC (cx : XCx) (ε : Sc) (i n : Nat) (A : Around) (env : Env) (ρ : List Slot) (F F₁ : AP) (s s₁ s₂ : Shared) (A' : Around) (Rs : Result → Shared → Prop) (Q : Flow → Shared → Prop) (E : VP) : Prop where
 bud : BudE n A'
 fr : A'.frames = A.frames.map (env :: ·)
 loc : env.frame = some env.locals
 wd : Wd cx F₁ s₂
 st : Step cx F s F₁ s₁
 keep : ∀ a o,s₁.heap.get? a = some o → s₂.heap.get? a = some o
 os : s₂.os = s₁.os
 fresh : ∀ a,Mut env ρ (fun _ => 0) a → s₁.heap.get? a = none
 ret : ∀ v s',Rs (.ok (.ret v)) s' → Q (.ret v) s'
 exc : ∀ e s',wpAny (model cx.prog cx.w) A' (leaving env e) (fun _ s'' => Rs (.error e) s'') (fun e' s'' => Rs (.error e') s'') s' → E e s'
 nxt : ∀ s',Rs (.ok (.ret .none)) s' → Q .next s'
theorem zdZ {ε : Sc} {i : Nat} {fn : Fn} {fd : FuncData} {body : List Stmt} {ps : List Str} (X : FnIs cx ε i fn fd body ps) (ok : CxOk cx) {n : Nat}
  {args : List D} {ρ : List Slot} (hb : bindD fn args = some ρ)
  {A : Around} {F : AP} {s : Shared} {vs : List Value} (bud : Bud (n + 1) A) (w : Wd cx F s) (q : RepL cx.T F s.heap vs args) {Rs : Result → Shared → Prop}
  (k : ∀ (A' : Around) (env : Env) (F₁ : AP) (s₁ s₂ : Shared) (m cm : SV) (Q : Flow → Shared → Prop) (E : VP),OpenC cx ε i n A env ρ F F₁ s s₁ s₂ A' Rs Q E → Frm cx ε env F₁ s₂ ρ (fun _ => 0) m cm →
   wpAny (model cx.prog cx.w) A' (execs body env) Q E s₂) : codeAny (model cx.prog cx.w) A (.call (.ref (cx.fa i)) ⟨vs,[]⟩) Rs s := by
 obtain ⟨ob,g,hfd⟩ := X.obj
 obtain ⟨c,hcode,ncx,hcd⟩ := X.code
 obtain ⟨ds,kk,hbd,rfl⟩ := zgS hb
 have hroom : A.depth < recursionLimit := Nat.lt_of_le_of_lt (Nat.le_add_right _ _) (Nat.lt_trans bud.dp (by decide))
 refine codeAny_call_function hroom (w.base _ _ g X.nx) hfd X.co X.gen X.body (by rw [hcode]; exact hcd.at fun o e => w.base _ o e ncx) ?_
 refine X.bind A.in1 F s vs args ds ok w q hbd _ _ fun F₁ s₁ vs' st₁ q₁ => ?_
 rw [X.clo]
 have hlen : ds.length = ps.length := X.len _ _ hbd
 have hvl : vs'.length = ps.length := q₁.length.trans hlen
 have kindOf : ∀ x,(callEnvC fd s₁.heap.objs.size (cx.fa i)).kindOf x = ε.kinds.lookup x := fun x => by show fd.scope.names.lookup x = _; rw [X.names]
 have inps : ∀ x ∈ ps, ∃ k,ps[k]? = some x := fun x hx => by
  obtain ⟨k,hk,e⟩ := List.mem_iff_getElem.mp hx
  exact ⟨k,by rw [List.getElem?_eq_getElem hk,e]⟩
 have hkind : ∀ x ∈ ps.zip vs',fd.scope.names.lookup x.1 = some .local ∨ (fd.scope.names.lookup x.1 = some .cell ∧ ((cellsFrom (s₁.heap.objs.size + 1) fd.scope.names []).lookup x.1).isSome = true) := by
  intro x hx
  obtain ⟨k,hk⟩ := inps x.1 (List.of_mem_zip hx).1
  rw [X.names]
  rcases X.vk x.1 k (X.pv k x.1 hk) with h | h
  ·exact .inl h
  ·exact .inr ⟨h,zbg (.inr (za0 h))⟩
 refine wpAny_newFunctionEnv_cells X.kind hkind fun env hen s₂ ic => ?_
 have hen' : env = callEnvC fd s₁.heap.objs.size (cx.fa i) := hen
 subst hen'
 obtain ⟨h₂,tk₂,rfl⟩ := ic.toInCall.same
 have keep₂ := ic.toInCall.keep
 have st₂ : Step cx F₁ s₁ F₁ { s₁ with heap := h₂,toks := tk₂ } := Step.grown ok st₁.wd tk₂ keep₂
 have w₂ := st₂.wd
 refine ⟨w₂.lim ok,codeAny_func ?_⟩
 let E₀ : Env := callEnvC fd s₁.heap.objs.size (cx.fa i)
 let m₀ : Str → Option Value := bindL E₀.kindOf (ps.zip vs') fun _ => none
 let cm₀ : Str → Option Value := bindC E₀.kindOf (ps.zip vs') fun _ => none
 have frL : s₁.heap.get? s₁.heap.objs.size = none := zaE _
 have frC : ∀ n c,E₀.cells.lookup n = some c → s₁.heap.get? c = none ∧ c ≠ s₁.heap.objs.size := fun n c hc => by
  have hlt : s₁.heap.objs.size < c := ic.above n c (mem_of_lookup hc)
  refine ⟨?_,Nat.ne_of_gt hlt⟩
  cases e : s₁.heap.get? c with
  | none => rfl
  | some o => exact absurd (Heap.lt_size e) (Nat.not_lt.mpr (Nat.le_of_lt hlt))
 have noOwn : ∀ j l,slotAt (ds.map Slot.val ++ List.replicate kk .unset) j ≠ .own l := fun j l e => by
  rw [zcX] at e
  split at e <;> injection e
 have fresh₀ : ∀ a,Mut E₀ (ds.map Slot.val ++ List.replicate kk .unset) (fun _ => 0) a → s₁.heap.get? a = none := fun a h => by
  rcases h with rfl | ⟨n,hn⟩ | ⟨j,l,hj,_⟩
  ·exact frL
  ·exact (frC n a hn).1
  ·exact absurd hj (noOwn j l)
 have slots : ∀ x j,ε.vars.lookup x = some j → (ε.kinds.lookup x = some .local ∧ SlotRep cx F₁ h₂ (fun _ => 0) j (m₀ x) (slotAt (ds.map Slot.val ++ List.replicate kk .unset) j)) ∨
   ((ε.kinds.lookup x = some .cell ∨ ε.kinds.lookup x = some .free) ∧ (∃ c,E₀.cells.lookup x = some c) ∧ SlotRep cx F₁ h₂ (fun _ => 0) j (cm₀ x) (slotAt (ds.map Slot.val ++ List.replicate kk .unset) j)) := by
  intro x j hx
  have look : ∀ dj,ds[j]? = some dj → ps[j]? = some x ∧ ∃ v,vs'[j]? = some v ∧ Rep cx.T F₁ h₂ v dj := fun dj hj => by
   obtain ⟨v,hv,r⟩ := q₁.get hj
   have hlt : j < ps.length := by rw [← hlen]; exact (List.getElem?_eq_some_iff.mp hj).1
   have hp : ps[j]? = some ps[j] := List.getElem?_eq_getElem hlt
   have := X.sc.inj x ps[j] j hx (X.pv j _ hp)
   exact ⟨by rw [hp,this],v,hv,st₂.rep st₁.wd r⟩
  rw [zcX]
  rcases X.vk x j hx with hk | hk
  ·left
   refine ⟨hk, ?_⟩
   split
   ·rename_i dj hj
    obtain ⟨hp,v,hv,r⟩ := look dj hj
    have : m₀ x = some v := zhE (by rw [kindOf]; exact hk) X.nodup hp hv
    rw [this]
    exact .val r
   ·exact .unset
  ·right
   refine ⟨.inl hk, ?_, ?_⟩
   ·refine Option.isSome_iff_exists.mp (zbg (.inr ?_))
    rw [X.names]
    exact za0 hk
   ·split
    ·rename_i dj hj
     obtain ⟨hp,v,hv,r⟩ := look dj hj
     have : cm₀ x = some v := zhF (by rw [kindOf,hk]; intro e; (injection e with e; injection e)) X.nodup hp hv
     rw [this]
     exact .val r
    ·exact .unset
 have fr : Frm cx ε E₀ F₁ { s₁ with heap := h₂,toks := tk₂ } (ds.map Slot.val ++ List.replicate kk .unset) (fun _ => 0) m₀ cm₀ := by
  refine ⟨⟨X.kind,X.names,X.glob,X.blt,X.codeAt,st₁.wd.newNotX frL,fun n c hc => st₁.wd.newNotX (frC n c hc).1,ic.toInCall.ns,ic.cell,slots⟩,st₁.wd.newNotF frL,fun n c hc => ⟨st₁.wd.newNotF (frC n c hc).1,(frC n c hc).2⟩,fun n n' c h h' => name_of_addr ic.apart (mem_of_lookup h) (mem_of_lookup h'),fun j _ l _ h => absurd h (noOwn j l),fun j l h => absurd h (noOwn j l)⟩
 have budE : BudE n (A.deeper E₀) := by
  obtain ⟨l,hl⟩ := bud.fs
  refine ⟨⟨bud.hd,bud_dp bud.dp,bud_un bud.un,⟨_,by show A.frames.map _ = _; rw [hl]; rfl⟩⟩,bud_sl bud.un,E₀,l,by show A.frames.map _ = _; rw [hl]; rfl,X.gen,X.co,X.blt,X.glob⟩
 exact k (A.deeper E₀) E₀ F₁ s₁ _ m₀ cm₀ _ _ ⟨budE,rfl,rfl,w₂,st₁,keep₂,rfl,fresh₀,fun _ _ h => h,fun _ _ h => h,fun _ h => h⟩ fr
theorem OpenC.step {ε : Sc} {i n : Nat} {A A' : Around} {env : Env} {ρ ρ' : List Slot} {F F₁ F' : AP} {s s₁ s₂ s' : Shared} {Rs : Result → Shared → Prop} {Q : Flow → Shared → Prop} {E : VP} {ad' : NAd} (O : OpenC cx ε i n A env ρ F F₁ s s₁ s₂ A' Rs Q E) (x : StepS cx env F₁ s₂ ρ (fun _ => 0) F' s' ρ' ad') : Step cx F s F' s' := by
 refine O.st.trans ⟨fun a h => x.sub a h,fun a h => ?_,fun a o e nx => x.keep a o (O.keep a o e) nx fun hm => ?_,x.os.trans O.os,x.wd⟩
 ·rcases x.new a h with q | q | q
  ·exact .inl q
  ·right
   cases e : s₁.heap.get? a with
   | none => rfl
   | some o => rw [O.keep a o e] at q; injection q
  ·exact .inr (O.fresh a q)
 ·have := O.fresh a hm
  rw [e] at this; injection this
theorem zjT {ε : Sc} {i : Nat} {fn : Fn} {fd : FuncData} {body : List Stmt} {ps : List Str} (X : FnIs cx ε i fn fd body ps) (hs : SoundSs cx ε body fn.body) (ok : CxOk cx) {n : Nat} {cf : CfT} (hc : CallOK cx n cf)
  {args : List D} {ρ ρ' : List Slot} {o : Out} {d : D} (hb : bindD fn args = some ρ) (he : ex cf fn.body ρ = some (ρ',o)) (hd : o = .ret d ∨ (o = .next ∧ d = .none))
  {A : Around} {F : AP} {s : Shared} {vs : List Value} (bud : Bud (n + 1) A) (w : Wd cx F s) (q : RepL cx.T F s.heap vs args) {Rs : Result → Shared → Prop}
  (hR : ∀ v F' s',Step cx F s F' s' → Rep cx.T F' s'.heap v d → Rs (.ok (.ret v)) s') : codeAny (model cx.prog cx.w) A (.call (.ref (cx.fa i)) ⟨vs,[]⟩) Rs s := by
 refine zdZ X ok hb bud w q fun A' env F₁ s₁ s₂ m cm Q E O fr => ?_
 refine hs n cf A' env F₁ s₂ ρ _ m cm ⟨ok,X.sc,hc,O.bud,O.wd,fr,fun h => nomatch X.top.symm.trans h⟩ ρ' o he _ _ fun f F' s' ad' m' cm' x fr' out => ?_
 have stF := O.step x
 rcases hd with rfl | ⟨rfl,rfl⟩
 ·cases out with
  | ret r => exact O.ret _ _ (hR _ F' s' stF r)
 ·cases out
  exact O.nxt _ (hR _ F' s' stF .none)
theorem zfj (ok : CxOk cx) {fns : Nat → Option Fn} (h : ∀ i fn,fns i = some fn → ∃ ε fd body ps,FnIs cx ε i fn fd body ps ∧ SoundSs cx ε body fn.body) (hk : ∀ n,cx.cok (callF fns n) := by intro _; exact trivial) : ∀ n,CallOK cx n (callF fns n)
 | 0 => ⟨hk 0,fun f args d e => by unfold callF at e; injection e⟩
 | n + 1 => ⟨hk (n + 1),fun f args d e => by
  unfold callF at e
  split at e
  ·injection e
  ·rename_i fn hf
   obtain ⟨ε,fd,body,ps,X,hs⟩ := h f fn hf
   obtain ⟨o,g,hfd⟩ := X.obj
   refine ⟨⟨o,fd,g,hfd,X.nx⟩,fun A F s vs bud w q Rs hR => ?_⟩
   split at e
   ·injection e
   ·rename_i ρ hb
    split at e
    ·rename_i ρ' d' he
     cases e
     exact zjT X hs ok (zfj ok h hk n) hb he (.inl rfl) bud w q hR
    ·rename_i ρ' he
     (injection e with e; subst e)
     exact zjT X hs ok (zfj ok h hk n) hb he (.inr ⟨rfl,rfl⟩) bud w q hR
    ·injection e⟩
end
set_option genInjectivity false in
structure TabG (cx : XCx) where
 d : Addr
 f : Int → Option Value
 nx : ¬ cx.X d
 hm : cx.h0.MapOf (intKind cx.prog cx.w) d f
 sys : (d == sysModules) = false
 yes : ∀ c : Nat,c < 128 → special.contains c = true → ∃ u,f (c : Int) = some (.str ⟨#[92,c]⟩ u)
 no : ∀ c : Nat,c < 128 → special.contains c = false → f (c : Int) = none
section
variable {cx : XCx} {ε : Sc}
theorem zdy (G : TabG cx) {o : Expr} {y : X} {x : Str} {p apos pos : Pos} (hb : plainBase o = true) (hl : (apos.endLine == pos.line) = true) (h : Sound cx ε o y) (hk : ε.kinds.lookup x = some .globalImplicit) (hv : cx.mg x = some (.ref G.d)) (hd : (x == ("__debug__" : Str)) = false) :
  Sound cx ε (.Call (.Attribute o "translate" apos) [.Name x p] [] pos) (.op .translate (.cons y .nil)) := by
 refine Sound.ofE ?_ fun _ => rfl
 intro n cf A env F s ρ ad m cm H res he Q E hQ
 obtain ⟨rs,e1,e2⟩ := ev_op he
 obtain ⟨r0,rs',e3,e4,rfl⟩ := zaD e1
 obtain rfl := zbq e4
 refine zbD hb hl (by simp) rfl ?_
 refine h.ev n cf A env F s ρ ad m cm H r0 e3 _ _ fun v F' s' st q => ?_
 simp only [List.map_cons,List.map_nil] at e2; delta opF at e2; dsimp only at e2
 unfold opTranslate at e2
 split at e2
 ·rename_i c ec
  split at e2 <;> (first | (injection e2; done) | (injection e2 with e2; subst e2))
  rename_i hc
  have qb := q.brep
  have ec' : r0.ds = .str [c] := by
   have := ec
   simpa using this
  rw [ec'] at qb
  obtain ⟨t,rfl,pp,z⟩ := qb.str_inv
  have noref : ∀ a,Value.str ⟨[c].toArray⟩ t = .ref a → ∃ o,s'.heap.get? a = some o ∧ o.dict = none := fun _ e => nomatch e
  with_reducible refine GM.of (.str ⟨[c].toArray⟩ t) (typeIs_str _ _ _) PySem.F.slot_str_translate PySem.F.type_str_translate noref ?_
  have H1 := H.step st
  have hst : starred (.Name x p) = false := rfl
  rw [zaq hst,zav]
  refine Calls.callWith_builtin rfl (Calls.evalArgs_plain (Calls.spliced_cons (zbj H1 hk hv hd (Calls.spliced_nil ?_))))
  show wpAny _ _ (call (.builtin "str.translate") [.str ⟨#[c]⟩ t,.ref G.d]) _ _ s'
  have hm : s'.heap.MapOf (intKind cx.prog cx.w) G.d G.f := let ⟨o,es,ep,g,r⟩ := G.hm; ⟨o,es,ep,st.wd.base _ _ g G.nx,r⟩
  cases hsp : special.contains c with
  | true =>
   obtain ⟨u,hu⟩ := G.yes c hc hsp
   refine call_meetsIn PySem.F.slot_str_translate (typeIs_str _ _ _) PySem.F.entry_str_translate (PySem.F.args_str_translate_2 _ _) (zeO (f := G.f) (x := c) (u := u) hc) ⟨⟨hm,hu⟩,fun k k' => ?_⟩
   rw [if_pos hsp] at hQ
   refine hQ _ F' _ (st.toks k') (.val (.str (l := [92,c]) k (fun c' h => ?_) (by simp [lim])))
   simp only [List.mem_cons,List.not_mem_nil,or_false] at h
   rcases h with rfl | rfl <;> omega
  | false =>
   refine call_meetsIn PySem.F.slot_str_translate (typeIs_str _ _ _) PySem.F.entry_str_translate (PySem.F.args_str_translate_2 _ _) (zd6 (f := G.f) hc G.sys) ⟨⟨hm,G.no c hc hsp,H.bud.hd⟩,fun h' k k' hk' => ?_⟩
   rw [if_neg (by rw [hsp]; decide)] at hQ
   refine hQ _ F' _ (st.trans (Step.grown H.ok st.wd k' hk')) (.val (.str (l := [c]) k (fun c' h => ?_) (by simp [lim])))
   simp only [List.mem_cons,List.not_mem_nil,or_false] at h
   subst h; omega
 ·injection e2
theorem ziz {a b : PySem.Str} {e : Expr} {y : X} {k k' : Nat} {p p' p'' pos : Pos} {la lb : List Nat} (h : Sound cx ε e y) (ha : constD (.str a) = some (.str la)) (hb : constD (.str b) = some (.str lb)) :
  Sound cx ε (.JoinedStr [.Constant (.str a) k p,.FormattedValue e (-1) none p',.Constant (.str b) k' p''] pos) (.op .fmt (.cons (.const (.str la)) (.cons y (.cons (.const (.str lb)) .nil)))) := by
 refine Sound.ofE ?_ fun _ => rfl
 intro n cf A env F s ρ ad m cm H res he Q E hQ
 obtain ⟨rs,e1,e2⟩ := ev_op he
 obtain ⟨r0,rs0,e3,e4,rfl⟩ := zaD e1
 obtain ⟨r1,rs1,e5,e6,rfl⟩ := zaD e4
 obtain ⟨r2,rs2,e7,e8,rfl⟩ := zaD e6
 obtain rfl := zbq e8
 have c0 : r0 = .val (.str la) := by replace e3 := (zbl _).symm.trans e3; (injection e3 with e3; injection e3 with e3 z; clear z; subst e3); rfl
 have c2 : r2 = .val (.str lb) := by replace e7 := (zbl _).symm.trans e7; (injection e7 with e7; injection e7 with e7 z; clear z; subst e7); rfl
 subst c0; subst c2
 obtain ⟨l2,hr1,e2⟩ := Option.bind_eq_some_iff.mp (show (strO r1.ds).bind (fun b => strD (la ++ b ++ lb)) = some res from e2)
 replace hr1 := zbd hr1
 obtain ⟨hz,rfl⟩ := zbx (show (if (la ++ l2 ++ lb).length ≤ lim then some (R.val (.str (la ++ l2 ++ lb))) else none) = some res from e2)
 ·skip
  refine wpAny_JoinedStr ?_
  show wpAny _ _ (eval (.Constant (.str a) k p) env) _ E s
  refine (zab ha).ev n cf A env F s ρ ad m cm H _ e3 _ _ fun v F1 s1 st1 q1 => ?_
  have q1 := q1.brep
  obtain ⟨t1,rfl,p1,z1⟩ := BRep.str_inv (l := la) q1
  have H1 := H.step st1
  refine ⟨_,_,rfl, ?_, ?_⟩
  ·show (Str.empty ++ PySem.Str.mk la.toArray).length ≤ sizeLine
   have : (Str.empty ++ PySem.Str.mk la.toArray).length = la.length := by
    rw [strLen_append]; show 0 + la.toArray.size = _; simp
   rw [this]; exact zaC z1
  show wpAny _ _ (eval (.FormattedValue e (-1) none p') env) _ E s1
  refine wpAny_FormattedValue_plain ?_
  refine h.ev n cf A env F1 s1 ρ ad m cm H1 r1 e5 _ _ fun v F2 s2 st2 q2 => ?_
  have q2 := q2.brep
  rw [hr1] at q2
  obtain ⟨t2,rfl,p2,z2⟩ := q2.str_inv
  have len1 : (Str.empty ++ PySem.Str.mk la.toArray).length = la.length := by
   rw [strLen_append]; show 0 + la.toArray.size = _; simp
  have len2 : (Str.empty ++ PySem.Str.mk la.toArray ++ PySem.Str.mk l2.toArray).length = la.length + l2.length := by
   rw [strLen_append,len1]; show _ + l2.toArray.size = _; simp
  have hz' : la.length + l2.length + lb.length ≤ lim := by rw [List.length_append,List.length_append] at hz; exact hz
  have rest : ∀ t2' k2, ∃ y t,(Value.str ⟨l2.toArray⟩ t2') = .str y t ∧ (Str.empty ++ PySem.Str.mk la.toArray ++ y).length ≤ sizeLine ∧ Joins (model cx.prog cx.w) A E (evalEach [.Constant (.str b) k' p''] env) (Str.empty ++ PySem.Str.mk la.toArray ++ y) (fun out s₁ => out.length ≤ sizeLine ∧ Q (.str out s₁.toks) { s₁ with toks := s₁.toks + 1 }) { s2 with toks := k2 } := by
   intro t2' k2
   refine ⟨_,_,rfl,by rw [len2]; exact zaC (by omega), ?_⟩
   show wpAny _ _ (eval (.Constant (.str b) k' p'') env) _ E _
   have H2 := (H1.step st2).step ((Step.refl (H1.step st2).wd).toks k2)
   refine (zab hb).ev n cf A env F2 _ ρ ad m cm H2 _ e7 _ _ fun v F3 s3 st3 q3 => ?_
   have q3 := q3.brep
   obtain ⟨t3,rfl,p3,z3⟩ := BRep.str_inv (l := lb) q3
   have len3 : (Str.empty ++ PySem.Str.mk la.toArray ++ PySem.Str.mk l2.toArray ++ PySem.Str.mk lb.toArray).length = la.length + l2.length + lb.length := by
    rw [strLen_append,len2]; show _ + lb.toArray.size = _; simp
   refine ⟨_,_,rfl,by rw [len3]; exact zaC hz', ?_⟩
   refine ⟨by rw [len3]; exact zaC hz', ?_⟩
   have e : (Str.empty ++ PySem.Str.mk la.toArray ++ PySem.Str.mk l2.toArray ++ PySem.Str.mk lb.toArray) = PySem.Str.mk (la ++ l2 ++ lb).toArray := by
    show PySem.Str.mk (#[] ++ la.toArray ++ l2.toArray ++ lb.toArray) = _
    simp
   rw [e]
   refine hQ _ F3 _ ((st1.trans ((st2.toks k2).trans st3)).toks _) (.val (.str _ (fun c hc => ?_) (by simpa [List.length_append] using hz)))
   rcases List.mem_append.mp hc with hc | hc
   ·rcases List.mem_append.mp hc with hc | hc
    ·exact p1 c hc
    ·exact p2 c hc
   ·exact p3 c hc
  refine wpAny_formatField_str (rest t2 s2.toks) (rest s2.toks (s2.toks + 1)) ?_
  show l2.toArray.size ≤ sizeLine
  rw [List.size_toArray]; exact zaC z2
end
end Mine
end
section MpZ2x
open PySem PySem.Builtin.Str
namespace Mine
open PySem.Builtin PySem.Builtin.Re
section
variable {prog : Program} {w : World} {A A₀ : Around} {E : VP} {s : Shared} {P C : Addr} {codes : Array Value} {a : Array Nat} {u : Tok}
theorem zk5 : ∀ (ps : List (PySem.Str × Tok)),(∀ p ∈ ps,p.1.cps.size ≤ 1000) → (ps.map fun x => x.1.cps.size).sum ≤ ps.length * 1000
 | [],_ => Nat.le_refl _
 | p :: r,h => by
  have h1 := h p List.mem_cons_self
  have h2 := zk5 r fun q hq => h q (List.mem_cons_of_mem _ hq)
  simp only [List.map_cons,List.sum_cons,List.length_cons]
  rw [Nat.succ_mul,Nat.add_comm]; exact Nat.add_le_add h2 h1
theorem zh6 {h : Heap} {a : Addr} {vs : Array Value} {n : Nat} (g : h.get? a = some (lobj vs n)) : h.IsList a vs := ⟨_,g,rfl,n,rfl⟩
theorem zjg {R : Result → Shared → Prop} (hp : PatAt s.heap P C codes) {repl : Value} {n done start : Nat} {must : Bool} {pc : Addr} {ps : List (PySem.Str × Tok)} {kk : Nat} (hl : s.heap.get? pc = some (lobj (strValues ps).toArray kk))
  (hf : ∃ k,k < 100 ∧ ((Sre.forSearch reCode a 1 start a.size must).runFor (4 * (k + 1))).outcome = some .failed) (hz : ps.length ≤ 1000) (ha : a.size ≤ 1000) (hps : ∀ p ∈ ps,p.1.cps.size ≤ 100)
  {res : PySem.Str} (hres : Txt.join Str.empty (ps.map (·.1) ++ (if done < a.size then [⟨a.extract done a.size⟩] else [])) = res)
  (h : ∀ h' tk t,Heap.SameBut pc s.heap h' → R (.ok (.ret (.str res t))) { s with heap := h',toks := tk }) :
  wpAny (model prog w) A (Builtin.«re.Pattern.sub.loop» ⟨[.ref P,.str ⟨a⟩ u,repl,rawInt 1,rawInt 0,rawInt n,rawInt done,rawInt start,.bool must,.ref pc,.bool false],[]⟩) (fun fin s' => match fin with | .done f => R (.ok f) s' | .again c' => c'.quiet = true ∧ codeAny (model prog w) A₀ c' R s') E s := by
 obtain ⟨k,hk,ho⟩ := hf
 unfold Builtin.«re.Pattern.sub.loop»
 refine wb (zgY hp ?_)
 show wpAny _ _ (reNextFound _ start must >>= _) _ _ _
 unfold reNextFound
 refine wb (zie k hk ho ?_)
 have jn : ∀ (ps' : List (PySem.Str × Tok)) (k' : Nat) (s' : Shared),s'.heap.get? pc = some (lobj (strValues ps').toArray k') → ps'.length ≤ 1001 → (∀ p ∈ ps',p.1.cps.size ≤ 1000) → Txt.join Str.empty (ps'.map (·.1)) = res → (∀ tk t,R (.ok (.ret (.str res t))) { s' with toks := tk }) →
   wpAny (model prog w) A (do
    let joiner ← reSlice a 0 0 0
    let text ← if ((← seqItems? (.ref pc)).getD #[]).isEmpty then pure joiner
     else call (.builtin (if (0 : Nat) == 0 then "str.join" else "bytes.join")) [joiner,.ref pc]
    if false then ret (← holding [text] do newTuple [text, ← mkInt (n : Int)]) else ret text) (fun fin s' => match fin with | .done f => R (.ok f) s' | .again c' => c'.quiet = true ∧ codeAny (model prog w) A₀ c' R s') E s' := by
  intro ps' k' s' g hz' hsz' hr hR
  have e0 : (PySem.Str.mk (a.extract 0 0)) = Str.empty := by simp [Str.empty]
  unfold reSlice
  simp only [beq_self_eq_true,if_true]
  rw [e0]
  refine wb (wpAny_mkStr ?_ (by decide))
  refine wb (wb (wpAny_load g (wpAny_pure ?_)))
  cases ps' with
  | nil =>
   have hr' : res = Str.empty := by rw [← hr]; rfl
   rw [hr'] at hR
   exact wpAny_pure (hR _ _)
  | cons p r =>
   rw [if_neg (by simp [strValues])]
   refine wb (SC.join (l := p :: r) (texts := (p :: r).map (·.1)) (zh6 g) rfl ?_ fun t' k2 => ?_)
   ·unfold JoinOk tooLong
    rw [zfa,Nat.zero_add]
    have hb := zk5 (p :: r) hsz'
    have hs : ((List.map (fun x => x.1) (p :: r)).map fun x => x.length + Str.empty.length).sum = ((p :: r).map fun x => x.1.cps.size).sum := by
     rw [List.map_map]; rfl
    rw [hs]
    simp only [Bool.not_eq_true',decide_eq_false_iff_not]
    rw [sizeLine_eq]
    have : (p :: r).length * 1000 ≤ 1001 * 1000 := Nat.mul_le_mul_right _ hz'
    exact Nat.not_lt.mpr (Nat.le_trans hb (Nat.le_trans this (by decide)))
   ·rw [hr]
    exact wpAny_pure (hR _ _)
 by_cases hd : done < a.size
 ·rw [if_pos hd] at hres
  show wpAny _ _ (do
   if (done : Int).toNat < a.size then updateSeq pc (·.push (← reSlice a 0 (done : Int).toNat a.size))
   let joiner ← reSlice a 0 0 0
   let text ← if ((← seqItems? (.ref pc)).getD #[]).isEmpty then pure joiner
    else call (.builtin (if (0 : Nat) == 0 then "str.join" else "bytes.join")) [joiner,.ref pc]
   if false then ret (← holding [text] do newTuple [text, ← mkInt (n : Int)]) else ret text) _ _ _
  rw [if_pos (by simpa using hd)]
  have e1 : (done : Int).toNat = done := Int.toNat_natCast done
  rw [e1]
  unfold reSlice
  simp only [beq_self_eq_true,if_true]
  have hsz : (PySem.Str.mk (a.extract done a.size)).cps.size ≤ 1000 := by show (a.extract done a.size).size ≤ 1000; rw [Array.size_extract]; exact Nat.le_trans (Nat.sub_le _ _) (Nat.le_trans (Nat.min_le_left _ _) ha)
  refine wb (wpAny_mkStr ?_ (by show (a.extract done a.size).size ≤ _; have := hsz; rw [sizeLine_eq]; exact Nat.le_trans hsz (by decide)))
  have hlp : (strValues ps).toArray.size ≤ sizeLine := by rw [List.size_toArray]; unfold strValues; rw [List.length_map,sizeLine_eq]; exact Nat.le_trans hz (by decide)
  refine wb (wpAny_updateSeq (o := lobj (strValues ps).toArray kk) hl rfl ?_ hlp (by rw [Array.size_push]; omega))
  have e2 : (strValues ps).toArray.push (.str ⟨a.extract done a.size⟩ s.toks) = (strValues (ps ++ [(⟨a.extract done a.size⟩,s.toks)])).toArray := by
   unfold strValues; simp
  have g' := IsL.update (n := kk) (items := (strValues ps).toArray) (show IsL s.heap pc (strValues ps).toArray kk from hl) fun x => x.push (.str ⟨a.extract done a.size⟩ s.toks)
  simp only [e2] at g'
  have := jn (ps ++ [(⟨a.extract done a.size⟩,s.toks)]) _ { s with heap := s.heap.update pc (Obj.mapSeq fun x => x.push (.str ⟨a.extract done a.size⟩ s.toks)),toks := s.toks + 1 } g' (by rw [List.length_append]; exact Nat.succ_le_succ hz) (fun p hp => ?_) (by rw [List.map_append]; exact hres) (fun tk t => h _ _ _ (Heap.SameBut.update ..))
  ·unfold reSlice at this
   exact this
  ·rcases List.mem_append.mp hp with hp | hp
   ·exact Nat.le_trans (hps p hp) (by decide)
   ·simp only [List.mem_cons,List.not_mem_nil,or_false] at hp
    subst hp
    exact hsz
 ·rw [if_neg hd,List.append_nil] at hres
  show wpAny _ _ (do
   if (done : Int).toNat < a.size then updateSeq pc (·.push (← reSlice a 0 (done : Int).toNat a.size))
   let joiner ← reSlice a 0 0 0
   let text ← if ((← seqItems? (.ref pc)).getD #[]).isEmpty then pure joiner
    else call (.builtin (if (0 : Nat) == 0 then "str.join" else "bytes.join")) [joiner,.ref pc]
   if false then ret (← holding [text] do newTuple [text, ← mkInt (n : Int)]) else ret text) _ _ _
  rw [if_neg (by simpa using hd)]
  exact jn ps kk s hl (Nat.le_succ_of_le hz) (fun p hp => Nat.le_trans (hps p hp) (by decide)) hres (fun tk t => h s.heap tk t (Heap.SameBut.refl ..))
end
end Mine
end MpZ2x
section MpZ3x
open PySem PySem.Builtin.Str
namespace Mine
open PySem.Builtin PySem.Builtin.Re
section
variable {prog : Program} {w : World} {A A₀ : Around} {E : VP} {s : Shared} {P C : Addr} {codes : Array Value} {a : Array Nat} {u : Tok}
end
end Mine
end MpZ3x
section MpZ4x
open PySem PySem.Builtin.Str
namespace Mine
open PySem.Builtin PySem.Builtin.Re
theorem fn_call : ∃ v,typeLookup (.type "function") "__call__" = pure (some v) := ⟨.builtin "function.__call__",by rw [typeLookup_type,builtinLookup_eq_fast]; kernel_rfl⟩
theorem zcE : isSubtype (.type "str") (.type "bytearray") = pure false := by rw [isSubtype_type]; kernel_rfl
section
variable {prog : Program} {w : World} {A A₀ : Around} {E : VP} {s : Shared} {P C : Addr} {codes : Array Value} {a : Array Nat} {u : Tok}
theorem ziu {R : Result → Shared → Prop} (hp : PatAt s.heap P C codes) {lam : Addr} {ol : Obj} (hl : s.heap.get? lam = some ol) (hc : ol.cls = .type "function")
  (h : codeAny (model prog w) A₀ (.builtin "re.Pattern.sub.loop" ⟨[.ref P,.str ⟨a⟩ u,.ref lam,rawInt 1,rawInt 0,rawInt 0,rawInt 0,rawInt 0,.bool false,.ref s.heap.objs.size,.bool false],[]⟩) R { s with heap := s.heap.push (lobj #[] 0) }) :
  wpAny (model prog w) A (Builtin.«re.Pattern.sub» ⟨[.ref P,.ref lam,.str ⟨a⟩ u],[]⟩) (fun fin s' => match fin with | .done f => R (.ok f) s' | .again c' => c'.quiet = true ∧ codeAny (model prog w) A₀ c' R s') E s := by
 obtain ⟨hh,g,d,tk,os⟩ := s
 have hT : (⟨hh,g,d,tk,os⟩ : Shared).TypeIs (.ref lam) "function" := ⟨ol,hl,hc⟩
 obtain ⟨cv,f1⟩ := fn_call
 have f2 := zcE
 unfold Builtin.«re.Pattern.sub» reSubstitute
 repeat (any_goals (first | assumption | ((with_reducible show wpAny _ _ (reWholeTarget _ _) _ _ _); refine zgY hp ?_) | wp_step))
 exact ⟨plainId_quiet zb2 _,h⟩
end
end Mine
end MpZ4x
section
open PySem PySem.Builtin.Str PySem.W PySem.Calls PyProof.Rows
namespace Mine
noncomputable def TabXF (c Pt : Addr) (qs : List (Pos × PySem.Str)) (F : AP) (h : Heap) : Prop :=
 F c ∧ CodeHd h c Pt ∧ ∃ ps,h.get? Pt = some (tabObj ps) ∧ TriplesOk ps.toList ∧ ∀ pos q,(pos,q) ∈ qs → ∀ cv,codeAmong pos ps.toList = some cv → ∃ c',cv = .ref c' ∧ F c' ∧ h.CodeRec (.ref c') q
theorem TabXF.mono {c Pt : Addr} {qs : List (Pos × PySem.Str)} {F F' : AP} {h h' : Heap} (x : TabXF c Pt qs F h) (hF : ∀ a,F a → F' a) (hk : ∀ a o,F a ∨ a = Pt → h.get? a = some o → h'.get? a = some o) : TabXF c Pt qs F' h' := by
 obtain ⟨fc,⟨o,vs,file,tf,flags,tg,inF,text,tt,e,r⟩,ps,g,ht,hq⟩ := x
 refine ⟨hF _ fc,⟨o,vs,file,tf,flags,tg,inF,text,tt,hk _ _ (.inl fc) e,r⟩,ps,hk _ _ (.inr rfl) g,ht,fun pos q hm cv hc => ?_⟩
 obtain ⟨c',e',f',rec⟩ := hq pos q hm cv hc
 exact ⟨c',e',hF _ f',rec.at fun o e => hk _ o (.inl f') e⟩
theorem zbG {pos p2 : Pos} {c : Value} : ∀ {l : List Value},TriplesOk l → (pos.line ≠ p2.line ∨ pos.col ≠ p2.col) → codeAmong pos (l ++ [rawInt p2.line,rawInt p2.col,c]) = codeAmong pos l
 | l,h,hne => by
  fun_induction TriplesOk l with
  | case1 =>
   simp only [List.nil_append,codeAmong,rawInt]
   rw [if_neg]
   intro hh
   simp only [Bool.and_eq_true,beq_iff_eq] at hh
   omega
  | case2 a t b u x rest ih =>
   simp only [List.cons_append,codeAmong]
   split
   ·rfl
   ·exact ih h
  | case3 l h1 h2 => exact h.elim
set_option genInjectivity false in
structure LamG (cx : XCx) where
 c : Addr
 Pt : Addr
 qs : List (Pos × PySem.Str)
 xget : ∀ F h,cx.XF F h → TabXF c Pt qs F h
 xset : ∀ F F' h h',cx.XF F h → (∀ a,F a → F' a) → (∀ a o,F a ∨ (cx.X a ∧ a ≠ Pt) → h.get? a = some o → h'.get? a = some o) → TabXF c Pt qs F' h' → cx.XF F' h'
 xp : cx.X Pt
 x0 : ∀ a o,cx.h0.get? a = some o → ¬ cx.X a
 apart : qs.Pairwise fun a b => a.1.line ≠ b.1.line ∨ a.1.col ≠ b.1.col
 blt : cx.h0.BuiltinsAt cx.mg Pt
section
variable {cx : XCx} {ε : Sc}
theorem zge {qs : List (Pos × PySem.Str)} (ap : qs.Pairwise fun a b => a.1.line ≠ b.1.line ∨ a.1.col ≠ b.1.col) {p1 p2 : Pos} {q1 q2 : PySem.Str} (h1 : (p1,q1) ∈ qs) (h2 : (p2,q2) ∈ qs) : (p1 = p2 ∧ q1 = q2) ∨ p1.line ≠ p2.line ∨ p1.col ≠ p2.col := by
 induction qs with
 | nil => cases h1
 | cons x r ih =>
  obtain ⟨a1,a2⟩ := List.pairwise_cons.mp ap
  rcases List.mem_cons.mp h1 with e1 | h1
  ·rcases List.mem_cons.mp h2 with e2 | h2
   ·rw [← e1] at e2; cases e2; exact .inl ⟨rfl,rfl⟩
   ·have := a1 _ h2; rw [← e1] at this; exact .inr this
  ·rcases List.mem_cons.mp h2 with e2 | h2
   ·have := a1 _ h1; rw [← e2] at this; exact .inr (this.imp Ne.symm Ne.symm)
   ·exact ih a2 h1 h2
theorem zkJ (G : LamG cx) {n cf A env F s ρ ad m cm} (H : Here cx ε n cf A env F s ρ ad m cm) {qual : PySem.Str} (hcode : ε.code = some (G.c,qual)) {params : Arguments} {body : Expr} {scope : Scope} {pos : Pos} (hdef : defaultsOf params env = ([],[]))
  (hq : (pos,qual ++ "<lambda>") ∈ G.qs) (hcl : closureFor scope env = pure []) {Q E : VP}
  (hQ : ∀ F' s' lam c' ctv,Step cx F s F' s' → s.heap.get? lam = none → ¬ F' lam → s'.heap.get? lam = some (kla_obj "<lambda>" (qual ++ "<lambda>") params body scope [] ((cx.mg "__name__").getD .none) c' ctv) → F' c' → s'.heap.CodeRec (.ref c') (qual ++ "<lambda>") → Q (.ref lam) s') :
  wpAny (model cx.prog cx.w) A (eval (.Lambda params body scope pos) env) Q E s := by
 obtain ⟨hc,hqual⟩ := H.env.code _ _ hcode
 refine kla_eval hdef ?_
 rw [hqual]
 obtain ⟨fc,hd,ps,g,ht,hqs⟩ := G.xget _ _ H.wd.xi
 have hg := H.wd.glob H.ok
 have nP : ∀ {a o},cx.h0.get? a = some o → a ≠ G.Pt → s.heap.get? a = some o := fun e _ => H.wd.base _ _ e (G.x0 _ _ e)
 have hgP : mainGlobals ≠ G.Pt := fun e => H.ok.gx (e ▸ G.xp)
 have hblt : s.heap.BuiltinsAt cx.mg G.Pt := by
  obtain ⟨bm,o,b1,b2,b3,b4,b5,r⟩ := G.blt
  exact ⟨bm,o,b1,b2,b3,b4,nP b5 b4,r⟩
 cases hca : codeAmong pos ps.toList with
 | none =>
  refine kla_makeFunction hcl H.env.glob hg hc hd g ht hca hgP hblt fun c' ctv h' tk hx hge hlt hrec htb => ?_
  have hXP : cx.X G.Pt := G.xp
  have fP : ¬ F G.Pt := fun h => H.wd.nx _ h hXP
  have keep : ∀ a o,s.heap.get? a = some o → ¬ cx.X a → h'.get? a = some o := fun a o e nx => hx a o (fun e' => nx (e' ▸ G.xp)) e
  have frc : s.heap.get? c' = none := by
   cases e : s.heap.get? c' with
   | none => rfl
   | some o => exact absurd (Heap.lt_size e) (Nat.not_lt.mpr hge)
  have ndC : ¬ cx.X c' := H.wd.newNotX frc
  obtain ⟨c2,oc,vs,t,e2,goc,r⟩ := hrec
  (injection e2 with e2; subst e2)
  let h3 : Heap := h'.push (kla_obj "<lambda>" (qual ++ "<lambda>") params body scope [] ((cx.mg "__name__").getD .none) c' ctv)
  have up : ∀ a o,h'.get? a = some o → h3.get? a = some o := fun a o e => Heap.get?_push_of_some _ e
  have frl : s.heap.get? h'.objs.size = none := by
   cases e : s.heap.get? h'.objs.size with
   | none => rfl
   | some o => exact absurd (Nat.lt_of_lt_of_le (Heap.lt_size e) (Nat.le_trans hge (Nat.le_of_lt hlt))) (Nat.lt_irrefl _)
  have rec3 : h3.CodeRec (.ref c') (qual ++ "<lambda>") := ⟨c',oc,vs,t,rfl,up _ _ goc,r⟩
  have st : Step cx F s (fun a => F a ∨ a = c') { s with heap := h3,toks := tk } := by
   refine ⟨fun _ h => .inl h,fun a h => h.imp (fun h => h) (fun (e : a = c') => by rw [e]; exact frc),fun a o e nx => up _ _ (keep a o e nx),rfl,⟨fun a o e nx => up _ _ (keep a o (H.wd.base a o e nx) nx), ?_,H.wd.gens,fun a o e nx => .inl (H.wd.f0 a o e nx),fun a h => ?_,fun a h => h.elim (H.wd.nx a) (fun (e : a = c') => by rw [e]; exact ndC),fun a h => ?_⟩⟩
   ·refine G.xset _ _ _ _ H.wd.xi (fun _ h => .inl h) (fun a o h e => up _ _ (hx a o (h.elim (fun f e' => fP (e' ▸ f)) (·.2)) e)) ⟨.inl fc, ?_,_,up _ _ htb, ?_,fun p q hm cv hcv => ?_⟩
    ·obtain ⟨o,vs,file,tf,flags,tg,inF,text,tt,e,r⟩ := hd
     exact ⟨o,vs,file,tf,flags,tg,inF,text,tt,up _ _ (keep _ _ e (H.wd.nx _ fc)),r⟩
    ·have := TriplesOk_snoc pos.line pos.col (.ref c') ps.toList ht
     simpa using this
    ·have ea : (ps ++ #[rawInt pos.line,rawInt pos.col,.ref c']).toList = ps.toList ++ [rawInt pos.line,rawInt pos.col,.ref c'] := by simp
     rw [ea] at hcv
     rcases zge G.apart hm hq with ⟨rfl,rfl⟩ | hne
     ·rw [codeAmong_snoc _ ht hca] at hcv
      (injection hcv with hcv; subst hcv)
      exact ⟨c',rfl,.inr rfl,rec3⟩
     ·rw [zbG ht hne] at hcv
      obtain ⟨c4,e4,f4,r4⟩ := hqs p q hm cv hcv
      exact ⟨c4,e4,.inl f4,r4.at fun o e => up _ _ (keep _ _ e (H.wd.nx _ f4))⟩
   ·rcases h with h | h
    ·obtain ⟨o,e⟩ := H.wd.lt a h
     exact ⟨o,up _ _ (keep a o e (H.wd.nx a h))⟩
    ·subst h; exact ⟨oc,up _ _ goc⟩
   ·by_cases ea : a = G.Pt
    ·rw [ea]; exact ⟨_,up _ _ htb⟩
    ·obtain ⟨o,e⟩ := H.wd.xex a h
     exact ⟨o,up _ _ (hx a o ea e)⟩
  refine hQ _ _ _ c' ctv st frl (fun h => ?_) (Heap.get?_push_size _ rfl) (.inr rfl) rec3
  rcases h with h | h
  ·obtain ⟨o,e⟩ := H.wd.lt _ h
   rw [frl] at e; injection e
  ·rw [← h] at hlt; exact absurd hlt (Nat.lt_irrefl _)
 | some cv =>
  obtain ⟨c',rfl,fc',rec⟩ := hqs pos _ hq cv hca
  refine kla_makeFunctionHit hcl H.env.glob hg hc hd g ht hca hblt fun ctv h' tk hk hsz => ?_
  have up : ∀ a o,s.heap.get? a = some o → (h'.push (kla_obj "<lambda>" (qual ++ "<lambda>") params body scope [] ((cx.mg "__name__").getD .none) c' ctv)).get? a = some o := fun a o e => Heap.get?_push_of_some _ (hk a o e)
  have frl : s.heap.get? h'.objs.size = none := by
   cases e : s.heap.get? h'.objs.size with
   | none => rfl
   | some o => exact absurd (Nat.lt_of_lt_of_le (Heap.lt_size e) hsz) (Nat.lt_irrefl _)
  refine hQ F _ _ c' ctv (Step.grown H.ok H.wd tk up) frl (H.wd.newNotF frl) (Heap.get?_push_size _ rfl) fc' (rec.at fun o e => up _ _ e)
end
section
variable {cx : XCx} {A : Around} {E : VP} {s : Shared} {Pa : Addr} {a : Array Nat} {u : Tok}
noncomputable def lamBody (k1 k2 k3 : Nat) (p1 p2 p3 p4 p5 p6 p7 p8 : Pos) : Expr :=
 .BinOp (.Constant (.str "\\") k1 p1) .Add (.BoolOp .Or [.Call (.Attribute (.Name "_m" p2) "group" p3) [.Constant (.int 1) k2 p4] [] p5,.Constant (.str "") k3 p6] p7) p8
end
noncomputable def lamParams (p : Pos) : Arguments := { posonlyargs := [],args := [{ arg := "_m",annotation := none,pos := p }],vararg := none,kwonlyargs := [],kw_defaults := [],kwarg := none,defaults := [] }
noncomputable def lamScope : Scope := { kind := .function,names := [("_m",.local)],isGenerator := false,isCoroutine := false }
section
variable {cx : XCx} {A : Around} {E : VP} {s : Shared} {Pa : Addr} {a : Array Nat} {u : Tok}
end
end Mine
end
section MpZ8x
open PySem PySem.Builtin.Str PySem.W PySem.Calls PyProof.Rows
namespace Mine
open PySem.Builtin PySem.Builtin.Re
noncomputable def failedB (m : Sre.M) : Bool := match m.outcome with | some .failed => true | _ => false
theorem zic {m : Sre.M} (h : failedB m = true) : m.outcome = some .failed := by
 unfold failedB at h
 split at h
 ·assumption
 ·injection h
theorem zkv : (noHit.all fun a => failedB ((Sre.forSearch reCode a.toArray 1 0 a.toArray.size false).runFor (4 * (0 + 1)))) = true := by decide +kernel
section
variable {prog : Program} {w : World} {A : Around} {s : Shared}
theorem zjh {args : Args} {R : Result → Shared → Prop}
  (h : wpAny (model prog w) A.in1 (Builtin.«re.Pattern.sub.loop» args) (fun fin s' => match fin with | .done f => R (.ok f) s' | .again c' => c'.quiet = true ∧ codeAny (model prog w) A c' R s') (fun e s' => R (.error e) s') s) :
  codeAny (model prog w) A (.builtin "re.Pattern.sub.loop" args) R s :=
 codeAny_builtin zel (by rw [Around.under_plainId zb2 _]; exact h)
theorem zi9 {P C : Addr} {codes : Array Value} {a : Array Nat} {u : Tok} {lam : Addr} :
  MeetsIn prog w (Builtin.«re.Pattern.sub» ⟨[.ref P,.ref lam,.str ⟨a⟩ u],[]⟩) (fun A R s => (PatAt s.heap P C codes ∧ ∃ ol,s.heap.get? lam = some ol ∧ ol.cls = .type "function") ∧
   codeAny (model prog w) A (.builtin "re.Pattern.sub.loop" ⟨[.ref P,.str ⟨a⟩ u,.ref lam,rawInt 1,rawInt 0,rawInt 0,rawInt 0,rawInt 0,.bool false,.ref s.heap.objs.size,.bool false],[]⟩) R { s with heap := s.heap.push (lobj #[] 0) }) :=
 fun A R s hs => by
  obtain ⟨⟨hp,ol,hl,hc⟩,h⟩ := hs
  exact ziu (A := A.in1) (A₀ := A) hp hl hc h
theorem zj7 {P C : Addr} {codes : Array Value} {a : List Nat} {u : Tok} (ha : noHit.contains a = true) (hp : PatAt s.heap P C codes) {lam : Addr} {ol : Obj} (hl : s.heap.get? lam = some ol) (hc : ol.cls = .type "function") {Q E : VP}
  (h : ∀ h' tk t,(∀ b o,s.heap.get? b = some o → h'.get? b = some o) → Q (.str ⟨a.toArray⟩ t) { s with heap := h',toks := tk }) :
  wpAny (model prog w) A (call (.builtin "re.Pattern.sub") [.ref P,.ref lam,.str ⟨a.toArray⟩ u]) Q E s := by
 have hT : s.TypeIs (.ref P) "re.Pattern" := by
  obtain ⟨x,t,u,v,w,y,e,_⟩ := hp.pat
  exact ⟨_,e,rfl⟩
 have hm : a ∈ noHit := by simpa using ha
 have hf := zic (List.all_eq_true.mp zkv a hm)
 have hlen : a.length ≤ 10 := by
  have : (noHit.all fun a => decide (a.length ≤ 10)) = true := by decide
  simpa using List.all_eq_true.mp this a hm
 refine call_meetsIn zcW hT zfi (zeq _ _ _) zi9 ⟨⟨hp,ol,hl,hc⟩,zjh ?_⟩
 have hk : ∀ b o,s.heap.get? b = some o → (s.heap.push (lobj #[] 0)).get? b = some o := fun b o e => Heap.get?_push_of_some _ e
 have hnew : (s.heap.push (lobj #[] 0)).get? s.heap.objs.size = some (lobj (strValues []).toArray 0) := Heap.get?_push_size _ rfl
 refine zjg (n := 0) (done := 0) (start := 0) (ps := []) (kk := 0) (res := ⟨a.toArray⟩) (hp.keeps hk) hnew ⟨0,by decide,hf⟩ (by simp) (by rw [List.size_toArray]; omega) (by simp) ?_ fun h' tk t sb => ?_
 ·cases a with
  | nil => rfl
  | cons c r =>
   rw [if_pos (by simp)]
   have e : (c :: r).toArray.extract 0 (c :: r).toArray.size = (c :: r).toArray := by simp
   rw [e]
   unfold Txt.join
   have := zcN [] [c :: r]
   simpa [joinL,Str.empty] using this
 ·refine h h' tk t fun b o e => (sb.2 b (Nat.ne_of_lt (Heap.lt_size e))).trans (hk b o e)
end
end Mine
end MpZ8x
section MpZ9x
open PySem PySem.Builtin.Str PySem.W PySem.Calls PyProof.Rows
namespace Mine
open PySem.Builtin PySem.Builtin.Re
section
variable {cx : XCx} {A : Around} {s : Shared}
end
end Mine
end MpZ9x
section
open PySem PySem.Builtin.Str PySem.W PySem.Calls PyProof.Rows
namespace Mine
set_option genInjectivity false in
structure PatG (cx : XCx) where
 P : Addr
 C : Addr
 codes : Array Value
 nP : ¬ cx.X P
 nC : ¬ cx.X C
 at0 : PatAt cx.h0 P C codes
theorem PatG.at {cx : XCx} (G : PatG cx) {F : AP} {s : Shared} (w : Wd cx F s) : PatAt s.heap G.P G.C G.codes := by
 obtain ⟨⟨a,t,u,v,w',y,e,r⟩,⟨n,ec⟩,is⟩ := G.at0
 exact ⟨⟨a,t,u,v,w',y,w.base _ _ e G.nP,r⟩,⟨n,w.base _ _ ec G.nC⟩,is⟩
section
variable {cx : XCx} {ε : Sc}
theorem zfx (G : LamG cx) (PG : PatG cx) {x : PySem.Str} {p apos pos lp p0 : Pos} {e : Expr} {y : X} {qual : PySem.Str} {k1 k2 k3 : Nat} {p1 p2 p3 p4 p5 p6 p7 p8 : Pos} (hk : ε.kinds.lookup x = some .globalImplicit) (hv : cx.mg x = some (.ref PG.P)) (hd : (x == ("__debug__" : PySem.Str)) = false)
  (hcode : ε.code = some (G.c,qual)) (hq : (lp,qual ++ "<lambda>") ∈ G.qs) (hl : (apos.endLine == pos.line) = true) (hpl : (p3.endLine == p5.line) = true) (hst : starred e = false) (h : Sound cx ε e y) :
  Sound cx ε (.Call (.Attribute (.Name x p) "sub" apos) [.Lambda (lamParams p0) (lamBody k1 k2 k3 p1 p2 p3 p4 p5 p6 p7 p8) lamScope lp,e] [] pos) (.op .resub0 (.cons y .nil)) := by
 refine Sound.ofE ?_ fun _ => rfl
 intro n cf A env F s ρ ad m cm H res he Q E hQ
 obtain ⟨rs,e1,e2⟩ := ev_op he
 obtain ⟨r0,rs',e3,e4,rfl⟩ := zaD e1
 obtain rfl := zbq e4
 have hstL : starred (.Lambda (lamParams p0) (lamBody k1 k2 k3 p1 p2 p3 p4 p5 p6 p7 p8) lamScope lp) = false := rfl
 have hany : (backTo pos (starEach [.Lambda (lamParams p0) (lamBody k1 k2 k3 p1 p2 p3 p4 p5 p6 p7 p8) lamScope lp,e] env)).any (·.1) = false := by
  rw [zaq hstL,zav,List.any_cons,zaq hst,zav,List.any_cons]; rfl
 refine zbD rfl hl (by simp) hany ?_
 refine zbj H hk hv hd ?_
 obtain ⟨px,pt,pu,pv,pw,py,pe,_⟩ := (PG.at H.wd).pat
 refine getMethod_builtin (T := "re.Pattern") ⟨_,pe,rfl⟩ zef zcW zfr (fun a e => ⟨_,by cases e; exact pe,rfl⟩) ?_
 refine Calls.callWith_builtin hany ?_
 rw [zaq hstL,zav,zaq hst,zav]
 have hcl : closureFor lamScope env = pure [] := closureFor_none (by intro y hy; simp [lamScope] at hy; subst hy; decide)
 refine Calls.evalArgs_plain (Calls.spliced_cons (zkJ G H hcode rfl hq hcl fun F1 s1 lam c' ctv st1 fr1 nf1 g1 fc1 rec1 => ?_))
 have H1 := H.step st1
 refine Calls.spliced_cons (h.ev n cf A env F1 s1 ρ ad m cm H1 r0 e3 _ _ fun v F2 s2 st2 q2 => Calls.spliced_nil ?_)
 show wpAny _ _ (call (.builtin "re.Pattern.sub") [.ref PG.P,.ref lam,v]) _ _ s2
 have nxl : ¬ cx.X lam := H.wd.newNotX fr1
 have g2 := st2.keep _ _ g1 nxl
 have rec2 := rec1.at fun o e => st2.keep _ o e (st1.wd.nx _ fc1)
 simp only [List.map_cons,List.map_nil] at e2; delta opF at e2; dsimp only at e2
 unfold opResub0 at e2
 split at e2
 ·rename_i a ea
  have qb := q2.brep
  have ea' : r0.ds = .str a := by simpa using ea
  rw [ea'] at qb
  obtain ⟨t,rfl,pp,z⟩ := qb.str_inv
  have stt := st1.trans st2
  split at e2
  ·rename_i hno
   (injection e2 with e2; subst e2)
   refine zj7 hno (PG.at st2.wd) g2 rfl fun h' tk t' hk' => ?_
   exact hQ _ F2 _ (stt.trans (Step.grown H.ok st2.wd tk hk')) (.val (.str t' pp z))
  ·injection e2
 ·injection e2
end
section
variable {M : Model} {A : Around} {E : VP} {s : Shared}
theorem zkP {env : Env} {c P : Addr} {ps : Array Value} {pos : Pos} {qual : PySem.Str} {scope : Scope} {Q : VP} (hc : env.code = .ref c) (C : CodeHd s.heap c P) (hP : s.heap.get? P = some (tabObj ps)) (ht : TriplesOk ps.toList)
  (hQ : ∀ code h' tk,Heap.ExtBut P s.heap h' → (h'.get? P = some (tabObj ps) ∨ (codeAmong pos ps.toList = none ∧ ∃ c',code = .ref c' ∧ s.heap.objs.size ≤ c' ∧ h'.CodeRec (.ref c') qual ∧ h'.get? P = some (tabObj (ps ++ #[rawInt pos.line,rawInt pos.col,.ref c'])))) → Q code { s with heap := h',toks := tk }) :
  wpAny M A (genexprCode env pos qual scope) Q E s := by
 cases hca : codeAmong pos ps.toList with
 | some cv =>
  obtain ⟨o,vs,file,tf,flags,tg,inF,text,tt,op,ho,hd,h11,h2,h7,h9,h10,hop,hpd,htr,hne⟩ := id (C.code hP ht)
  unfold genexprCode codeAt
  rw [hc,if_neg (show ¬ ((Value.ref c == Value.none) = true) from Bool.false_ne_true)]
  refine wb (wpAny_fieldsOf ho hd ?_)
  rw [h11]
  refine wb (wpAny_fieldsOf hop hpd ?_)
  rw [hca]
  exact wpAny_pure (hQ cv s.heap s.toks (Heap.ExtBut.refl _ _) (.inl hP))
 | none =>
  obtain ⟨o,vs,file,tf,flags,tg,inF,text,tt,op,ho,hd,h11,h2,h7,h9,h10,hop,hpd,htr,hne⟩ := id (C.code hP ht)
  unfold genexprCode codeAt
  rw [hc,if_neg (show ¬ ((Value.ref c == Value.none) = true) from Bool.false_ne_true)]
  refine wb (wpAny_fieldsOf ho hd ?_)
  rw [h11]
  refine wb (wpAny_fieldsOf hop hpd ?_)
  rw [hca,h2,h7,h9,h10]
  refine wb (wpAny_newCode fun c' P' h' tk hk hc' hP' hcode' hrec' => ?_)
  have hop' := hk _ _ hP
  refine wb (wpAny_updateFieldsOfTheText hop' rfl ?_)
  have hnew : (Obj.mapFields (fun vs => if (codeAmong pos vs.toList).isSome = true then vs else vs ++ #[rawInt pos.line,rawInt pos.col,.ref c']) (tabObj ps)) = tabObj (ps ++ #[rawInt pos.line,rawInt pos.col,.ref c']) := by
   simp [Obj.mapFields,hca]
  have hget := Heap.get?_update_self (h := h') (fun o => Obj.mapFields (fun vs => if (codeAmong pos vs.toList).isSome = true then vs else
   vs ++ #[rawInt pos.line,rawInt pos.col,.ref c']) o) hop' (by rw [hnew]; rfl)
  rw [hnew] at hget
  refine wb (wpAny_fieldsOf hget rfl ?_)
  have hl : (ps ++ #[rawInt pos.line,rawInt pos.col,Value.ref c']).toList = ps.toList ++ [rawInt pos.line,rawInt pos.col,.ref c'] := by simp
  rw [hl,codeAmong_snoc _ ht hca]
  refine wpAny_pure (hQ _ _ _ (fun b o' hb e => ((Heap.SameBut.update ..).extBut b o' hb (hk b o' e))) (.inr ⟨hca,c',rfl,hc', ?_,hget⟩))
  obtain ⟨c2,oc,vs2,t2,e2,goc,r2⟩ := hrec'
  (injection e2 with e2; subst e2)
  have hcP : c' ≠ P := fun e => by
   have := Heap.lt_size hP
   rw [← e] at this
   exact absurd this (Nat.not_lt.mpr hc')
  exact ⟨c',oc,vs2,t2,rfl,(Heap.SameBut.update ..).extBut _ _ hcP goc,r2⟩
end
section
variable {cx : XCx} {A : Around} {E : VP} {s : Shared}
theorem zfA {a b c : PySem.Str} {t u v : Tok} (hocc : (occurrences a b 0 a.length (a.length + 1)).isEmpty = true) {mc : PySem.Str → Option Value} (n1 : s.heap.Ns cStatics mc) (n2 : mc sharingNotToldKey = none) {Q : VP} (h : Q (.str a t) s) :
  wpAny (model cx.prog cx.w) A (call (.builtin "str.replace") [.str a t,.str b u,.str c v]) Q E s := by
 have e : ((occurrences a b 0 a.length (a.length + 1)).isEmpty || (b.length == 0 && c.length == 0)) = true := by rw [hocc]; rfl
 refine call_givesAt PySem.F.slot_str_replace (typeIs_str _ _ _) PySem.F.entry_str_replace (PySem.F.args_str_replace_3 _ _ _) (gives_str_replace2 _ _ _ t u v fun h => by rw [e] at h; injection h) ⟨mc,n1,n2⟩ ?_
 rw [if_pos e]
 exact h
noncomputable def repElt (x : PySem.Str) (b1 c1 b2 c2 : PySem.Str) (k1 k2 k3 k4 : Nat) (p1 p2 p3 p4 p5 p6 p7 p8 p9 : Pos) : Expr :=
 .Call (.Attribute (.Call (.Attribute (.Name x p1) "replace" p2) [.Constant (.str b1) k1 p3,.Constant (.str c1) k2 p4] [] p5) "replace" p6) [.Constant (.str b2) k3 p7,.Constant (.str c2) k4 p8] [] p9
theorem ziF {o : Expr} {env : Env} {b c a : PySem.Str} {t : Tok} {k1 k2 : Nat} {p2 p3 p4 p5 : Pos} (hb : plainBase o = true) (hl : (p2.endLine == p5.line) = true) (hocc : (occurrences a b 0 a.length (a.length + 1)).isEmpty = true) {mc : PySem.Str → Option Value} (n2 : mc sharingNotToldKey = none) {Q : VP}
  (h : wpAny (model cx.prog cx.w) A (eval o env) (fun v s₁ => v = .str a t ∧ s₁.heap.Ns cStatics mc ∧ ∀ k,Q (.str a t) { s₁ with toks := k }) E s) (hz : b.length ≤ 10 ∧ c.length ≤ 10) :
  wpAny (model cx.prog cx.w) A (eval (.Call (.Attribute o "replace" p2) [.Constant (.str b) k1 p3,.Constant (.str c) k2 p4] [] p5) env) Q E s := by
 refine zbD hb hl (by simp) rfl (wpAny_mono h (fun v s₁ h₁ => ?_) fun _ _ e => e)
 obtain ⟨rfl,n1,hQ⟩ := h₁
 refine GM.replace ?_
 refine Calls.callWith_builtin rfl (Calls.evalArgs_plain (Calls.spliced_cons (Calls.Constant_str (k := k1) (pos := p3) (Calls.spliced_cons (Calls.Constant_str (k := k2) (pos := p4) (Calls.spliced_nil ?_))))))
 show wpAny _ _ (call (.builtin "str.replace") [.str a t,.str b _,.str c _]) Q E { s₁ with toks := s₁.toks + 1 + 1 }
 exact zfA (cx := cx) (s := { s₁ with toks := s₁.toks + 1 + 1 }) hocc n1 n2 (hQ _)
end
section
variable {cx : XCx} {A : Around} {E : VP} {s : Shared}
theorem rep_elt {env : Env} {x b1 c1 b2 c2 a : PySem.Str} {t : Tok} {k1 k2 k3 k4 : Nat} {p1 p2 p3 p4 p5 p6 p7 p8 p9 : Pos} (hl1 : (p2.endLine == p5.line) = true) (hl2 : (p6.endLine == p9.line) = true) (ho1 : (occurrences a b1 0 a.length (a.length + 1)).isEmpty = true) (ho2 : (occurrences a b2 0 a.length (a.length + 1)).isEmpty = true)
  {mc : PySem.Str → Option Value} (n1 : s.heap.Ns cStatics mc) (n2 : mc sharingNotToldKey = none) (hk : env.scope.kind = .function) (hl : env.kindOf x = some .local) {m : PySem.Str → Option Value} (hn : s.heap.Ns env.locals m) (hm : m x = some (.str a t)) (hd : (x == ("__debug__" : PySem.Str)) = false)
  (hz : b1.length ≤ 10 ∧ c1.length ≤ 10) (hz2 : b2.length ≤ 10 ∧ c2.length ≤ 10) {Q : VP} (h : ∀ k,Q (.str a t) { s with toks := k }) :
  wpAny (model cx.prog cx.w) A (eval (repElt x b1 c1 b2 c2 k1 k2 k3 k4 p1 p2 p3 p4 p5 p6 p7 p8 p9) env) Q E s := by
 unfold repElt
 refine ziF rfl hl2 ho2 n2 (t := t) ?_ hz2
 refine ziF rfl hl1 ho1 n2 (t := t) ?_ hz
 refine wpAny_Name (wpAny_loadName_local hk hl hn hm ?_) hd
 exact ⟨rfl,n1,fun k => ⟨rfl,n1,fun k' => h k'⟩⟩
end
noncomputable def repX (i : Nat) (b1 c1 b2 c2 : List Nat) : X :=
 .op .replace (.cons (.op .replace (.cons (.var i) (.cons (.const (.str b1)) (.cons (.const (.str c1)) .nil)))) (.cons (.const (.str b2)) (.cons (.const (.str c2)) .nil)))
noncomputable def noOcc (a b : List Nat) : Bool := (occurrences ⟨a.toArray⟩ ⟨b.toArray⟩ 0 a.length (a.length + 1)).isEmpty
theorem zcr {d : D} {b c : List Nat} {r : R} (h : opF .replace [d,.str b,.str c] = some r) : ∃ a,d = .str a ∧ noOcc a b = true ∧ r = .val (.str a) := by
 obtain ⟨a,b',c',e,h⟩ := zeS (show opReplace [d,.str b,.str c] = some r from h)
 cases e
 obtain ⟨ho,rfl⟩ := zbx h
 exact ⟨a,rfl,ho,rfl⟩
theorem zkf {cf : CfT} {i : Nat} {b1 c1 b2 c2 : List Nat} {ρ : List Slot} {d : D} {r : R} (h : ev cf (repX i b1 c1 b2 c2) (ρ.set i (.val d)) = some [r]) : ∃ a,d = .str a ∧ noOcc a b1 = true ∧ noOcc a b2 = true ∧ r = .val (.str a) := by
 unfold repX at h
 obtain ⟨rs,e1,e2⟩ := ev_op h
 obtain ⟨r0,rs0,e3,e4,rfl⟩ := zaD e1
 obtain ⟨r1,rs1,e5,e6,rfl⟩ := zaD e4
 obtain ⟨r2,rs2,e7,e8,rfl⟩ := zaD e6
 obtain rfl := zbq e8
 obtain ⟨rt,f1,f2⟩ := ev_op e3
 obtain ⟨q0,qs0,g3,g4,rfl⟩ := zaD f1
 obtain ⟨q1,qs1,g5,g6,rfl⟩ := zaD g4
 obtain ⟨q2,qs2,g7,g8,rfl⟩ := zaD g6
 obtain rfl := zbq g8
 have cst : ∀ {l : List Nat} {ρ : List Slot} {r : R},ev cf (.const (.str l)) ρ = some [r] → r = .val (.str l) := fun h => by replace h := (zbl _).symm.trans h; (injection h with h; injection h with h z; clear z; subst h); rfl
 rw [cst e5,cst e7] at e2
 rw [cst g5,cst g7] at f2
 obtain ⟨a,ha,ho1,hr0⟩ := zcr (d := q0.ds) f2
 subst hr0
 obtain ⟨a2,ha2,ho2,hr⟩ := zcr (d := .str a) e2
 have : a = a2 := by simpa [R.ds] using ha2
 subst this
 refine ⟨a, ?_,ho1,ho2,hr⟩
 replace g3 := (zcO _).symm.trans g3
 rw [List.getElem?_set] at g3
 simp only [if_true] at g3
 split at g3
 ·rename_i d' e
  split at e <;> (first | (injection e; done) | (injection e with e; injection e with e; subst e))
  (injection g3 with g3; injection g3 with g3 z; clear z; subst g3)
  exact ha
 ·rename_i l e
  split at e <;> (first | (injection e; done) | (injection e with e; injection e; done) | (injection e with e; injection e with e; subst e))
 ·injection g3
section
variable {cx : XCx} {ε : Sc}
theorem zhN (G : LamG cx) {F : AP} {s : Shared} (ok : CxOk cx) (w : Wd cx F s) {ps : Array Value} {gpos : Pos} {code : Value} {qual : PySem.Str} {h' : Heap} (tk : Nat) (g : s.heap.get? G.Pt = some (tabObj ps)) (hap : ∀ p q,(p,q) ∈ G.qs → p.line ≠ gpos.line ∨ p.col ≠ gpos.col)
  (hx : Heap.ExtBut G.Pt s.heap h') (alt : h'.get? G.Pt = some (tabObj ps) ∨ (codeAmong gpos ps.toList = none ∧ ∃ c',code = .ref c' ∧ s.heap.objs.size ≤ c' ∧ h'.CodeRec (.ref c') qual ∧ h'.get? G.Pt = some (tabObj (ps ++ #[rawInt gpos.line,rawInt gpos.col,.ref c'])))) :
  Step cx F s F { s with heap := h',toks := tk } := by
 obtain ⟨fc,hd,ps0,g0,ht,hqs⟩ := G.xget _ _ w.xi
 rw [g] at g0
 have e0 : ps = ps0 := by cases g0; rfl
 subst e0
 have keep : ∀ a o,s.heap.get? a = some o → ¬ cx.X a → h'.get? a = some o := fun a o e nx => hx a o (fun e' => nx (e' ▸ G.xp)) e
 have hxi : TabXF G.c G.Pt G.qs F h' := by
  have hd' : CodeHd h' G.c G.Pt := by
   obtain ⟨o,vs,file,tf,flags,tg,inF,text,tt,e,r⟩ := hd
   exact ⟨o,vs,file,tf,flags,tg,inF,text,tt,keep _ _ e (w.nx _ fc),r⟩
  rcases alt with h | ⟨hn,c',rfl,hc',hrec,h⟩
  ·exact ⟨fc,hd',ps,h,ht,fun p q hm cv hcv => let ⟨c4,e4,f4,r4⟩ := hqs p q hm cv hcv; ⟨c4,e4,f4,r4.at fun o e => keep _ _ e (w.nx _ f4)⟩⟩
  ·have ea : (ps ++ #[rawInt gpos.line,rawInt gpos.col,.ref c']).toList = ps.toList ++ [rawInt gpos.line,rawInt gpos.col,.ref c'] := by simp
   refine ⟨fc,hd',_,h,by rw [ea]; exact TriplesOk_snoc _ _ _ _ ht,fun p q hm cv hcv => ?_⟩
   rw [ea,zbG ht (hap p q hm)] at hcv
   obtain ⟨c4,e4,f4,r4⟩ := hqs p q hm cv hcv
   exact ⟨c4,e4,f4,r4.at fun o e => keep _ _ e (w.nx _ f4)⟩
 refine ⟨fun _ h => h,fun _ h => .inl h,keep,rfl,⟨fun a o e nx => keep a o (w.base a o e nx) nx,G.xset _ _ _ _ w.xi (fun _ h => h) (fun a o h e => hx a o (h.elim (fun f e' => w.nx a f (e' ▸ G.xp)) (·.2)) e) hxi,w.gens,w.f0,fun a h => ?_,w.nx,fun a h => ?_⟩⟩
 ·obtain ⟨o,e⟩ := w.lt a h
  exact ⟨o,keep a o e (w.nx a h)⟩
 ·by_cases ea : a = G.Pt
  ·rw [ea]
   rcases alt with h | ⟨_,_,_,_,_,h⟩ <;> exact ⟨_,h⟩
  ·obtain ⟨o,e⟩ := w.xex a h
   exact ⟨o,hx a o ea e⟩
end
end Mine
end
section

namespace Mine
theorem e1_2 {α0 : Sort _} {P0 P1 : α0 → Prop} {C : Prop} (h : ∃ x0,P0 x0 ∧ P1 x0) (k : ∀ x0,P0 x0 → P1 x0 → C) : C := by
 obtain ⟨x0,p0,p1⟩ := h
 exact k x0 p0 p1
theorem e2_3 {α0 : Sort _} {α1 : Sort _} {P0 P1 P2 : α0 → α1 → Prop} {C : Prop} (h : ∃ x0 x1,P0 x0 x1 ∧ P1 x0 x1 ∧ P2 x0 x1) (k : ∀ x0 x1,P0 x0 x1 → P1 x0 x1 → P2 x0 x1 → C) : C := by
 obtain ⟨x0,x1,p0,p1,p2⟩ := h
 exact k x0 x1 p0 p1 p2
theorem i8_8 {α0 : Sort _} {α1 : Sort _} {α2 : Sort _} {α3 : Sort _} {α4 : Sort _} {α5 : Sort _} {α6 : Sort _} {α7 : Sort _} {P0 P1 P2 P3 P4 P5 P6 P7 : α0 → α1 → α2 → α3 → α4 → α5 → α6 → α7 → Prop} (x0 : α0) (x1 : α1) (x2 : α2) (x3 : α3) (x4 : α4) (x5 : α5) (x6 : α6) (x7 : α7) (p0 : P0 x0 x1 x2 x3 x4 x5 x6 x7) (p1 : P1 x0 x1 x2 x3 x4 x5 x6 x7) (p2 : P2 x0 x1 x2 x3 x4 x5 x6 x7) (p3 : P3 x0 x1 x2 x3 x4 x5 x6 x7) (p4 : P4 x0 x1 x2 x3 x4 x5 x6 x7) (p5 : P5 x0 x1 x2 x3 x4 x5 x6 x7) (p6 : P6 x0 x1 x2 x3 x4 x5 x6 x7) (p7 : P7 x0 x1 x2 x3 x4 x5 x6 x7) : ∃ x0 x1 x2 x3 x4 x5 x6 x7,P0 x0 x1 x2 x3 x4 x5 x6 x7 ∧ P1 x0 x1 x2 x3 x4 x5 x6 x7 ∧ P2 x0 x1 x2 x3 x4 x5 x6 x7 ∧ P3 x0 x1 x2 x3 x4 x5 x6 x7 ∧ P4 x0 x1 x2 x3 x4 x5 x6 x7 ∧ P5 x0 x1 x2 x3 x4 x5 x6 x7 ∧ P6 x0 x1 x2 x3 x4 x5 x6 x7 ∧ P7 x0 x1 x2 x3 x4 x5 x6 x7 := ⟨x0,x1,x2,x3,x4,x5,x6,x7,p0,p1,p2,p3,p4,p5,p6,p7⟩
end Mine
end
section
open PySem PySem.Builtin.Str PySem.W PySem.Calls PyProof.Rows
namespace Mine
theorem zgv (n : Nat) : passing (fun _ => true) n 0 = List.range n := by
 unfold passing; simp
theorem zdX {f : D → Option (Option D)} (hf : ∀ d y,f d = some y → ∃ a,d = .str a ∧ y = some (.str a)) : ∀ {items l : List D},compGo f items = some l → l = items ∧ ∀ d ∈ items,f d = some (some d)
 | [],l,h => by (injection h with h; subst h); exact ⟨rfl,fun _ h => nomatch h⟩
 | d :: r,l,h => by
  unfold compGo at h
  split at h
  ·injection h
  ·rename_i e
   obtain ⟨a,_,e2⟩ := hf d _ e
   injection e2
  ·rename_i y e
   obtain ⟨a,rfl,e2⟩ := hf d _ e
   (injection e2 with e2; subst e2)
   split at h
   ·rename_i ys e3
    (injection h with h; subst h)
    obtain ⟨rfl,h2⟩ := zdX hf e3
    refine ⟨rfl,fun d' hd => ?_⟩
    rcases List.mem_cons.mp hd with rfl | hd
    ·exact e
    ·exact h2 d' hd
   ·injection h
theorem zdr : ∀ {l : List D} {ls : List (List Nat)},toStrs l = some ls → l = ls.map .str
 | [],ls,e => by (injection e with e; subst e); rfl
 | d :: r,ls,e => by
  cases d <;> simp only [toStrs] at e <;> try injection e
  obtain ⟨ls',e',rfl⟩ := Option.map_eq_some_iff.mp e
  rw [List.map_cons, ← zdr e']
theorem zjl {a : List Nat} {ls : List (List Nat)} (z : a.length ≤ lim) (hz : (joinL a ls).length ≤ lim) : JoinOk ⟨a.toArray⟩ (ls.map fun x => PySem.Str.mk x.toArray) = true := by
 unfold JoinOk tooLong
 rw [zfa,Nat.zero_add,List.map_map]
 simp only [Bool.not_eq_true',decide_eq_false_iff_not]
 rw [sizeLine_eq]
 unfold lim at hz z
 cases ls with
 | nil => simp
 | cons b r =>
  rw [zc6] at hz
  simp only [List.map_cons,List.sum_cons,Function.comp,zaQ]
  have e : (List.map ((fun x => x.length + a.length) ∘ fun x => PySem.Str.mk x.toArray) r).sum = (r.map fun x => a.length + x.length).sum := by
   congr 1
   apply List.map_congr_left
   intro x _
   show (PySem.Str.mk x.toArray).length + a.length = _
   rw [zaQ,Nat.add_comm]
  rw [e]
  omega
section
variable {cx : XCx} {ε : Sc}
set_option maxHeartbeats 1000000 in
theorem zeT (G : LamG cx) {sep x b1 c1 b2 c2 : PySem.Str} {lsep lb1 lc1 lb2 lc2 : List Nat} {k1 k2 k3 k4 k5 : Nat} {p1 p2 p3 p4 p5 p6 p7 p8 p9 ps px gpos apos pos : Pos} {scope : Scope} {iter : Expr} {it : X} {i : Nat} {qual : PySem.Str}
  (hsep : constD (.str sep) = some (.str lsep)) (hb1 : b1 = ⟨lb1.toArray⟩) (hb2 : b2 = ⟨lb2.toArray⟩) (hl : (apos.endLine == pos.line) = true) (hl1 : (p2.endLine == p5.line) = true) (hl2 : (p6.endLine == p9.line) = true)
  (hz : b1.length ≤ 10 ∧ c1.length ≤ 10) (hz2 : b2.length ≤ 10 ∧ c2.length ≤ 10) (hcode : ε.code = some (G.c,qual)) (hap : ∀ p q,(p,q) ∈ G.qs → p.line ≠ gpos.line ∨ p.col ≠ gpos.col)
  (hi : SoundI cx ε iter it) (hs : ∀ env x,genFold iter env x = pure x) (hco : scope.isCoroutine = false) (hcell : ∀ y ∈ scope.names,y.2 ≠ .cell) (hfree : ∀ y ∈ scope.names,y.2 ≠ .free) (h0 : scope.names.lookup (".0" : PySem.Str) = some NameKind.local)
  (hx : scope.names.lookup x = some .local) (hkind : scope.kind = .function) (hd : (x == ("__debug__" : PySem.Str)) = false) :
  Sound cx ε (.Call (.Attribute (.Constant (.str sep) k5 ps) "join" apos) [.GeneratorExp (repElt x b1 c1 b2 c2 k1 k2 k3 k4 p1 p2 p3 p4 p5 p6 p7 p8 p9) [⟨.Name x px,iter,[],0⟩] scope gpos] [] pos)
   (.op .join (.cons (.const (.str lsep)) (.cons (.comp i it (.const (.bool true)) (repX i lb1 lc1 lb2 lc2)) .nil))) := by
 refine Sound.ofE ?_ fun _ => rfl
 intro n cf A env F s ρ ad m cm H res he Q E hQ
 obtain ⟨rs,e1,e2⟩ := ev_op he
 obtain ⟨r0,rs0,e3,e4,rfl⟩ := zaD e1
 obtain ⟨r1,rs1,e5,e6,rfl⟩ := zaD e4
 obtain rfl := zbq e6
 refine e2_3 (zgM e5) fun items l f1 f2 q1 => ?_
 subst q1
 have hr0 : r0 = .val (.str lsep) := by replace e3 := (zbl _).symm.trans e3; (injection e3 with e3; injection e3 with e3 z; clear z; subst e3); rfl
 subst hr0
 have turn : ∀ d y,turnC cf [i] one1 (.const (.bool true)) (repX i lb1 lc1 lb2 lc2) ρ d = some y → ∃ a,d = .str a ∧ y = some (.str a) ∧ noOcc a lb1 = true ∧ noOcc a lb2 = true := by
  intro d y h
  have h' : turnD (some [.val (.bool true)]) (ev cf (repX i lb1 lc1 lb2 lc2) (ρ.set i (.val d))) = some y := h
  unfold turnD truthR at h'
  simp only [R.ds,D.truth] at h'
  split at h'
  ·rename_i r er
   obtain ⟨a,h1,h2,h3,h4⟩ := zkf er
   subst h4
   (injection h' with h'; subst h')
   exact ⟨a,h1,rfl,h2,h3⟩
  ·injection h'
 have cgs := zdX (fun d y h => let ⟨a,h1,h2,_⟩ := turn d y h; ⟨a,h1,h2⟩) f2
 have hall := cgs.2
 have cg1 := cgs.1
 subst cg1
 have itemStr : ∀ j d,l[j]? = some d → ∃ a,d = D.str a ∧ noOcc a lb1 = true ∧ noOcc a lb2 = true := fun j d hj => by
  obtain ⟨a,h1,_,h3,h4⟩ := turn d _ (hall d (List.mem_of_getElem? hj))
  exact ⟨a,h1,h3,h4⟩
 have hc := (H.env.code _ _ hcode).1
 have hqual := (H.env.code _ _ hcode).2
 have hstG : starred (.GeneratorExp (repElt x b1 c1 b2 c2 k1 k2 k3 k4 p1 p2 p3 p4 p5 p6 p7 p8 p9) [⟨.Name x px,iter,[],0⟩] scope gpos) = false := rfl
 have hany : (backTo pos (starEach [.GeneratorExp (repElt x b1 c1 b2 c2 k1 k2 k3 k4 p1 p2 p3 p4 p5 p6 p7 p8 p9) [⟨.Name x px,iter,[],0⟩] scope gpos] env)).any (·.1) = false := by
  rw [zaq hstG,zav,List.any_cons]; rfl
 refine zbD rfl hl (by simp) hany ?_
 refine (zab hsep).ev n cf A env F s ρ ad m cm H _ e3 _ _ fun v F0 s0 st0 q0 => ?_
 have q0 := q0.brep
 obtain ⟨t0,rfl,p0',z0⟩ := BRep.str_inv (l := lsep) q0
 have H0 := H.step st0
 refine GM.join ?_
 refine Calls.callWith_builtin hany ?_
 rw [zaq hstG,zav]
 refine Calls.evalArgs_plain (Calls.spliced_cons ?_)
 have hclos : closureFor scope env = pure [] := closureFor_none hfree
 have hroom : A.depth < recursionLimit := Nat.lt_of_le_of_lt (Nat.le_add_right _ _) (Nat.lt_trans H.bud.dp (by decide))
 refine wpAny_GeneratorExp_walksQD H.bud.hd hco hclos hcell h0 hx hkind hroom ?_ (hs env)
 refine hi n cf A env F0 s0 ρ ad m cm H0 l f1 _ _ fun I F1 s1 fp wr P St J => ?_
 have ok := H.ok
 have w1 := J.st.wd
 refine ⟨w1.lim ok, ?_⟩
 obtain ⟨fc,hhd,tps,gP,htr,_⟩ := G.xget _ _ w1.xi
 rw [hqual]
 refine zkP hc hhd gP htr fun code h2 tk2 hx2 alt => ?_
 have st2 := zhN G ok w1 tk2 gP hap hx2 alt
 have w2 := st2.wd
 have nP : ∀ {a o},cx.h0.get? a = some o → a ≠ G.Pt → h2.get? a = some o := fun e _ => w2.base _ _ e (G.x0 _ _ e)
 obtain ⟨bm,ob,b1',b2',b3',b4',b5',b6',b7',b8'⟩ := G.blt
 rw [H.env.glob]
 refine wpAny_builtinsFor (s := { s1 with heap := h2,toks := tk2 }) (w2.glob ok) b1' b2' (nP b5' b4') b6' b7' b8' ?_
 have szX : ∀ {b : Addr},b ∈ wr → b ≠ G.Pt := fun hb e => by
  obtain ⟨o,eo⟩ := st0.wd.xex G.Pt G.xp
  rw [← e,(J.new _ hb).1] at eo; injection eo
 have fpX : ∀ {b : Addr},b ∈ fp → b ≠ G.Pt := fun hb e => by
  rcases J.deps _ hb with hb | hb
  ·exact szX hb e
  ·exact w1.nx _ hb (e ▸ G.xp)
 have hst2 : St 0 h2 := (J.W A H.bud.hd).frame _ _ _ J.s0 fun b hb o e => hx2 b o (fpX hb) e
 have hfp : ∀ b ∈ fp,b < h2.objs.size := fun b hb => by
  rcases J.deps _ hb with hb' | hb'
  ·have := J.one _ hb'
   subst this
   obtain ⟨o,T,e,_⟩ := J.ty 0 _ hst2
   exact Heap.lt_size e
  ·obtain ⟨o,e⟩ := w2.lt _ hb'
   exact Heap.lt_size e
 have hcs0 : ∀ {s : Shared} {F : AP},Wd cx F s → ∃ o,s.heap.get? cStatics = some o := fun w => by
  obtain ⟨_,⟨o,_,_,e,_⟩,_⟩ := w.lim ok
  exact ⟨o,e⟩
 have hcw : cStatics ∉ wr := fun hm => by
  obtain ⟨o,e⟩ := hcs0 st0.wd
  rw [(J.new _ hm).1] at e; injection e
 have item : ∀ i v,P i v → ∃ a t,l[i]? = some (.str a) ∧ v = .str ⟨a.toArray⟩ t ∧ noOcc a lb1 = true ∧ noOcc a lb2 = true ∧ ∀ c ∈ a,c < 0x110000 := fun j v hv => by
  obtain ⟨d,hd1,hd2⟩ := J.item j v hv
  obtain ⟨a,rfl,ho1,ho2⟩ := itemStr j d hd1
  cases hd2 with
  | str t p z => exact ⟨a,t,hd1,rfl,ho1,ho2,p⟩
 refine e1_2 ok.nb fun mc nmc nmk => ?_
 refine i8_8 I fp wr l.length P St (fun _ => true) (fun i y => ∃ a t,l[i]? = some (.str a) ∧ y = .str ⟨a.toArray⟩ t ∧ ∀ c ∈ a,c < 0x110000) rfl J.W hst2 hfp (w2.lim ok) hcw (fun href hhref => ⟨?_, ?_⟩) ?_
 ·intro A' E' i v s₂ m₂ hA hD hU hP hn hm hk
  exact wpAny_pure ⟨rfl,⟨s₂.heap,s₂.toks,rfl,fun _ _ e => e⟩⟩
 ·intro A' E' i v s₂ m₂ hA hD hU hP _ hn hm hk
  obtain ⟨a,t,hi,rfl,ho1,ho2,hcs⟩ := item i v hP
  have n1 : s₂.heap.Ns cStatics mc := nmc.at' fun o e => by
   have e2 := w2.base _ o e ok.limx
   exact hk _ (List.mem_range.mpr (Heap.lt_size e2)) hcw o (hhref _ _ e2)
  subst hb1; subst hb2
  refine rep_elt (t := t) (m := m₂) hl1 hl2 ho1 ho2 n1 nmk ?ka ?kb hn hm hd hz hz2 fun k => ?_
  case ka => exact hkind
  case kb => exact hx
  exact ⟨⟨a,t,hi,rfl,hcs⟩,⟨s₂.heap,k,rfl,fun _ _ e => e⟩⟩
 ·intro a h₅ tk gs hgb hag hsz₅ hk₅ W hat
  refine Calls.spliced_nil ?_
  show wpAny _ _ (call (.builtin "str.join") [.str ⟨lsep.toArray⟩ t0,.ref a]) _ _ _
  have e2' : opJoin [.str lsep,.list l] = some res := e2
  unfold opJoin at e2'
  split at e2'
  ·rename_i s' l' ee
   cases ee
   split at e2'
   ·rename_i ls els
    split at e2' <;> (first | (injection e2'; done) | (injection e2' with e2'; subst e2'))
    rename_i hz3
    have hll := zdr els
    have hn : (passing (fun _ => true) l.length 0) = List.range l.length := zgv _
    refine SC.joinGen W.in4_2 (fun i s' st => st.1.typeIs) hat ?_ List.mem_cons_self (fun j v hv => ?_) (fun s' lt hm hacc => ?_) ?_
    ·intro b hb
     show b < h₅.objs.size
     rw [hsz₅]
     have hag' : h2.objs.size < a := hag
     rcases List.mem_cons.mp hb with rfl | hb
     ·exact Nat.lt_succ_self _
     ·rcases List.mem_cons.mp hb with rfl | hb
      ·exact Nat.lt_succ_of_lt hag'
      ·exact Nat.lt_succ_of_lt (Nat.lt_trans (List.mem_range.mp hb) hag')
    ·obtain ⟨i,_,a,t,_,rfl,_⟩ := hv
     exact ⟨_,_,rfl⟩
    ·have hlen : lt.length = l.length := by
      have := hacc.1
      rw [hn,List.length_range] at this
      simpa [strValues] using this
     have at1 : ∀ j (hj : j < lt.length), ∃ a,ls[j]? = some a ∧ lt[j].1 = ⟨a.toArray⟩ ∧ ∀ c ∈ a,c < 0x110000 := fun j hj => by
      obtain ⟨i,hi,a,t,h1,h2,h3⟩ := hacc.2 j (.str lt[j].1 lt[j].2) (by simp [strValues,List.getElem?_eq_getElem hj])
      rw [hn,List.getElem?_range (hlen ▸ hj)] at hi
      (injection hi with hi; subst hi)
      injection h2 with h21 _
      rw [hll,List.getElem?_map] at h1
      obtain ⟨a',ha',e'⟩ := Option.map_eq_some_iff.mp h1
      cases e'
      exact ⟨a,ha',h21,h3⟩
     have hlsl : ls.length = l.length := by rw [hll,List.length_map]
     have hlt : lt.map (·.1) = ls.map fun x => PySem.Str.mk x.toArray := by
      apply List.ext_getElem?
      intro j
      by_cases hj : j < lt.length
      ·obtain ⟨a,h1,h2,_⟩ := at1 j hj
       rw [List.getElem?_map,List.getElem?_map,h1,List.getElem?_eq_getElem hj]
       simp [h2]
      ·rw [List.getElem?_eq_none (by simpa using hj),List.getElem?_eq_none (by rw [List.length_map,hlsl, ← hlen]; exact Nat.le_of_not_lt hj)]
     have chars : ∀ x ∈ ls, ∀ c ∈ x,c < 0x110000 := fun x hx => by
      obtain ⟨j,hj,e⟩ := List.mem_iff_getElem.mp hx
      obtain ⟨a,h1,_,h3⟩ := at1 j (by rw [hlen, ← hlsl]; exact hj)
      rw [List.getElem?_eq_getElem hj] at h1
      (injection h1 with h1; subst h1)
      rw [← e]; exact h3
     rw [hlt]
     refine ⟨zjl z0 hz3,fun t' k => ?_⟩
     have keep2 : ∀ b o,b ∉ wr → h2.get? b = some o → s'.heap.get? b = some o := fun b o hb e => by
      refine hm.heap b o (fun hmem => ?_) (hk₅ b o e)
      rcases List.mem_cons.mp hmem with rfl | hmem
      ·exact absurd (Heap.lt_size e) (Nat.lt_irrefl _)
      ·exact hb hmem
     have nF : ∀ b,F1 b → b ∉ wr := fun b h hm => (J.new b hm).2 h
     have nXw : ∀ b,cx.X b → b ∉ wr := fun b h hm => by
      obtain ⟨o,eo⟩ := st0.wd.xex b h
      rw [(J.new b hm).1] at eo; injection eo
     have wd' : Wd cx F1 s' := by
      refine ⟨fun a o e nx => keep2 a o (nF a (w2.f0 a o e nx)) (w2.base a o e nx),ok.xi _ _ _ _ w2.xi (fun _ h => h) (fun a o h e => keep2 a o (h.elim (nF a) (nXw a)) e), ?_,w2.f0,fun a h => let ⟨o,e⟩ := w2.lt a h; ⟨o,keep2 a o (nF a h) e⟩,w2.nx,fun a h => let ⟨o,e⟩ := w2.xex a h; ⟨o,keep2 a o (nXw a h) e⟩⟩
      have g1 : GenOnlyQ s1.gens.size (s1.gens.push gs) s'.gens := hm.gens
      exact g1.bare (PyProof.Rows.AllBare.push (show PyProof.Rows.AllBare s1.gens from w1.gens) hgb)
     have stf : Step cx F0 s0 F1 s' := by
      refine ⟨J.st.sub,J.st.new,fun a o e nx => keep2 a o (fun hm => by rw [(J.new a hm).1] at e; injection e) (hx2 a o (fun e' => nx (e' ▸ G.xp)) (J.st.keep a o e nx)), ?_,wd'⟩
      have o1 : s'.os = s1.os := hm.os
      exact o1.trans J.st.os
     unfold Txt.join
     rw [zcN]
     refine hQ _ F1 _ ((st0.trans stf).toks k) (.val (.str t' (fun c hc => ?_) hz3))
     rcases zfL hc with hc | ⟨x,hx,hc⟩
     ·exact p0' c hc
     ·exact chars x hx c hc
    ·rw [hn,List.length_range]
     have := J.lim
     rw [sizeLine_eq]
     unfold lim at this
     omega
   ·injection e2'
  ·rename_i hne
   exact (hne _ _ rfl).elim
end
end Mine
end
section
open PySem PySem.Calls PyProof.Rows PySem.Builtin.Str
namespace Mine
section
variable {cx : XCx} {ε : Sc}
theorem zaG {x : Str} {T : String} {pos : Pos} (hk : ε.kinds.lookup x = some .globalImplicit) (hg : cx.mg x = none) (hn : x ≠ "__name__") (hv : bootBuiltins x = some (.type T)) (hd : (x == ("__debug__" : Str)) = false) : Sound cx ε (.Name x pos) (.const (.ty T)) := by
 refine Sound.ofE ?_ fun _ => rfl
 intro n cf A env F s ρ ad m cm H r hr Q E hQ
 replace hr := (zbl _).symm.trans hr
 (injection hr with hr; injection hr with hr z; clear z; subst hr)
 exact zaL H hk hg hn hv hd (hQ _ F s (Step.refl H.wd) (.val (.ty T)))
noncomputable abbrev dead : S := .assert (.const (.bool false))
theorem ex_dead {cf : CfT} {ρ : List Slot} : ex cf dead ρ = none := rfl
theorem zax {sts : List Stmt} : SoundSs cx ε sts dead := by
 intro n cf A env F s ρ ad m cm H ρ' o h
 rw [ex_dead] at h; injection h
theorem zcm {f : PySem.Str → PySem.Str → R} : ∀ d ds r,opStr2 f (d :: ds) = some r → ∃ l,d = .str l := by
 intro d ds r h
 obtain ⟨a,b,e,h⟩ := zb6 (show two _ (d :: ds) = some r from h)
 obtain ⟨a,e2,_⟩ := Option.bind_eq_some_iff.mp h
 (injection e with e z; subst e z)
 exact ⟨a,zbd e2⟩
theorem zkQ : ∀ d ds r,opFind4 (d :: ds) = some r → ∃ l,d = .str l := by
 intro d ds r h
 cases d <;> first | exact ⟨_,rfl⟩ | injection h
theorem zgt : ∀ d ds r,opReplace (d :: ds) = some r → ∃ l,d = .str l := by
 intro d ds r h
 obtain ⟨a,b,c,e,_⟩ := zeS h
 (injection e with e z; subst e z)
 exact ⟨a,rfl⟩
theorem zkL : ∀ d ds r,opJoin (d :: ds) = some r → ∃ l,d = .str l := by
 intro d ds r h
 cases d <;> first | exact ⟨_,rfl⟩ | injection h
theorem zix : ∀ d ds r,opSplit (d :: ds) = some r → ∃ l,d = .str l := by
 intro d ds r h
 cases d <;> first | exact ⟨_,rfl⟩ | injection h
section
variable {o : Expr} {apos pos : Pos} {es : List Expr} {xo x : X}
theorem m_rfind (hl : (apos.endLine == pos.line) = true) (hb : plainBase o = true) (hn : es.length < 30) (h0 : Sound cx ε o xo) (h : SoundL cx ε es x false) : Sound cx ε (.Call (.Attribute o "rfind" apos) es [] pos) (.op .rfind (.cons xo x)) :=
 zaK hb hl hn PySem.F.slot_str_rfind rfl h0 h (by intro d ds r h; delta opF at h; dsimp only at h; exact zcm d ds r h) zkk
theorem zbL (hl : (apos.endLine == pos.line) = true) (hb : plainBase o = true) (hn : es.length < 30) (h0 : Sound cx ε o xo) (h : SoundL cx ε es x false) : Sound cx ε (.Call (.Attribute o "startswith" apos) es [] pos) (.op .startswith (.cons xo x)) :=
 zaK hb hl hn PySem.F.slot_str_startswith rfl h0 h (by intro d ds r h; delta opF at h; dsimp only at h; exact zcm d ds r h) ze1
theorem zh1 (hl : (apos.endLine == pos.line) = true) (hb : plainBase o = true) (hn : es.length < 30) (h0 : Sound cx ε o xo) (h : SoundL cx ε es x false) : Sound cx ε (.Call (.Attribute o "endswith" apos) es [] pos) (.op .endswith (.cons xo x)) :=
 zaK hb hl hn PySem.F.slot_str_endswith rfl h0 h (by intro d ds r h; delta opF at h; dsimp only at h; exact zcm d ds r h) zgw
theorem zkE (hl : (apos.endLine == pos.line) = true) (hb : plainBase o = true) (hn : es.length < 30) (h0 : Sound cx ε o xo) (h : SoundL cx ε es x false) : Sound cx ε (.Call (.Attribute o "rstrip" apos) es [] pos) (.op .rstrip (.cons xo x)) :=
 zaK hb hl hn PySem.F.slot_str_rstrip rfl h0 h (by intro d ds r h; delta opF at h; dsimp only at h; exact zcm d ds r h) ziP
theorem zhj (hl : (apos.endLine == pos.line) = true) (hb : plainBase o = true) (hn : es.length < 30) (h0 : Sound cx ε o xo) (h : SoundL cx ε es x false) : Sound cx ε (.Call (.Attribute o "lstrip" apos) es [] pos) (.op .lstrip (.cons xo x)) :=
 zaK hb hl hn PySem.F.slot_str_lstrip rfl h0 h (by intro d ds r h; delta opF at h; dsimp only at h; exact zcm d ds r h) ziR
theorem m_find (hl : (apos.endLine == pos.line) = true) (hb : plainBase o = true) (hn : es.length < 30) (h0 : Sound cx ε o xo) (h : SoundL cx ε es x false) : Sound cx ε (.Call (.Attribute o "find" apos) es [] pos) (.op .find4 (.cons xo x)) :=
 zaK hb hl hn PySem.F.slot_str_find rfl h0 h (fun d ds r h => zkQ d ds r h) zkp
theorem zjc (hl : (apos.endLine == pos.line) = true) (hb : plainBase o = true) (hn : es.length < 30) (h0 : Sound cx ε o xo) (h : SoundL cx ε es x false) : Sound cx ε (.Call (.Attribute o "replace" apos) es [] pos) (.op .replace (.cons xo x)) :=
 zaK hb hl hn PySem.F.slot_str_replace rfl h0 h (fun d ds r h => zgt d ds r h) zhY
theorem zb4 (hl : (apos.endLine == pos.line) = true) (hb : plainBase o = true) (hn : es.length < 30) (h0 : Sound cx ε o xo) (h : SoundL cx ε es x false) : Sound cx ε (.Call (.Attribute o "join" apos) es [] pos) (.op .join (.cons xo x)) :=
 zaK hb hl hn PySem.F.slot_str_join rfl h0 h (fun d ds r h => zkL d ds r h) op_join
theorem zcb (hl : (apos.endLine == pos.line) = true) (hb : plainBase o = true) (hn : es.length < 30) (h0 : Sound cx ε o xo) (h : SoundL cx ε es x false) : Sound cx ε (.Call (.Attribute o "split" apos) es [] pos) (.op .split (.cons xo x)) :=
 zaK hb hl hn PySem.F.slot_str_split rfl h0 h (fun d ds r h => zix d ds r h) zkj
end
end
noncomputable def nthBody (p : Program) (n : Nat) : List Stmt := match p.main.body[n]? with
 | some (.FunctionDef _ _ b _ _ _ _ _ _ _) => b
 | _ => []
set_option genInjectivity false in
structure GN (cx : XCx) (fs : List (Str × Nat)) (bs : List Str) : Prop where
 f : ∀ x i,(x,i) ∈ fs → cx.mg x = some (.ref (cx.fa i))
 b : ∀ x,x ∈ bs → cx.mg x = none
theorem GN.fi {cx : XCx} {fs : List (Str × Nat)} {bs : List Str} (N : GN cx fs bs) (i : Nat) {x : Str} {a : Nat} (h : fs[i]? = some (x,a)) : cx.mg x = some (.ref (cx.fa a)) := N.f _ _ (List.mem_of_getElem? h)
theorem GN.bi {cx : XCx} {fs : List (Str × Nat)} {bs : List Str} (N : GN cx fs bs) (i : Nat) {x : Str} (h : bs[i]? = some x) : cx.mg x = none := N.b _ (List.mem_of_getElem? h)
theorem nfree {ks : List (Str × NameKind)} {x : Str} {k : NameKind} (h : ks.lookup x = some k) (hk : k ≠ .free := by decide) : ks.lookup x ≠ some .free := by
 rw [h]; intro e; (injection e with e; subst e); exact hk rfl
theorem zbB {is : List Nat} (h : is.length = 1 := by rfl) : ∀ d ds,one1 d = some ds → ds.length = is.length := by
 intro d ds e; (injection e with e; subst e); exact h.symm
noncomputable def compOKb (ε : Sc) (scope : Scope) (xs : List Str) (is : List Nat) : Bool :=
 (scope.kind == .function) && scope.names.all (fun y => y.2 != .cell) && scope.names.all (fun y => y.2 != .local || scope.names.lookup y.1 == some .local) && xs.all (fun x => scope.names.lookup x == some .local)
  && scope.names.all (fun y => y.2 != .free || ((ε.vars.lookup y.1).isSome && ε.kinds.lookup y.1 != some .local)) && ε.vars.all (fun y => !is.contains y.2) && decide xs.Nodup && decide is.Nodup && decide (xs.length = is.length)
theorem zaZ {ε : Sc} {scope : Scope} {xs : List Str} {is : List Nat} (h : compOKb ε scope xs is = true) : CompOK ε scope xs is := by
 unfold compOKb at h
 simp only [Bool.and_eq_true,decide_eq_true_eq,List.all_eq_true,Bool.or_eq_true,bne_iff_ne,beq_iff_eq,Bool.not_eq_true',ne_eq] at h
 obtain ⟨⟨⟨⟨⟨⟨⟨⟨h1,h2⟩,h3⟩,h4⟩,h5⟩,h6⟩,h7⟩,h8⟩,h9⟩ := h
 refine ⟨h1,h2,fun y hy e => (h3 y hy).elim (fun q => absurd e q) id,h4,fun y k hy e => ?_,fun y j hj hm => ?_,h7,h8,h9⟩
 ·rcases h5 (y,k) hy with q | ⟨q1,q2⟩
  ·exact absurd e q
  ·exact ⟨Option.isSome_iff_exists.mp q1,q2⟩
 ·have := h6 (y,j) (za0 hj)
  rw [List.contains_iff_mem.mpr hm] at this
  injection this
theorem zk9 {x : Str} {p : Pos} : (Expr.Name x p).pos = p := rfl
theorem pos_lc {e : Expr} {g : List Comprehension} {c : Scope} {p : Pos} : (Expr.ListComp e g c p).pos = p := rfl
theorem pos_tu {l : List Expr} {k : Nat} {p : Pos} : (Expr.Tuple l k p).pos = p := rfl
theorem kindOf_ε {env : Env} {ks : List (Str × NameKind)} (h : env.scope.names = ks) (x : Str) : env.kindOf x = ks.lookup x := by unfold Env.kindOf; rw [h]
theorem swapC {ks : List (Str × NameKind)} {elt : Expr} {gens : List Comprehension} {scope : Scope} {pos py : Pos} {y : Str} {line : Nat} (hk : ks.lookup y = some .local) (hp : (py.line == pos.line) = true) (ha : (scope.names.any fun (n,k) => n == y && (k == .local || k == .cell)) = false) :
  ∀ env : Env,env.scope.kind = .function → env.scope.names = ks → swapsWith (.ListComp elt gens scope pos) (some (.Name y py)) line env = pure true := by
 intro env h1 h2
 unfold swapsWith
 have hb : (env.blockKind == .function) = true := by unfold Env.blockKind; rw [h1]; rfl
 simp only [kindOf_ε h2,hk,hb,zk9,pos_lc,hp,ha]
 rfl
theorem zet {ks : List (Str × NameKind)} {elt : Expr} {gens : List Comprehension} {scope : Scope} {pos py : Pos} {y : Str} {line : Nat} (hk : ks.lookup y = some .cell) :
  ∀ env : Env,env.scope.kind = .function → env.scope.names = ks → swapsWith (.ListComp elt gens scope pos) (some (.Name y py)) line env = pure false := by
 intro env h1 h2
 unfold swapsWith
 have e : ((some NameKind.cell : Option NameKind) == some NameKind.local) = false := rfl
 simp only [kindOf_ε h2,hk,e,Bool.and_false,Bool.false_and]
theorem zg1 {ks : List (Str × NameKind)} {x y : Str} {p p' pos' posv : Pos} {k kv : Nat} {v1 v2 : Expr} (hx : ks.lookup x = some .local) (hy : ks.lookup y = some .local) (hp : (p'.line == p.line) = true)
  (hs1 : starred v1 = false) (hs2 : starred v2 = false) (hd : ([x,y].eraseDups.length != 2) = false) (hf : [v1,v2].all (foldedForSure 8) = false) (hc : [v1,v2].all (constantsAlone 8) = false) :
  ∀ env : Env,env.scope.kind = .function → env.scope.names = ks → swappedStores [.Tuple [.Name x p,.Name y p'] k pos'] (.Tuple [v1,v2] kv posv) env = pure (some [x,y]) := by
 intro env h1 h2
 have hb : (env.blockKind != .function) = false := by unfold Env.blockKind; rw [h1]; rfl
 unfold swappedStores
 have hp0 : (p.line == p.line) = true := beq_self_eq_true _
 have el : ((some NameKind.local : Option NameKind) == some NameKind.local) = true := rfl
 have hst : ∀ v : Expr,starred v = false → (match v with | .Starred .. => true | _ => false) = false := fun v h => by
  cases v <;> first | rfl | injection h
 simp only [List.length_cons,List.length_nil,List.head?_cons,Option.map_some,Option.getD_some,zk9,pos_tu,List.filterMap_cons,List.filterMap_nil,kindOf_ε h2,hx,hy,hp,hp0,el,Bool.and_self,if_true,hb,hf,hc,Bool.or_false]
 simp only [Nat.zero_add,Nat.reduceAdd,hd]
 have h3 : ([v1,v2].any fun x => match x with | .Starred .. => true | _ => false) = false := by
  simp only [List.any_cons,List.any_nil,Bool.or_false,hst v1 hs1,hst v2 hs2]
 exact (if_neg Bool.false_ne_true).trans ((if_neg fun q => Bool.false_ne_true (h3.symm.trans q)).trans rfl)
theorem apart1 {cx : XCx} {G : LamG cx} {p0 : Pos} {q0 : PySem.Str} {g : Pos} (h : G.qs = [(p0,q0)]) (ha : (p0.line != g.line || p0.col != g.col) = true) : ∀ p q,(p,q) ∈ G.qs → p.line ≠ g.line ∨ p.col ≠ g.col := by
 intro p q hm
 rw [h] at hm
 cases List.mem_singleton.mp hm
 simpa using ha
end Mine
end
section
open PySem PySem.Calls PyProof.Rows PySem.Builtin.Str PySem.W
namespace Mine
section
variable {cx : XCx}
theorem len1 {P : List Value → Prop} (h : ∀ a,P [a]) (vs : List Value) (e : vs.length = 1) : P vs := by
 obtain ⟨a,rfl⟩ := List.length_eq_one_iff.mp e
 exact h a
theorem len2 {P : List Value → Prop} (h : ∀ a b,P [a,b]) (vs : List Value) (e : vs.length = 2) : P vs := by
 cases vs with
 | nil => injection e
 | cons a t => exact len1 (P := fun t => P (a :: t)) (h a) t (Nat.succ.inj e)
theorem len3 {P : List Value → Prop} (h : ∀ a b c,P [a,b,c]) (vs : List Value) (e : vs.length = 3) : P vs := by
 cases vs with
 | nil => injection e
 | cons a t => exact len2 (P := fun t => P (a :: t)) (h a) t (Nat.succ.inj e)
theorem zau {fd : FuncData} {fn : Fn} {ps : List Str} (hva : fn.va = false) (h : ∀ vs : List Value,vs.length = fn.np → bindArgs fd ⟨vs,[]⟩ = pure (ps.zip vs)) : BindOK cx fd fn ps := by
 intro A F s vs args ds ok w q hb Q E hQ
 unfold boundTo at hb
 rw [hva] at hb
 simp only [Bool.false_eq_true,if_false] at hb
 split at hb <;> (first | (injection hb; done) | (injection hb with hb; subst hb))
 rename_i hl
 rw [h vs (q.length.trans hl)]
 exact wpAny_pure (hQ F s vs (Step.refl w) q)
theorem zgR {fd : FuncData} {fn : Fn} {ps : List Str} {K : Frag} {T : Addr} {cls : Value} {items : Array Value} {n : Nat} (X : K.In cx.h0) (nx : ¬ cx.X T) (hva : fn.va = false)
  (hd : fd.defaults = .ref T) (ho : K.lookup T = some { cls := cls,data := .seq items n }) (h : ∀ vs : List Value,vs.length = fn.np → ∃ k,bindArgs fd ⟨vs,[]⟩ = seqItems? fd.defaults >>= k ∧ k (some items) = pure (ps.zip vs)) : BindOK cx fd fn ps := by
 intro A F s vs args ds ok w q hb Q E hQ
 unfold boundTo at hb
 rw [hva] at hb
 simp only [Bool.false_eq_true,if_false] at hb
 split at hb <;> (first | (injection hb; done) | (injection hb with hb; subst hb))
 rename_i hl
 obtain ⟨k,h₁,h₂⟩ := h vs (q.length.trans hl)
 exact BindsTo.of_defaults (s := s) hd (w.base _ _ (X _ _ ho) nx) rfl h₁ h₂ _ _ _ _ (hQ F s vs (Step.refl w) q)
theorem zjW {fd : FuncData} {fn : Fn} {x y : Str} (hva : fn.va = true) (hnp : fn.np = 1) (hbd : ∀ v r,bindArgs fd ⟨v :: r,[]⟩ = (do let t ← newTuple r; pure [(x,v),(y,t)])) : BindOK cx fd fn [x,y] := by
 intro A F s vs args ds ok w q hb Q E hQ
 unfold boundTo at hb
 rw [hva,hnp] at hb
 simp only [if_true] at hb
 split at hb <;> (first | (injection hb; done) | (injection hb with hb; subst hb))
 rename_i hl
 cases q with
 | nil => simp at hl
 | @cons v vs d ds hv hvs =>
  rw [hbd]
  have hz : vs.length ≤ lim := by
   rw [hvs.length]
   have := hl.2
   rw [List.length_cons] at this
   omega
  refine wb (wpAny_newTuple ?_ (zaC hz))
  refine wpAny_pure ?_
  obtain ⟨F3,st3,r⟩ := ze0 ok w s.toks hz hvs
  exact hQ F3 _ [v,_] st3 (.cons (st3.rep w hv) (.cons r .nil))
end
noncomputable def fnOKb (ε : Sc) (fn : Fn) (ps : List Str) : Bool :=
 decide (ps.length = fn.np + (if fn.va then 1 else 0)) && decide ps.Nodup && (ps.zipIdx.all fun y => ε.vars.lookup y.1 == some y.2) && (ε.vars.all fun y => ε.kinds.lookup y.1 == some .local || ε.kinds.lookup y.1 == some .cell) && decide (ε.vars.map (·.2)).Nodup
theorem ziY {l : List (Str × Nat)} (h : (l.map (·.2)).Nodup) {x y : Str} {i : Nat} (h1 : (x,i) ∈ l) (h2 : (y,i) ∈ l) : x = y := by
 induction l with
 | nil => cases h1
 | cons z r ih =>
  rw [List.map_cons] at h
  obtain ⟨n1,n2⟩ := List.nodup_cons.mp h
  rcases List.mem_cons.mp h1 with e1 | h1
  ·rcases List.mem_cons.mp h2 with e2 | h2
   ·rw [← e2] at e1; exact congrArg Prod.fst e1
   ·exact (n1 (List.mem_map.mpr ⟨_,h2,by rw [← e1]⟩)).elim
  ·rcases List.mem_cons.mp h2 with e2 | h2
   ·exact (n1 (List.mem_map.mpr ⟨_,h1,by rw [← e2]⟩)).elim
   ·exact ih n2 h1 h2
theorem FnIs.ofK {cx : XCx} {K : Frag} (X : K.In cx.h0) {ε : Sc} {i : Nat} {a : Addr} {fn : Fn} {body : List Stmt} {ps : List Str} {oc : Value} {od : Option Addr} {osl : Array (Option Value)} {name : Str} {params : Arguments} {scope : Scope} {dV kV doc pm ct : Value} {c : Addr} {an : Option Addr}
  (ha : cx.fa i = a) (nx : ¬ cx.X a) (ho : K.lookup a = some ⟨oc,od,.func (fnOf name name params body scope dV kV doc pm an (.ref c) ct),osl⟩) (hcd : codeIn K (.ref c) name = true) (ncx : ¬ cx.X c) (hc : ∀ c' q,ε.code = some (c',q) → (.ref c : Value) = .ref c' ∧ name ++ ".<locals>." = q)
  (hb : BindOK cx (fnOf name name params body scope dV kV doc pm an (.ref c) ct) fn ps) (names : scope.names = ε.kinds) (co : scope.isCoroutine = false) (gen : scope.isGenerator = false) (kind : scope.kind = .function) (h : fnOKb ε fn ps = true) (htop : ε.top = false := by rfl) :
  FnIs cx ε i fn (fnOf name name params body scope dV kV doc pm an (.ref c) ct) body ps := by
 unfold fnOKb at h
 simp only [Bool.and_eq_true,decide_eq_true_eq,List.all_eq_true,Bool.or_eq_true,beq_iff_eq] at h
 obtain ⟨⟨⟨⟨h1,h2⟩,h3⟩,h4⟩,h5⟩ := h
 refine ⟨⟨_,by rw [ha]; exact X _ _ ho,rfl⟩,by rw [ha]; exact nx,⟨c,rfl,ncx,codeRec_of X hcd⟩,rfl,hc,rfl,rfl,rfl,co,gen,kind,names,hb,fun args ds e => ?_,h2,fun k x e => ?_,fun x j e => h4 (x,j) (za0 e),⟨fun x y i ex ey => ziY h5 (za0 ex) (za0 ey)⟩,htop⟩
 ·unfold boundTo at e
  split at e
  ·rename_i hva
   split at e <;> (first | (injection e; done) | (injection e with e; subst e))
   rename_i hl
   rw [h1,if_pos hva,List.length_append,List.length_take,List.length_singleton,Nat.min_eq_left hl.1]
  ·rename_i hva
   split at e <;> (first | (injection e; done) | (injection e with e; subst e))
   rename_i hl
   rw [h1,if_neg hva,hl]; rfl
 ·have : (x,k) ∈ ps.zipIdx := List.mem_zipIdx_iff_getElem?.mpr (by simpa using e)
  exact h3 _ this
noncomputable abbrev mkCx (prog : Program) (w : World) (h₁ : Heap) (c P : Addr) (qs : List (Pos × PySem.Str)) (mg mb : SV) (fa : NAd) (T : NAd) : XCx :=
 {prog := prog,w := w,h0 := ghostOf h₁ [(c,P)],X := fun a => a = P,XI := fun _ => True,T := T,mg := mg,mb := mb,fa := fa,XF := TabXF c P qs }
section
variable {prog : Program} {w : World} {h₁ : Heap} {c P : Addr} {qs : List (Pos × PySem.Str)} {mg mb : SV} {fa : NAd} {p : Program} {loose : List Str} {mean : ExcName → Option Value} {K : Frag}
theorem zia (c : Addr) : (ghostOf h₁ [(c,P)]).get? P = none := hideAll_none _ (by simp)
theorem zbW {a : Addr} {o : Obj} (e : (ghostOf h₁ [(c,P)]).get? a = some o) : a ≠ P := fun q => by rw [q,zia c] at e; injection e
theorem zhp {a : Addr} {o : Obj} (e : (ghostOf h₁ [(c,P)]).get? a = some o) : h₁.get? a = some o := of_hideAll _ e
theorem ns_at {h : Heap} {a : Addr} {m : SV} (x : h.Ns a m) : ∃ o,h.get? a = some o := let ⟨o,_,_,e,_⟩ := x; ⟨o,e⟩
theorem zh9 (hT : TabsAt [(c,P)] h₁) (N : h₁.NoSeer) : (ghostOf h₁ [(c,P)]).NoSeer where
 statics := let ⟨mc,a,b⟩ := N.statics; ⟨mc,ghost_ns hT a,b⟩
 mods := let ⟨mc,a,b⟩ := N.mods; ⟨mc,ghost_ns hT a,b⟩
 imp := let ⟨mc,a,b⟩ := N.imp; ⟨mc,ghost_ns hT a,b⟩
 main := let ⟨mg,bm,ob,a,b,c,d,e⟩ := N.main; ⟨mg,bm,ob,ghost_ns hT a,b,ghost_get hT c (fun q => by rw [q] at d; injection d),d,e⟩
theorem ns_none {K : Frag} {h : Heap} {a : Addr} {m : SV} {n : Str} (X : K.In h) (G : h.Ns a m) (e : nsIn K a n = some none) : m n = none := by
 obtain ⟨o,es,ep,ho,hd,_,hf⟩ := G
 unfold nsIn at e
 split at e
 ·rename_i c d es' n' sl q
  have := X _ _ q
  rw [ho] at this
  (injection this with this; subst this)
  cases hd
  split at e
  ·(injection e with e; injection e)
  ·rename_i he
   rw [← hf]
   unfold nsFind findBy
   rw [← Array.find?_toList,he]
   rfl
 ·injection e
theorem cxOk_of (hT : TabsAt [(c,P)] h₁) (X : K.In (ghostOf h₁ [(c,P)])) (T1 : Top p loose mean mg mb h₁) (hi : importsNone p = true) (htree : prog.given.tree = none) (hnb : nsIn K cStatics sharingNotToldKey = some none) {T : NAd} (tinj : ∀ i j,T i = T j → i = j) :
  CxOk (mkCx prog w h₁ c P qs mg mb fa T) := by
 have nP : ∀ {a : Addr} {m : SV},(ghostOf h₁ [(c,P)]).Ns a m → ¬ a = P := fun x => let ⟨_,e⟩ := ns_at x; zbW e
 have g := ghost_ns hT T1.g
 have b := ghost_ns hT T1.b
 obtain ⟨mc,s1,s2⟩ := T1.nolimit
 have s := ghost_ns hT s1
 exact ⟨fun F F' h h' x hF hk => x.mono hF hk,g,nP g,b,nP b,T1.builtins,⟨mc,s,s2⟩,nP s,fun h hk => (zh9 hT (T1.seer hi)).keeps fun a o e => hk a o e (zbW e),htree,⟨mc,s,ns_none X s hnb⟩,tinj⟩
theorem wd_of (hT : TabsAt [(c,P)] h₁) {s : Shared} (hs : s.heap = h₁) (hg : s.gens = #[]) {T : NAd} : Wd (mkCx prog w h₁ c P qs mg mb fa T) (fun a => ∃ o,(ghostOf h₁ [(c,P)]).get? a = some o) s := by
 subst hs
 obtain ⟨hc,ht⟩ := hT _ List.mem_cons_self
 have C := (ghost_code hT).1
 refine ⟨fun a o e _ => zhp e,⟨?_,hc, #[],ht,trivial,fun pos q _ cv e => by injection e⟩,by rw [hg]; intro g h; simp at h,fun a o e _ => ⟨o,e⟩,fun a ⟨o,e⟩ => ⟨o,zhp e⟩,fun a ⟨o,e⟩ => zbW e,fun a e => by subst e; exact ⟨_,ht⟩⟩
 obtain ⟨o,_,_,_,_,_,_,_,_,e,_⟩ := C
 exact ⟨o,e⟩
noncomputable def lamG_of (hT : TabsAt [(c,P)] h₁) (T1 : Top p loose mean mg mb h₁) {T : NAd} (hq : qs.Pairwise fun a b => a.1.line ≠ b.1.line ∨ a.1.col ≠ b.1.col) : LamG (mkCx prog w h₁ c P qs mg mb fa T) :=
 {c := c,Pt := P,qs := qs,xget := fun _ _ h => h,xset := fun _ _ _ _ _ _ _ h => h,xp := rfl,x0 := fun a o e => zbW e,apart := hq,blt := by
   obtain ⟨bm,ob,b1,b2,b3,b4,b5,b6⟩ := T1.bmain
   have gb : (ghostOf h₁ [(c,P)]).get? bm = some ob := ghost_get hT b3 fun q => by rw [q] at b4; injection b4
   refine ⟨bm,ob,b1,b2,fun e => ?_,zbW gb,gb,b4,b5,b6⟩
   obtain ⟨o,es,ep,ho,hd,_⟩ := T1.g
   rw [e,ho] at b3
   cases b3
   rw [hd] at b6; injection b6 }
noncomputable def tabKeys (es : Array DictEntry) : Bool := es.toList.all fun e => match e.key with | .int k _ => e.hash == hashInt k | _ => false
noncomputable def tabVals (es : Array DictEntry) : Bool := (List.range 128).all fun c => match findBy Value.isInt es (c : Int) with
 | some (.str x _) => special.contains c && x == ⟨#[92,c]⟩
 | none => !special.contains c
 | _ => false
theorem tabG_of {cx : XCx} (X : K.In cx.h0) {d : Addr} {es : Array DictEntry} {n : Nat} (nx : ¬ cx.X d) (hl : K.lookup d = some ⟨.type "dict",none,.dict es n, #[]⟩) (sys : (d == sysModules) = false) (hk : tabKeys es = true) (hv : tabVals es = true) : ∃ G : TabG cx,G.d = d := by
 unfold tabKeys at hk
 rw [List.all_eq_true] at hk
 unfold tabVals at hv
 rw [List.all_eq_true] at hv
 refine ⟨{ d := d,f := fun k => findBy Value.isInt es k,nx := nx,hm := ⟨_,es,n,X _ _ hl,⟨rfl,rfl,rfl⟩,rfl,fun e he => ?_,fun _ => rfl⟩,sys := sys,yes := fun c hc hs => ?_,no := fun c hc hs => ?_ },rfl⟩
 ·have := hk e (Array.mem_toList_iff.mpr he)
  split at this
  ·rename_i k t e1
   exact ⟨k,by rw [e1]; simp [intKind,Value.isInt],(by simpa using this : e.hash = hashInt k)⟩
  ·injection this
 ·have := hv c (List.mem_range.mpr hc)
  split at this
  ·rename_i x t e1
   simp only [Bool.and_eq_true,beq_iff_eq] at this
   exact ⟨t,by rw [e1,this.2]⟩
  ·rw [hs] at this; injection this
  ·injection this
 ·have := hv c (List.mem_range.mpr hc)
  split at this
  ·rw [hs] at this; injection this
  ·assumption
  ·injection this
end

theorem repInts {T T' : NAd} {F F' : AP} {h : Heap} (hF : ∀ a,F a → F' a) {ns : List Int} : ∀ {vs : List Value},RepL T F h vs (ns.map .int) → RepL T' F' h vs (ns.map .int) := by
 induction ns with
 | nil => intro vs q; cases q; exact .nil
 | cons i ns ih =>
  intro vs q
  cases q with
  | cons a r =>
   generalize hd : D.int i = d at a
   cases a <;> (first | (injection hd; done) | (injection hd with hd; subst hd))
   exact .cons (.int _ _) (ih r)
theorem ziI {T T' : NAd} {F F' : AP} {h : Heap} (hF : ∀ a,F a → F' a) {ns : List Int} {v : Value} (r : Rep T F h v (.list (ns.map .int))) : Rep T' F' h v (.list (ns.map .int)) := by
 cases r with
 | list f g z q => exact .list (hF _ f) g z (repInts hF q)
theorem Frm.retok {cx : XCx} {T' : NAd} {X' : AP} {XF' : (Addr → Prop) → Heap → Prop} {ck : (Nat → List D → Option D) → Prop} {ε : Sc} {env : Env} {F : AP} {s : Shared} {ρ ρ' : List Slot} {ad : NAd} {m cm : SV} (w : Wd cx F s) (f : Frm cx ε env F s ρ ad m cm)
  (hX : ∀ a,cx.X a → X' a) (hX' : ∀ a,X' a → cx.X a ∨ (¬ F a ∧ ¬ Mut env ρ ad a ∧ ∃ o,s.heap.get? a = some o)) (xi : XF' (fun a => F a ∨ ∃ j l,slotAt ρ j = .own l ∧ a = ad j) s.heap)
  (h : ∀ j,(∃ k,slotAt ρ j = .own [.str (tokC k)] ∧ slotAt ρ' j = .val (.tok k) ∧ T' k = ad j) ∨ ((slotAt ρ j = .unset ∨ ∃ ns : List Int,slotAt ρ j = .val (.list (ns.map .int))) ∧ slotAt ρ' j = slotAt ρ j)) :
  Wd { cx with T := T',X := X',XF := XF',cok := ck } (fun a => F a ∨ ∃ j l,slotAt ρ j = .own l ∧ a = ad j) s ∧ Frm { cx with T := T',X := X',XF := XF',cok := ck } ε env (fun a => F a ∨ ∃ j l,slotAt ρ j = .own l ∧ a = ad j) s ρ' ad m cm := by
 have hsub : ∀ a,F a → (F a ∨ ∃ j l,slotAt ρ j = .own l ∧ a = ad j) := fun _ h => .inl h
 have mutX : ∀ a,Mut env ρ ad a → ¬ X' a := fun a h q => (hX' a q).elim (f.notF h).2 fun q => q.2.1 h
 have noOwn : ∀ j l,slotAt ρ' j ≠ .own l := fun j l e => by
  rcases h j with ⟨k,_,e2,_⟩ | ⟨e1,e2⟩
  ·rw [e2] at e; injection e
  ·rw [e2] at e
   rcases e1 with e1 | ⟨ns,e1⟩ <;> rw [e1] at e <;> injection e
 have slots : ∀ j ov,SlotRep cx F s.heap ad j ov (slotAt ρ j) → SlotRep { cx with T := T',X := X',XF := XF',cok := ck } (fun a => F a ∨ ∃ j l,slotAt ρ j = .own l ∧ a = ad j) s.heap ad j ov (slotAt ρ' j) := by
  intro j ov q
  rcases h j with ⟨k,e1,e2,e3⟩ | ⟨e1,e2⟩
  ·rw [e2]
   generalize hsl : slotAt ρ j = sl at q
   rw [e1] at hsl
   subst hsl
   cases q with
   | dic _ _ _ _ q _ _ =>
    cases q
   | own nf nx g z q =>
    cases q with
    | cons q1 q2 =>
     cases q2
     cases q1 with
     | str t p z' =>
      rw [← e3]
      exact .val (Rep.tok (T := T') (k := k) fun _ => ⟨.inr ⟨j,_,e1,e3⟩,_,_,e3 ▸ g⟩)
  ·rw [e2]
   rcases e1 with e1 | ⟨ns,e1⟩
   ·rw [e1]; exact .unset
   ·rw [e1] at q ⊢
    cases q with
    | val q => exact .val (ziI hsub q)
 refine ⟨⟨fun a o e nx => w.base a o e fun q => nx (hX a q),xi,w.gens,fun a o e nx => .inl (w.f0 a o e fun q => nx (hX a q)),fun a h => ?_,fun a h => ?_,fun a q => (hX' a q).elim (w.xex a) fun q => q.2.2⟩,
  ⟨⟨f.en.kind,f.en.names,f.en.glob,f.en.blt,f.en.code,mutX _ (.inl rfl),fun n c hc => mutX c (.inr (.inl ⟨n,hc⟩)),f.en.ns,f.en.cells,fun y j hy => (f.en.vars y j hy).imp (fun ⟨k,q⟩ => ⟨k,slots j _ q⟩) fun ⟨k,c,q⟩ => ⟨k,c,slots j _ q⟩⟩,
   fun h => ?_,fun n c hc => ⟨fun h => ?_,(f.cf n c hc).2⟩,f.cinj,fun i j l _ e => absurd e (noOwn i l),fun i l e => absurd e (noOwn i l)⟩⟩
 ·rcases h with h | ⟨j,l,e,rfl⟩
  ·exact w.lt a h
  ·exact (f.own j l e).2.2.1
 ·rcases h with h | ⟨j,l,e,rfl⟩
  ·exact fun q => (hX' a q).elim (w.nx a h) fun q => q.1 h
  ·exact mutX _ (.inr (.inr ⟨j,l,e,rfl⟩))
 ·rcases h with h | ⟨j,l,e,q⟩
  ·exact f.lf h
  ·exact (f.own j l e).2.2.2.1 q.symm
 ·rcases h with h | ⟨j,l,e,q⟩
  ·exact (f.cf n c hc).1 h
  ·exact (f.own j l e).2.2.2.2 n (q ▸ hc)
noncomputable def tokA (a : Nat) (k : Nat) : Nat := if k = 0 then a else a + k
theorem zj6 (a : Nat) : ∀ i j,tokA a i = tokA a j → i = j := by
 intro i j e
 unfold tokA at e
 split at e <;> split at e <;> omega
noncomputable abbrev XCx.withT (cx : XCx) (T : NAd) : XCx := { cx with T := T }
noncomputable def PlainRho (ρ : List Slot) : Prop := ∀ j,slotAt ρ j = .unset ∨ ∃ ns : List Int,slotAt ρ j = .val (.list (ns.map .int))
noncomputable def Inj (T : NAd) : Prop := ∀ i j,T i = T j → i = j
noncomputable abbrev newTok (i : Nat) (k : Nat) : S := .assignO i (.list (.cons (.const (.str (tokC k))) .nil))
theorem zjF {cf : CfT} {i k : Nat} {ρ : List Slot} (h : noApp i ρ = true) (hd : dSlot i = false) : ex cf (newTok i k) ρ = some (ρ.set i (.own [.str (tokC k)]),.next) := by
 unfold newTok
 rw [zce,h,if_pos rfl]
 exact if_neg (by rw [hd]; exact Bool.false_ne_true)
theorem zbE {β : Type} {p : Nat → Bool} {x : Nat} {j : β} : ∀ {l : List (Nat × β)},(l.filter fun y => p y.1).lookup x = some j → l.lookup x = some j ∧ p x = true
 | [],e => by injection e
 | (y,b) :: r,e => by
  rw [List.filter_cons] at e
  split at e
  ·rename_i hp
   rw [List.lookup_cons] at e ⊢
   cases hx : x == y with
   | true =>
    rw [hx] at e
    exact ⟨e,by rw [beq_iff_eq.mp hx]; exact hp⟩
   | false =>
    rw [hx] at e
    exact zbE e
  ·rename_i hp
   obtain ⟨h1,h2⟩ := zbE e
   refine ⟨?_,h2⟩
   rw [List.lookup_cons]
   cases hx : x == y with
   | true => rw [beq_iff_eq.mp hx] at h2; exact absurd h2 hp
   | false => exact h1
noncomputable abbrev dropK (P : Addr) (K : Frag) : Frag := K.filter fun y => (fun a : Nat => a != P) y.1
theorem zfN {K : Frag} {h₁ : Heap} {c P : Addr} (X : K.In h₁) : (dropK P K).In (ghostOf h₁ [(c,P)]) := fun a o e => by
 obtain ⟨h1,h2⟩ := zbE (p := fun a : Nat => a != P) e
 exact hideAll_get _ (X a o h1) (by simpa using h2)
theorem gn_of {cx : XCx} {fs : List (Str × Nat)} {bs : List Str} (h1 : ∀ p ∈ fs,cx.mg p.1 = some (.ref (cx.fa p.2))) (h2 : ∀ x ∈ bs,cx.mg x = none) : GN cx fs bs := ⟨fun x i h => h1 (x,i) h,h2⟩
theorem zho {T : NAd} {F : AP} {h : Heap} : ∀ {vs : List Value} {ns : List Int},IntsAre vs ns → RepL T F h vs (ns.map .int)
 | _,_,.nil => .nil
 | _,_,.cons n t r => .cons (.int n t) (zho r)
theorem zjt {c P : Addr} {qs : List (Pos × PySem.Str)} {cw : ClaimW} {cl : Str → Option Addr} {mean : ExcName → Option Value} {args : List WData} {s₁ s' : Shared} {F' : AP}
  (hT : TabsAt [(c,P)] s₁.heap) (hr : ∀ x,cw.raises args x = false) (hp : cw.post args (.bool true) args = true) (xi : TabXF c P qs F' s'.heap) (base : ∀ b o,(ghostOf s₁.heap [(c,P)]).get? b = some o → s'.heap.get? b = some o) (gens : GensBare s'.gens) (os : s'.os = s₁.os) : GoodWG cw cl mean args s₁ (.ok (.ret (.bool true))) s' := by
 obtain ⟨hc,ht⟩ := hT _ List.mem_cons_self
 obtain ⟨_,_,ps,hP,_⟩ := xi
 refine ⟨.inl ⟨.bool true,.bool true,[],rfl,hr,.bool true,hp,fun _ => ⟨List.nodup_nil,fun a h => nomatch h⟩⟩,⟨fun b o e => ?_,fun b o e => ?_⟩,os,gens⟩
 ·by_cases hb : b = P
  ·subst hb
   have e2 : o = tabObj #[] := Option.some.inj (e.symm.trans ht)
   subst e2
   exact .inr (.inl ⟨(hc.tab ht).isCodeTable,rfl, #[],ps,rfl,by rw [Array.empty_append]; exact hP⟩)
  ·exact .inl (base b o (ghost_ne e (by simpa using hb)))
 ·by_cases hb : b = P
  ·subst hb
   exact ⟨_,hP⟩
  ·exact ⟨o,base b o (ghost_ne e (by simpa using hb))⟩
end Mine
end
section
open PySem PySem.Calls PyProof.Rows PySem.Builtin.Str
namespace Mine
section
variable {cx : XCx} {ε : Sc}
theorem ziH {T : NAd} {F : AP} {h : Heap} : ∀ {vs : List Value} {ds : List D},vs.length = ds.length → (∀ (i : Nat) v d,vs[i]? = some v → ds[i]? = some d → Rep T F h v d) → RepL T F h vs ds
 | [],[],_,_ => .nil
 | v :: vs,d :: ds,hl,hp => .cons (hp 0 v d rfl rfl) (ziH (by simpa using hl) fun i v d h1 h2 => hp (i + 1) v d h1 h2)
 | [],_ :: _,hl,_ => by simp at hl
 | _ :: _,[],hl,_ => by simp at hl
theorem ze9 {A : Around} (hh : A.handled = none) {F₀ F : AP} {s₀ s : Shared} (ok : CxOk cx) (st : Step cx F₀ s₀ F s) {r : Addr} {a b c : Int} {t u v : Tok} (hr : IsRange s.heap r a b c t u v) (hs : Builtin.Range.small a b c = true)
  {k : Nat} (hk : Builtin.Range.rangeSize a b c = (k : Int)) (hl : k ≤ lim) {Q E : VP} (hQ : Post cx F₀ s₀ (.own ((upTo k a c).map .int)) Q) : wpAny (model cx.prog cx.w) A (call (.type "list") [.ref r]) Q E s := by
 refine call_list_range hh hr hs hk (by unfold lim at hl; omega) fun h' tk acc c' keep hS hacc => ?_
 have hf : s.heap.get? s.heap.objs.size = none := zaE _
 have st' := st.trans (Step.grown ok st.wd tk keep)
 have nx := st.wd.newNotX hf
 refine hQ _ _ _ st' (.own (n := c') (st.fresh nx hf) (st.wd.newNotF hf) nx (vs := acc.toList) (by simpa using hS) (by simp [hacc.1]; exact hl) (ziH (by simp [hacc.1,upTo]) fun i v d h1 h2 => ?_))
 obtain ⟨tk',rfl⟩ := hacc.2 i v (by simpa using h1)
 have hi : i < k := by
  have := (List.getElem?_eq_some_iff.mp h1).1
  simpa [hacc.1] using this
 have : d = .int (a + i * c) := by
  unfold upTo at h2
  rw [List.map_map,List.getElem?_map,List.getElem?_range hi] at h2
  have := Option.some.inj h2
  rw [← this]
  show D.int (a + c * (i : Int)) = _
  rw [Int.mul_comm]
 rw [this]
 exact .int _ tk'
theorem zh2 {A : Around} {n : Nat} (hb : BudE n A) {F₀ F : AP} {s₀ s : Shared} (ok : CxOk cx) (st : Step cx F₀ s₀ F s) {vs : List Value} {ds : List D} (q : BRepL cx F s.heap vs ds) {l : List D} (hl : opRange ds = some l)
  {Q E : VP} (hQ : Post cx F₀ s₀ (.own l) Q) :
  wpAny (model cx.prog cx.w) A (call (.type "range") vs) (fun v s₁ => wpAny (model cx.prog cx.w) A (call (.type "list") [v]) Q E s₁) E s :=
 zez ok st q hl fun r a b c t u v k s' st' hr hs hk hl' e => ze9 hb.hd ok st' hr hs hk hl' (e ▸ hQ)
theorem zdz {p p' pos' pos : Pos} {es : List Expr} {x : X} (hk : ε.kinds.lookup ("list" : Str) = some .globalImplicit) (hg : cx.mg ("list" : Str) = none) (hk' : ε.kinds.lookup ("range" : Str) = some .globalImplicit) (hg' : cx.mg ("range" : Str) = none) (h : SoundL cx ε es x false) :
  Sound cx ε (.Call (.Name "list" p) [.Call (.Name "range" p') es [] pos'] [] pos) (.op .listOf (.cons (.rangeI x) .nil)) := by
 refine Sound.ofE ?_ fun _ => rfl
 intro n cf A env F s ρ ad m cm H res he Q E hQ
 obtain ⟨rs,e1,e2⟩ := ev_op he
 obtain ⟨r,rs',e3,e4,rfl⟩ := zaD e1
 obtain rfl := zbq e4
 obtain ⟨ds,l,e5,e6,rfl⟩ : ∃ ds l,ev cf x ρ = some ds ∧ opRange (ds.map R.ds) = some l ∧ r = .val (.list l) := by
  replace e3 := (zcP _).symm.trans e3
  split at e3
  ·rename_i ds e
   obtain ⟨l,e7,e8⟩ := Option.map_eq_some_iff.mp e3
   (injection e8 with e8 z; injection z; subst e8)
   exact ⟨ds,l,e,e7,rfl⟩
  ·injection e3
 (injection e2 with e2; subst e2)
 rw [zaw (by intro _ _ _ e; injection e)]
 refine wb (zaL H hk hg (by decide) (v := .type "list") (by rfl) (by decide) ?_)
 rw [zaq rfl,zav]
 refine PyProof.Rows.callWith_type rfl (Calls.evalArgs_plain (Calls.spliced_cons ?_))
 rw [zaw (by intro _ _ _ e; injection e)]
 refine wb (zaL H hk' hg' (by decide) (v := .type "range") (by rfl) (by decide) ?_)
 refine PyProof.Rows.callWith_type (zaM h) (zaO h H e5 fun vs F' s' st q => ?_)
 refine wpAny_mono (zh2 H.bud H.ok st q.brep e6 hQ) (fun v s₁ h₁ => ?_) fun _ _ x => x
 exact Calls.spliced_nil h₁
end
end Mine
end
section
open PySem PySem.Calls PyProof.Rows PySem.Builtin.Str PySem.SeqAt PySem.AutoSeq1 PySem.MeetsSeq PySem.MeetsSeq2 PySem.MeetsSeq3 PySem.SeqRoads2
namespace Mine
inductive StrVs : List Value → List (List Nat) → Prop
 | nil : StrVs [] []
 | cons {l : List Nat} {t : Tok} {vs : List Value} {ls : List (List Nat)} : StrVs vs ls → StrVs (.str ⟨l.toArray⟩ t :: vs) (l :: ls)
theorem zdp {vs : List Value} {i : Nat} {v : Value} {r : List Value} (h : vs.drop i = v :: r) : vs.toArray[((i : Nat) : Int).toNat]? = some v ∧ vs.drop (i + 1) = r := by
 constructor
 ·rw [Int.toNat_natCast,List.getElem?_toArray, ← Nat.add_zero i, ← List.getElem?_drop,h]; rfl
 ·rw [← List.drop_drop,h]; rfl
theorem zcD {vs : List Value} {i : Nat} (h : vs.drop i = []) : vs.toArray[((i : Nat) : Int).toNat]? = none := by
 rw [Int.toNat_natCast,List.getElem?_toArray,List.getElem?_eq_none_iff]
 exact List.drop_eq_nil_iff.mp h
theorem zbb {vs : List Value} {i : Nat} {r : List Value} (h : vs.drop i = r) (hi : i ≤ vs.length) : vs.toArray.size = i + r.length := by
 have := congrArg List.length h
 rw [List.length_drop] at this
 rw [List.size_toArray, ← this,Nat.add_sub_cancel' hi]
theorem zjK (A : Around) (s : Shared) (a b : List Nat) (t u : Tok) : EqAt A s (.str ⟨a.toArray⟩ t) (.str ⟨b.toArray⟩ u) (decide (a = b)) := by
 have h := EqAt.str_str (A := A) (s := s) ⟨a.toArray⟩ t ⟨b.toArray⟩ u
 have e : ((⟨a.toArray⟩ : PySem.Str) == ⟨b.toArray⟩) = decide (a = b) := by
  by_cases q : a = b
  ·subst q; simp
  ·rw [decide_eq_false q,beq_eq_false_iff_ne]
   intro h; exact q (by simpa using h)
 rwa [e] at h
section
variable {l b : Addr} {vs ws : List Value} {n n2 : Nat}
theorem lt_loop : ∀ (xs ys : List (List Nat)) (i : Nat),StrVs (vs.drop i) xs → StrVs (ws.drop i) ys → i ≤ vs.length → i ≤ ws.length → Meets (Builtin.«list.__eq__.loop» ⟨[.ref l,.ref b,rawInt i,rawInt 0],[]⟩)
  (fun A R s => s.heap.get? l = some (lobj vs.toArray n) ∧ s.heap.get? b = some (lobj ws.toArray n2) ∧ R (.ok (.ret (.bool (ltSs xs ys)))) s) := by
 intro xs
 induction xs with
 | nil =>
  intro ys i q1 q2 l1 l2 prog w A R s h
  obtain ⟨hp,g,d,tk,os⟩ := s; obtain ⟨hl,hb,h⟩ := h
  generalize e1 : vs.drop i = r1 at q1
  generalize e2 : ws.drop i = r2 at q2
  cases q1
  have z1 := zbb e1 l1
  have z2 := zbb e2 l2
  wp_walk using wpAny_loadPart' hl,wpAny_loadPart' hb
  rw [zcD e1]
  wp_walk using wpAny_loadPart' hl,wpAny_loadPart' hb
  show R (.ok (.ret (.bool (decide (vs.toArray.size < ws.toArray.size))))) _
  rw [z1,z2]
  cases q2 with
  | nil => rw [decide_eq_false (by simp)]; exact h
  | cons q2 => rw [decide_eq_true (by simp)]; exact h
 | cons x xs ih =>
  intro ys i q1 q2 l1 l2 prog w A R s h
  obtain ⟨hp,g,d,tk,os⟩ := s; obtain ⟨hl,hb,h⟩ := h
  generalize e1 : vs.drop i = r1 at q1
  generalize e2 : ws.drop i = r2 at q2
  cases q1 with | cons q1 =>
  have z1 := zbb e1 l1
  have z2 := zbb e2 l2
  obtain ⟨g1,e1'⟩ := zdp e1
  cases q2 with
  | nil =>
   wp_walk using wpAny_loadPart' hl,wpAny_loadPart' hb
   rw [g1,zcD e2]
   wp_walk using wpAny_loadPart' hl,wpAny_loadPart' hb
   show R (.ok (.ret (.bool (decide (vs.toArray.size < ws.toArray.size))))) _
   rw [z1,z2,decide_eq_false (by simp)]
   exact h
  | cons q2 =>
   obtain ⟨g2,e2'⟩ := zdp e2
   wp_walk using wpAny_loadPart' hl,wpAny_loadPart' hb
   rw [g1,g2]
   refine wb (zjK _ _ _ _ _ _ prog w _ _ ?_)
   have hc : ((i : Int) + 1) = ((i + 1 : Nat) : Int) := by push_cast; rfl
   unfold ltSs at h
   rename_i y _ _ _
   by_cases hxy : x = y
   ·rw [if_pos hxy] at h
    rw [decide_eq_true hxy]
    wp_walk
    rw [hc]
    refine ⟨plainId_quiet plain_eq_loop _,codeAny_builtin entry_eq_loop ?_⟩
    rw [Around.under_plainId plain_eq_loop _]
    rw [List.length_cons,List.size_toArray] at z1 z2
    exact ih _ (i + 1) (e1' ▸ q1) (e2' ▸ q2) (z1 ▸ Nat.add_le_add_left (Nat.succ_le_succ (Nat.zero_le _)) i) (z2 ▸ Nat.add_le_add_left (Nat.succ_le_succ (Nat.zero_le _)) i) prog w A R _ ⟨hl,hb,h⟩
   ·rw [if_neg hxy] at h
    rw [decide_eq_false hxy]
    wp_walk using wpAny_loadPart' hl,wpAny_loadPart' hb
    rw [g1,g2]
    refine wb ?_
    exact P.lt_str (wpAny_pure h)
theorem gt_loop : ∀ (xs ys : List (List Nat)) (i : Nat),StrVs (vs.drop i) xs → StrVs (ws.drop i) ys → i ≤ vs.length → i ≤ ws.length → Meets (Builtin.«list.__eq__.loop» ⟨[.ref l,.ref b,rawInt i,rawInt 4],[]⟩)
  (fun A R s => s.heap.get? l = some (lobj vs.toArray n) ∧ s.heap.get? b = some (lobj ws.toArray n2) ∧ R (.ok (.ret (.bool (ltSs ys xs)))) s) := by
 intro xs
 induction xs with
 | nil =>
  intro ys i q1 q2 l1 l2 prog w A R s h
  obtain ⟨hp,g,d,tk,os⟩ := s; obtain ⟨hl,hb,h⟩ := h
  generalize e1 : vs.drop i = r1 at q1
  generalize e2 : ws.drop i = r2 at q2
  cases q1
  have z1 := zbb e1 l1
  have z2 := zbb e2 l2
  wp_walk using wpAny_loadPart' hl,wpAny_loadPart' hb
  rw [zcD e1]
  wp_walk using wpAny_loadPart' hl,wpAny_loadPart' hb
  show R (.ok (.ret (.bool (decide (vs.toArray.size > ws.toArray.size))))) _
  rw [z1,z2]
  cases q2 with
  | nil => rw [decide_eq_false (by simp)]; exact h
  | cons q2 => rw [decide_eq_false (by simp)]; exact h
 | cons x xs ih =>
  intro ys i q1 q2 l1 l2 prog w A R s h
  obtain ⟨hp,g,d,tk,os⟩ := s; obtain ⟨hl,hb,h⟩ := h
  generalize e1 : vs.drop i = r1 at q1
  generalize e2 : ws.drop i = r2 at q2
  cases q1 with | cons q1 =>
  have z1 := zbb e1 l1
  have z2 := zbb e2 l2
  obtain ⟨g1,e1'⟩ := zdp e1
  cases q2 with
  | nil =>
   wp_walk using wpAny_loadPart' hl,wpAny_loadPart' hb
   rw [g1,zcD e2]
   wp_walk using wpAny_loadPart' hl,wpAny_loadPart' hb
   show R (.ok (.ret (.bool (decide (vs.toArray.size > ws.toArray.size))))) _
   rw [z1,z2,decide_eq_true (by simp)]
   exact h
  | cons q2 =>
   obtain ⟨g2,e2'⟩ := zdp e2
   wp_walk using wpAny_loadPart' hl,wpAny_loadPart' hb
   rw [g1,g2]
   refine wb (zjK _ _ _ _ _ _ prog w _ _ ?_)
   have hc : ((i : Int) + 1) = ((i + 1 : Nat) : Int) := by push_cast; rfl
   unfold ltSs at h
   rename_i y _ _ _
   by_cases hxy : x = y
   ·rw [if_pos (Eq.symm hxy)] at h
    rw [decide_eq_true hxy]
    wp_walk
    rw [hc]
    refine ⟨plainId_quiet plain_eq_loop _,codeAny_builtin entry_eq_loop ?_⟩
    rw [Around.under_plainId plain_eq_loop _]
    rw [List.length_cons,List.size_toArray] at z1 z2
    exact ih _ (i + 1) (e1' ▸ q1) (e2' ▸ q2) (z1 ▸ Nat.add_le_add_left (Nat.succ_le_succ (Nat.zero_le _)) i) (z2 ▸ Nat.add_le_add_left (Nat.succ_le_succ (Nat.zero_le _)) i) prog w A R _ ⟨hl,hb,h⟩
   ·rw [if_neg (fun e => hxy (Eq.symm e))] at h
    rw [decide_eq_false hxy]
    wp_walk using wpAny_loadPart' hl,wpAny_loadPart' hb
    rw [g1,g2]
    refine wb ?_
    exact P.gt_str (wpAny_pure h)
theorem list_lt : Meets (Builtin.«list.__lt__» ⟨[.ref l,.ref b],[]⟩) (fun A R s => s.heap.get? l = some (lobj vs.toArray n) ∧ s.heap.get? b = some (lobj ws.toArray n2) ∧ ∃ xs ys,StrVs vs xs ∧ StrVs ws ys ∧ R (.ok (.ret (.bool (ltSs xs ys)))) s) := by
 intro prog w A R s h
 obtain ⟨hp,g,d,tk,os⟩ := s; obtain ⟨hl,hb,xs,ys,q1,q2,h⟩ := h
 have f3 := AutoSeq1.sub_list_list
 wp_walk using wpAny_loadPart' hl,wpAny_loadPart' hb
 refine ⟨plainId_quiet plain_eq_loop _,codeAny_builtin entry_eq_loop ?_⟩
 rw [Around.under_plainId plain_eq_loop _]
 exact lt_loop xs ys 0 q1 q2 (Nat.zero_le _) (Nat.zero_le _) prog w A R _ ⟨hl,hb,h⟩
theorem list_gt : Meets (Builtin.«list.__gt__» ⟨[.ref l,.ref b],[]⟩) (fun A R s => s.heap.get? l = some (lobj vs.toArray n) ∧ s.heap.get? b = some (lobj ws.toArray n2) ∧ ∃ xs ys,StrVs vs xs ∧ StrVs ws ys ∧ R (.ok (.ret (.bool (ltSs ys xs)))) s) := by
 intro prog w A R s h
 obtain ⟨hp,g,d,tk,os⟩ := s; obtain ⟨hl,hb,xs,ys,q1,q2,h⟩ := h
 have f3 := AutoSeq1.sub_list_list
 wp_walk using wpAny_loadPart' hl,wpAny_loadPart' hb
 refine ⟨plainId_quiet plain_eq_loop _,codeAny_builtin entry_eq_loop ?_⟩
 rw [Around.under_plainId plain_eq_loop _]
 exact gt_loop xs ys 0 q1 q2 (Nat.zero_le _) (Nat.zero_le _) prog w A R _ ⟨hl,hb,h⟩
theorem rich_lt {prog : Program} {w : World} {A : Around} {E : VP} {s : Shared} {Q : VP} (hl : s.heap.get? l = some (lobj vs.toArray n)) (hb : s.heap.get? b = some (lobj ws.toArray n2)) {xs ys : List (List Nat)} (q1 : StrVs vs xs) (q2 : StrVs ws ys) (hu : A.units < cLine)
  (h : Q (.bool (ltSs xs ys)) s) : wpAny (model prog w) A (richCompare .Lt (.ref l) (.ref b)) Q E s :=
 richCompare_meets_room (T := "list") ⟨_,hl,rfl⟩ ⟨_,hb,rfl⟩ PySem.F.slot_list_lt PySem.F.entry_list_lt (PySem.F.args_list_lt_2 _ _) list_lt ⟨hl,hb,xs,ys,q1,q2,by simp,h⟩ hu
theorem rich_gt {prog : Program} {w : World} {A : Around} {E : VP} {s : Shared} {Q : VP} (hl : s.heap.get? l = some (lobj vs.toArray n)) (hb : s.heap.get? b = some (lobj ws.toArray n2)) {xs ys : List (List Nat)} (q1 : StrVs vs xs) (q2 : StrVs ws ys) (hu : A.units < cLine)
  (h : Q (.bool (ltSs ys xs)) s) : wpAny (model prog w) A (richCompare .Gt (.ref l) (.ref b)) Q E s :=
 richCompare_meets_room (T := "list") ⟨_,hl,rfl⟩ ⟨_,hb,rfl⟩ PySem.F.slot_list_gt PySem.F.entry_list_gt (PySem.F.args_list_gt_2 _ _) list_gt ⟨hl,hb,xs,ys,q1,q2,by simp,h⟩ hu
end
end Mine
end
section
open PySem PySem.Calls PyProof.Rows PySem.Builtin.Str
namespace Mine
theorem zg2 {T : NAd} {F : AP} {h : Heap} {l : List D} {ls : List (List Nat)} {vs : List Value} (e : toStrs l = some ls) (q : RepL T F h vs l) : StrVs vs ls := by
 have e' := zdr e
 subst e'
 clear e
 induction ls generalizing vs with
 | nil => cases q; exact .nil
 | cons x ls ih => cases q with | cons a b => cases a with | str t p z => exact .cons (ih b)
inductive LtInv : D → D → Bool → Prop
 | str (x y : List Nat) : LtInv (.str x) (.str y) (ltL x y)
 | list {la lb : List D} {x y : List (List Nat)} : toStrs la = some x → toStrs lb = some y → LtInv (.list la) (.list lb) (ltSs x y)
theorem ltD_inv {a b : D} {c : Bool} (e : ltD a b = some c) : LtInv a b c := by
 cases a <;> try (injection e; done)
 ·cases b <;> try ((first | (injection e; done) | (injection e with e; subst e)); done)
  (injection e with e; subst e); exact .str _ _
 ·cases b <;> try (injection e; done)
  rename_i la lb
  replace e : (match toStrs la,toStrs lb with | some x,some y => some (ltSs x y) | _,_ => none) = some c := e
  cases e1 : toStrs la with
  | none => rw [e1] at e; injection e
  | some x =>
  cases e2 : toStrs lb with
  | none => rw [e1,e2] at e; injection e
  | some y =>
  rw [e1,e2] at e
  (injection e with e; subst e)
  exact .list e1 e2
inductive LtVal (h0 : Heap) : Value → Value → Bool → Prop
 | str (x y : List Nat) (t t' : Tok) : LtVal h0 (.str ⟨x.toArray⟩ t) (.str ⟨y.toArray⟩ t') (ltL x y)
 | list {a b : Addr} {vs ws : List Value} {n n2 : Nat} {xs ys : List (List Nat)} : h0.get? a = some (lobj vs.toArray n) → h0.get? b = some (lobj ws.toArray n2) → StrVs vs xs → StrVs ws ys → LtVal h0 (.ref a) (.ref b) (ltSs xs ys)
inductive BestInv (better : D → D → Option Bool) : List D → R → Prop
 | list {d : D} {r : List D} {res : D} : bestGo better d r = some res → BestInv better [.list (d :: r)] (.val res)
 | tup {d : D} {r : List D} {res : D} : bestGo better d r = some res → BestInv better [.tup (d :: r)] (.val res)
theorem zkZ {better : D → D → Option Bool} {ds : List D} {r : R} (e : opBest better ds = some r) : BestInv better ds r := by
 rcases ds with _ | ⟨a,t⟩
 ·injection e
 cases a <;> try (injection e; done)
 all_goals
  rcases t with _ | ⟨_,_⟩
  ·rename_i l
   rcases l with _ | ⟨d,l⟩
   ·injection e
   obtain ⟨res,e1,e2⟩ := Option.map_eq_some_iff.mp (show (bestGo better d l).map R.val = some r from e)
   subst e2
   first | exact .list e1 | exact .tup e1
  ·rename_i l _ _
   rcases l with _ | ⟨_,_⟩ <;> injection e
section
variable {cx : XCx} {F : AP} {h0 : Heap} {prog : Program} {w : World} {A : Around} {E : VP} {s : Shared}
theorem zli {v u : Value} {a b : D} {c : Bool} (qa : Rep cx.T F h0 v a) (qb : Rep cx.T F h0 u b) (e : ltD a b = some c) : LtVal h0 v u c := by
 cases ltD_inv e with
 | str x y => cases qa with | str t p z => cases qb with | str t' p' z' => exact .str x y t t'
 | list e1 e2 => cases qa with | list f g z q => cases qb with | list f' g' z' q' => exact .list g g' (zg2 e1 q) (zg2 e2 q')
theorem zhU {v u : Value} {a b : D} {c : Bool} (qa : Rep cx.T F h0 v a) (qb : Rep cx.T F h0 u b) (hk : ∀ a o,h0.get? a = some o → s.heap.get? a = some o) (hu : A.units < cLine) (e : ltD a b = some c) {Q : VP} (h : Q (.bool c) s) :
  wpAny (model prog w) A (richCompare .Lt v u) Q E s := by
 cases zli qa qb e with
 | str => exact P.lt_str h
 | list g g' q q' => exact rich_lt (hk _ _ g) (hk _ _ g') q q' hu h
theorem zhV {v u : Value} {a b : D} {c : Bool} (qa : Rep cx.T F h0 v a) (qb : Rep cx.T F h0 u b) (hk : ∀ a o,h0.get? a = some o → s.heap.get? a = some o) (hu : A.units < cLine) (e : gtD a b = some c) {Q : VP} (h : Q (.bool c) s) :
  wpAny (model prog w) A (richCompare .Gt v u) Q E s := by
 cases zli qb qa e with
 | str => exact P.gt_str h
 | list g g' q q' => exact rich_gt (hk _ _ g') (hk _ _ g) q' q hu h
noncomputable def mm1 : {f : String → PySem.Builtin // PySem.Builtin.«min» = f "min" ∧ PySem.Builtin.«max» = f "max"} := ⟨_,rfl,rfl⟩
noncomputable def mmL : {f : String → CmpOp → PySem.Builtin // PySem.Builtin.«min.loop» = f "min" .Lt ∧ PySem.Builtin.«max.loop» = f "max" .Gt} := ⟨_,rfl,rfl⟩
set_option genInjectivity false in
structure MM (nm lp : String) (op : CmpOp) (better : D → D → Option Bool) : Prop where
 hn : (toString nm ++ toString ".loop" : String) = lp
 k : builtinKind nm = none
 p1 : plainId nm = true
 e1 : entryFor table nm = some (mm1.1 nm)
 a1 : ∀ a,argsOk nm ⟨[a],[]⟩
 p2 : plainId lp = true
 e2 : entryFor table lp = some (mmL.1 nm op)
 rich : ∀ {cx : XCx} {F : AP} {h0 : Heap} {prog : Program} {w : World} {A : Around} {E : VP} {s : Shared} {v u : Value} {a b : D} {c : Bool},Rep cx.T F h0 v a → Rep cx.T F h0 u b → (∀ a o,h0.get? a = some o → s.heap.get? a = some o) → A.units < cLine → better a b = some c → ∀ {Q : VP},Q (.bool c) s →
  wpAny (model prog w) A (richCompare op v u) Q E s
theorem mm_min : MM "min" "min.loop" .Lt ltD := ⟨by decide,PySem.F.kind_min,PySem.F.plain_min,mm1.2.1 ▸ PySem.F.entry_min,PySem.F.args_min1,PySem.F.plain_min_loop,mmL.2.1 ▸ PySem.F.entry_min_loop,zhU⟩
theorem mm_max : MM "max" "max.loop" .Gt gtD := ⟨by decide,PySem.F.kind_max,PySem.F.plain_max,mm1.2.2 ▸ PySem.F.entry_max,PySem.F.args_max1,PySem.F.plain_max_loop,mmL.2.2 ▸ PySem.F.entry_max_loop,zhV⟩
variable {nm lp : String} {op : CmpOp} {better : D → D → Option Bool}
theorem mm_loop (M : MM nm lp op better) {R : Result → Shared → Prop} {I S : Addr} {fp wr : List Addr} {P : Nat → Value → Prop} {St : Nat → Heap → Prop} {items : List D} (W : Walks prog w A.in1 I fp wr items.length P St) (hu : A.units + 1 < cLine) (hSf : S ∉ fp) (hw : ∀ b ∈ S :: wr,h0.get? b = none)
  (item : ∀ i v,P i v → ∃ d,items[i]? = some d ∧ Rep cx.T F h0 v d) {res : D} :
  ∀ (k j : Nat) (s : Shared) (vb : Value) (db : D) (c : Nat),items.length - j = k → j ≤ items.length → St j s.heap → (∀ a o,h0.get? a = some o → s.heap.get? a = some o) → Rep cx.T F h0 vb db → bestGo better db (items.drop j) = some res →
  s.heap.get? S = some { cls := .type "list",dict := none,data := .seq #[vb,vb] c,slots := #[] } →
  (∀ v h' tk,Rep cx.T F h0 v res → (∀ a o,h0.get? a = some o → h'.get? a = some o) → R (.ok (.ret v)) { s with heap := h',toks := tk }) →
  codeAny (model prog w) A (.builtin lp ⟨[.ref I,.none,.ref S],[]⟩) R s := by
 have hSw : S ∉ wr := fun h => hSf (W.sub _ h)
 have notw : ∀ a o,h0.get? a = some o → a ∉ wr := fun a o e h => by rw [hw a (List.mem_cons_of_mem _ h)] at e; injection e
 have notS : ∀ a o,h0.get? a = some o → a ≠ S := fun a o e h => by rw [h,hw S List.mem_cons_self] at e; injection e
 intro k
 induction k with
 | zero =>
  intro j s vb db c hk hj hst hkp hvb hg hS hR
  have hin : j = items.length := Nat.le_antisymm hj (Nat.le_of_sub_eq_zero hk)
  subst hin
  rw [List.drop_length] at hg
  cases hg
  refine codeAny_builtin M.e2 ?_
  rw [Around.under_plainId M.p2 _]
  show wpAny _ A.in1 (seqItems? (.ref S) >>= _) _ _ s
  refine wb (wpAny_seqItems hS rfl ?_)
  show wpAny _ A.in1 (tryCatch (pyNext (.ref I)) _ >>= _) _ _ s
  refine wb (wpAny_tryCatch (W.done s _ _ hst fun h' tk hk' => ?_))
  have hS' := hk' S _ hSw hS
  show wpAny _ A.in1 (updateSeq S (fun _ => #[]) >>= _) _ _ _
  refine wb ?_
  refine wpAny_updateSeq hS' rfl (wb (wpAny_letGo (wpAny_pure ?_)))
  exact hR vb _ tk hvb fun b o e => (Heap.get?_update_other _ _ (Ne.symm (notS b o e))).trans (hk' b o (notw b o e) (hkp b o e))
 | succ k ih =>
  intro j s vb db c hk hj hst hkp hvb hg hS hR
  have hlt : j < items.length := Nat.lt_of_sub_pos (by rw [hk]; exact Nat.succ_pos _)
  rw [List.drop_eq_getElem_cons hlt] at hg
  refine codeAny_builtin M.e2 ?_
  rw [Around.under_plainId M.p2 _]
  show wpAny _ A.in1 (seqItems? (.ref S) >>= _) _ _ s
  refine wb (wpAny_seqItems hS rfl ?_)
  show wpAny _ A.in1 (tryCatch (pyNext (.ref I)) _ >>= _) _ _ s
  refine wb (wpAny_tryCatch (W.item j s _ _ hlt hst fun v h' tk hP hst' hk' => ?_))
  have hS' := hk' S _ hSw hS
  obtain ⟨d,hd,hv⟩ := item j v hP
  rw [List.getElem?_eq_getElem hlt] at hd
  (injection hd with hd; subst hd)
  unfold bestGo at hg
  have hkp' : ∀ a o,h0.get? a = some o → h'.get? a = some o := fun b o e => hk' b o (notw b o e) (hkp b o e)
  show wpAny _ A.in1 (tryCatch (holding [v,v] (richCompare op v vb >>= _)) _ >>= _) _ _ _
  cases hb : better items[j] db with
  | none => rw [hb] at hg; injection hg
  | some b =>
  rw [hb] at hg
  refine wb (wpAny_tryCatch (wpAny_holding (wb (M.rich (s := { s with heap := h',toks := tk }) hv hvb hkp' hu hb ?_))))
  refine wb (wpAny_holding (wpAny_truthy_bool ?_))
  refine wb (wpAny_letGo (wpAny_pure ?_))
  cases b with
  | true =>
   simp only [if_true]
   refine wb ?_
   refine wpAny_updateSeq hS' rfl (wb (wpAny_letGo ?_))
   rw [M.hn]
   refine wpAny_pure ⟨plainId_quiet M.p2 _,ih (j + 1) _ v _ _ (by rw [Nat.sub_succ,hk]; rfl) hlt (W.frame _ _ _ hst' fun b hbf o e => ?_) (fun b o e => ?_) hv hg (Heap.get?_update_self _ hS' rfl)
    fun v' h'' tk'' hP' hk'' => ?_⟩
   ·exact (Heap.get?_update_other _ _ (fun h : S = b => hSf (by rw [h]; exact hbf))).trans e
   ·exact (Heap.get?_update_other _ _ (Ne.symm (notS b o e))).trans (hkp' b o e)
   ·exact hR v' h'' tk'' hP' hk''
  | false =>
   simp only [Bool.false_eq_true,if_false]
   refine wb (wpAny_letGo ?_)
   rw [M.hn]
   exact wpAny_pure ⟨plainId_quiet M.p2 _,ih (j + 1) _ vb db c (by rw [Nat.sub_succ,hk]; rfl) hlt hst' hkp' hvb hg hS' fun v' h'' tk'' hP' hk'' => hR v' h'' tk'' hP' hk''⟩
theorem zik (M : MM nm lp op better) {x : Value} {d : D} {r : List D} {res : D} {Q : VP} (hu : A.units + 2 < cLine) (hg : bestGo better d r = some res)
  (h : wpAny (model prog w) A.in1 (pyIter x) (fun it s₂ => ∃ I fp wr P St,it = .ref I ∧ Walks prog w A.in1 I fp wr (d :: r).length P St ∧ St 0 s₂.heap ∧ (∀ b ∈ fp,b < s₂.heap.objs.size) ∧ (∀ b ∈ wr,s.heap.get? b = none) ∧ (∀ a o,s.heap.get? a = some o → s₂.heap.get? a = some o) ∧
   (∀ i v,P i v → ∃ d',(d :: r)[i]? = some d' ∧ Rep cx.T F s.heap v d') ∧
   ∀ v h' tk,Rep cx.T F s.heap v res → (∀ b o,s.heap.get? b = some o → h'.get? b = some o) → Q v { s₂ with heap := h',toks := tk }) E s) :
  wpAny (model prog w) A (call (.builtin nm) [x]) Q E s := by
 refine call_function_tree M.k M.p1 M.e1 (M.a1 _) ?_
 show wpAny _ A.in1 (Builtin.Builtins.bindParams nm ["key", "default"] 0 ⟨[],[]⟩ >>= _) _ _ s
 refine wb (wpAny_of_eq (show Builtin.Builtins.bindParams nm ["key", "default"] 0 ⟨[],[]⟩ = pure [none,none] from rfl) ?_)
 refine wb (wpAny_pure ?_)
 refine wb (wpAny_mono h (fun it s₂ h₂ => ?_) fun _ _ e => e)
 obtain ⟨I,fp,wr,P,St,rfl,W,hst,hfp,hwr,hkp,item,hQ⟩ := h₂
 refine wb (wpAny_newObj_type ?_)
 have hSf : s₂.heap.objs.size ∉ fp := fun hm => Nat.lt_irrefl _ (hfp _ hm)
 have hS0 : s.heap.get? s₂.heap.objs.size = none := by
  cases e : s.heap.get? s₂.heap.objs.size with
  | none => rfl
  | some o => exact absurd (Heap.lt_size (hkp _ _ e)) (Nat.lt_irrefl _)
 rw [M.hn]
 refine wpAny_pure ⟨plainId_quiet M.p2 _, ?_⟩
 have hSw : s₂.heap.objs.size ∉ wr := fun h => hSf (W.sub _ h)
 have hst1 := W.frame 0 _ (s₂.heap.push { cls := .type "list",data := .seq #[] 0 }) hst fun b _ o e => Heap.get?_push_of_some _ e
 refine codeAny_builtin M.e2 ?_
 rw [Around.under_plainId M.p2 _]
 show wpAny _ A.in1 (seqItems? (.ref s₂.heap.objs.size) >>= _) _ _ _
 refine wb (wpAny_seqItems (Heap.get?_push_size _ rfl) rfl ?_)
 show wpAny _ A.in1 (tryCatch (pyNext (.ref I)) _ >>= _) _ _ _
 refine wb (wpAny_tryCatch (W.item 0 _ _ _ (Nat.zero_lt_succ _) hst1 fun v h' tk hP hst' hk' => ?_))
 have hS' := hk' s₂.heap.objs.size _ hSw (Heap.get?_push_size _ rfl)
 obtain ⟨d',hd',hv⟩ := item 0 v hP
 (injection hd' with hd'; subst hd')
 have notw : ∀ a o,s.heap.get? a = some o → a ∉ wr := fun a o e h => by rw [hwr a h] at e; injection e
 have notS : ∀ a o,s.heap.get? a = some o → a ≠ s₂.heap.objs.size := fun a o e h => by rw [h,hS0] at e; injection e
 show wpAny _ A.in1 (updateSeq s₂.heap.objs.size (fun _ => #[v,v]) >>= _) _ _ _
 refine wb ?_
 refine wpAny_updateSeq hS' rfl ?_
 rw [M.hn]
 refine wpAny_pure ⟨plainId_quiet M.p2 _,mm_loop M (A := A) (cx := cx) (F := F) (h0 := s.heap) W (Nat.lt_of_succ_lt hu) hSf (fun b hb => ?_) item (r.length) 1 _ v d _ rfl (Nat.succ_le_succ (Nat.zero_le _)) (W.frame _ _ _ hst' fun b hbf o e => ?_) (fun b o e => ?_) hv (show bestGo better d ((d :: r).drop 1) = some res from hg) (Heap.get?_update_self _ hS' rfl) fun v' h'' tk'' hP' hk'' => ?_⟩
 ·rcases List.mem_cons.mp hb with rfl | hb
  ·exact hS0
  ·exact hwr b hb
 ·exact (Heap.get?_update_other _ _ (fun h : s₂.heap.objs.size = b => hSf (by rw [h]; exact hbf))).trans e
 ·exact (Heap.get?_update_other _ _ (Ne.symm (notS b o e))).trans (hk' b o (notw b o e) (Heap.get?_push_of_some _ (hkp b o e)))
 ·exact hQ v' h'' tk'' hP' hk''
end
section
variable {cx : XCx} {nm lp : String} {op : CmpOp} {better : D → D → Option Bool}
theorem zf6 {x : Value} {a : Addr} {vs : List Value} {d : D} {r : List D} {res : D} (M : MM nm lp op better) {n : Nat} {Q E : VP} {s : Shared} {F : AP} {A : Around} {ok : CxOk cx} (bud : BudE n A) (w : Wd cx F s) {o o' : Obj} (g : s.heap.get? a = some o') (ql : RepL cx.T F s.heap vs (d :: r)) (e1 : bestGo better d r = some res) {St : Nat → Heap → Prop}
  (W : Walks cx.prog cx.w A.in1 s.heap.objs.size [s.heap.objs.size,a] [s.heap.objs.size] vs.toArray.size (fun i v => vs.toArray[i]? = some v) St) (st0 : St 0 (s.heap.push o))
  (it : ∀ {P : VP},P (.ref s.heap.objs.size) { s with heap := s.heap.push o } → wpAny (model cx.prog cx.w) A.in1 (pyIter x) P E s) (hQ : Post cx F s (.val res) Q) : wpAny (model cx.prog cx.w) A (call (.builtin nm) [x]) Q E s := by
 have el : (d :: r).length = vs.toArray.size := by rw [List.size_toArray]; exact ql.length.symm
 refine zik (cx := cx) (F := F) M (by have := bud.un; show A.units + 2 < 9900; omega) e1 (it ?_)
 refine ⟨s.heap.objs.size,[s.heap.objs.size,a],[s.heap.objs.size],fun i v => vs.toArray[i]? = some v,St,rfl,el ▸ W,st0, ?_, ?_,fun _ _ e => Heap.get?_push_of_some _ e,fun i v hv => ?_,fun v h' tk hv hk => ?_⟩
 ·intro b hb
  rw [Heap.size_push]
  rcases List.mem_cons.mp hb with rfl | hb
  ·exact Nat.lt_succ_self _
  ·cases List.mem_singleton.mp hb
   exact Nat.lt_succ_of_lt (Heap.lt_size g)
 ·intro b hb
  obtain rfl := List.mem_singleton.mp hb
  exact zaE _
 ·replace hv : vs.toArray[i]? = some v := hv
  rw [List.getElem?_toArray] at hv
  exact ql.getV hv
 ·exact hQ v F _ (Step.grown ok w tk hk) (.val (hv.mono (fun _ h => h) fun _ _ _ e => hk _ _ e))
theorem ziS {n : Nat} {A : Around} {F : AP} {s : Shared} {vs : List Value} {ds : List D} {r : R} (M : MM nm lp op better) (ok : CxOk cx) (bud : BudE n A) (w : Wd cx F s) (q : BRepL cx F s.heap vs ds) (he : opBest better ds = some r) : Ev cx A F s (call (.builtin nm) vs) r := by
 intro Q E hQ
 cases zkZ he with
 | @list d r' res e1 =>
  obtain ⟨x,rfl,qa⟩ := q.one
  obtain ⟨a,vs,k,rfl,nx,g,z,ql⟩ := qa.list_inv w
  exact zf6 (ok := ok) M bud w g ql e1 (Walks.list (A := A.in1) bud.hd _ a (Nat.ne_of_lt (Heap.lt_size g)) vs.toArray) ⟨⟨_,Heap.get?_push_size _ rfl,rfl,rfl⟩,zaN (Heap.get?_push_of_some _ g)⟩ (fun h => wpAny_pyIter_list (zaN g) h) hQ
 | @tup d r' res e1 =>
  obtain ⟨x,rfl,qa⟩ := q.one
  obtain ⟨a,vs,k,rfl,f,g,z,ql⟩ := qa.tup_inv
  have ht : s.heap.IsTuple a vs.toArray := ⟨_,g,rfl,k,rfl⟩
  exact zf6 (ok := ok) M bud w g ql e1 (Walks.tuple (A := A.in1) bud.hd _ a (Nat.ne_of_lt (Heap.lt_size g)) vs.toArray) ⟨⟨_,Heap.get?_push_size _ rfl,rfl,rfl⟩,ht.push _⟩ (fun h => wpAny_pyIter_tuple ht h) hQ
theorem zlb : OpOK cx .min (fun vs => call (.builtin "min") vs) := by
 intro n A F s vs ds r ok bud w q he
 exact ziS mm_min ok bud w q he
inductive MaxInv : List D → R → Prop
 | two (a b : Int) : MaxInv [.int a,.int b] (.val (.int (if b > a then b else a)))
 | best {ds : List D} {r : R} : opBest gtD ds = some r → MaxInv ds r
theorem max_inv {ds : List D} {r : R} (he : opMax ds = some r) : MaxInv ds r := by
 rcases ds with _ | ⟨a0,t0⟩
 ·injection he
 cases a0 with
 | int a =>
  rcases t0 with _ | ⟨a1,t1⟩
  ·injection he
  cases a1 with
  | int b => rcases t1 with _ | ⟨_,_⟩ <;> (first | (injection he; done) | (injection he with he; subst he)); exact .two a b
  | _ => exact .best he
 | _ => exact .best he
theorem zlc : OpOK cx .max (fun vs => call (.builtin "max") vs) := by
 intro n A F s vs ds r ok bud w q he
 cases max_inv (show opMax ds = some r from he) with
 | two a b =>
  intro Q E hQ
  obtain ⟨x,y,rfl,qa,qb⟩ := q.two
  obtain ⟨t,rfl⟩ := qa.int_inv
  obtain ⟨u,rfl⟩ := qb.int_inv
  refine max_two_ints bud.hd fun h' tk hk => hQ _ F _ (Step.grown ok w tk hk) ?_
  by_cases h : b > a
  ·rw [if_pos h,if_pos h]; exact .val (.int _ _)
  ·rw [if_neg h,if_neg h]; exact .val (.int _ _)
 | best e => exact ziS mm_max ok bud w q e
end
set_option genInjectivity false in
structure IterE (cx : XCx) (A : Around) (F₀ : AP) (s₀ : Shared) (items : List D) (e it : Addr) (F : AP) (s : Shared) (fp : List Addr) (P : Nat → Value → Prop) (St : Nat → Heap → Prop) : Prop where
 st : Step cx F₀ s₀ F s
 W : ∀ A' : Around,A'.handled = none → Draws cx.prog cx.w A' it fp items.length P St
 s0 : St 0 s.heap
 he : IsEnum s.heap e it 0 .none
 ne : e ≠ it
 nef : e ∉ fp
 newe : s₀.heap.get? e = none ∧ ¬ F e
 newi : s₀.heap.get? it = none ∧ ¬ F it
 deps : ∀ b ∈ fp,b = it ∨ F b
 item : ∀ i v,P i v → ∃ d,items[i]? = some d ∧ Rep cx.T F s.heap v d
 live : ∀ i h,St i h → ∃ o,h.get? it = some o
 lim : items.length ≤ lim
section
variable {cx : XCx} {ε : Sc}
theorem zfW : ∀ {l : List D} {j : Nat} {k : Int} {d : D},l[j]? = some d → (enumL k l)[j]? = some (.tup [.int (k + j),d])
 | [],j,k,d,h => by injection h
 | a :: l,0,k,d,h => by
  (injection h with h; subst h)
  show some (D.tup [.int k,a]) = _
  simp
 | a :: l,j + 1,k,d,h => by
  show (enumL (k + 1) l)[j]? = _
  rw [zfW (l := l) (by simpa using h),show k + 1 + (j : Int) = k + ((j + 1 : Nat) : Int) by push_cast; omega]
theorem zbO : ∀ {l : List D} {k : Int},(enumL k l).length = l.length
 | [],_ => rfl
 | a :: l,k => by show (enumL (k + 1) l).length + 1 = _; rw [zbO]; rfl
noncomputable def PairR (cx : XCx) (F : AP) (h : Heap) (v : Value) (d : D) : Prop := ∃ (a : Addr) (vs : List Value) (ds : List D),v = .ref a ∧ h.IsTuple a vs.toArray ∧ d = .tup ds ∧ RepL cx.T F h vs ds
theorem IterE.gen {A : Around} (hh : A.handled = none) {elts : List Expr} {kt : Nat} {pt : Pos} {F₀ F : AP} {s₀ s : Shared} {items : List D} {e it : Addr} {fp : List Addr} {P : Nat → Value → Prop} {St : Nat → Heap → Prop} (J : IterE cx A F₀ s₀ items e it F s fp P St) :
  IterG cx A (.Tuple elts kt pt) F₀ s₀ (enumL 0 items) e F s [e,it] (fun j h => (∃ old,IsEnum h e it (j : Int) old) ∧ St j h) (PairR cx) := by
 have mem : ∀ b,b ∈ [e,it] → b = e ∨ b = it := fun b hb => by simpa using hb
 have out : ∀ b,b ∉ [e,it] → b ≠ e ∧ b ≠ it := fun b hb => by simpa using hb
 refine ⟨J.st,⟨⟨_,J.he⟩,J.s0⟩,fun b hb => ?_,fun j h hs b hb => ?_,fun j h h' hs hk => ?_,fun j s' F' K N E hlt hst hrep hnw hQ => ?_,fun s' K N E hst hQ => ?_⟩
 ·rcases mem b hb with rfl | rfl
  ·exact J.newe
  ·exact J.newi
 ·rcases mem b hb with rfl | rfl
  ·obtain ⟨_,g⟩ := hs.1; exact ⟨_,g⟩
  ·exact J.live _ _ hs.2
 ·obtain ⟨⟨old,g⟩,hs⟩ := hs
  exact ⟨⟨old,hk e (.inl (by simp)) _ g⟩,(J.W A hh).frame _ _ _ hs fun b hb => hk b ((J.deps b hb).imp (fun q => by simp [q]) id)⟩
 ·rw [zbO] at hlt
  obtain ⟨⟨old,g⟩,hst⟩ := hst
  refine wpAny_pyNext_enum_itemD (J.W A.in1 hh) g hst hlt J.ne J.nef fun v h' tk hP hout hst' hT hsz hk => ?_
  refine wpAny_letOwnedTupleGo_enum (s := { s' with heap := h',toks := tk + 1 }) hout fun h2 hen2 hs2 => ?_
  have hk2 : ∀ b o,b ∉ [e,it] → s'.heap.get? b = some o → h2.get? b = some o := fun b o hb q => hs2.extBut b o (out b hb).1 (hk b o (out b hb).1 (out b hb).2 q)
  obtain ⟨d,hd,hr⟩ := J.item j v hP
  have hTne : s'.heap.objs.size ≠ e := fun q => by have := Heap.lt_size g; rw [q] at this; exact Nat.lt_irrefl _ this
  have hT2 : h2.get? s'.heap.objs.size = some { cls := .type "tuple",data := .seq #[.int (j : Int) tk,v] } := hs2.extBut _ _ hTne hT
  have hr2 : Rep cx.T F' h2 v d := (hrep v d hr).mono (fun _ h => h) fun a o f q => hk2 a o (fun hm => hnw a hm f) q
  have ec : (((j + 1 : Nat) : Int)) = (j : Int) + 1 := by push_cast; rfl
  refine hQ _ h2 (tk + 1) _ (zfW hd) ⟨_,[.int (j : Int) tk,v],[.int (0 + (j : Int)),d],rfl,⟨_,hT2,rfl,_,rfl⟩,rfl, ?_⟩ ⟨⟨v,ec ▸ hen2⟩,(J.W A hh).frame _ _ _ hst' fun b hb o q => hs2.extBut b o (fun q => J.nef (q ▸ hb)) q⟩ hk2
  rw [Int.zero_add]
  exact .cons (.int _ _) (.cons hr2 .nil)
 ·rw [zbO] at hst
  obtain ⟨⟨old,g⟩,hst⟩ := hst
  exact wpAny_pyNext_enum_endD (J.W A.in1 hh) g hst fun h' hk => hQ h' s'.toks fun b o hb q => hk b o (out b hb).2 q
end
section
variable {cx : XCx} {ε : Sc}
theorem zkV {A : Around} (hh : A.handled = none) {F₀ F : AP} {s₀ s : Shared} (ok : CxOk cx) (w₀ : Wd cx F₀ s₀) (st : Step cx F₀ s₀ F s) {v : Value} {d : D} (q : Rep cx.T F s.heap v d) {items : List D} (hi : enumOf d = some items)
  {Q E : VP} (hQ : ∀ e i F' s' fp P St,IterE cx A F₀ s₀ items e i F' s' fp P St → Q (.ref e) s') : wpAny (model cx.prog cx.w) A (call (.type "enumerate") [v]) (fun v s₁ => wpAny (model cx.prog cx.w) A (pyIter v) Q E s₁) E s := by
 have fr := zaE s.heap
 have fr2 : s.heap.get? (s.heap.objs.size + 1) = none := Heap.get?_none_of_le (Nat.le_succ _)
 have n1 : s₀.heap.get? s.heap.objs.size = none ∧ ¬ F s.heap.objs.size := ⟨st.fresh (st.wd.newNotX fr) fr,st.wd.newNotF fr⟩
 have n2 : s₀.heap.get? (s.heap.objs.size + 1) = none ∧ ¬ F (s.heap.objs.size + 1) := ⟨st.fresh (st.wd.newNotX fr2) fr2,st.wd.newNotF fr2⟩
 cases q with
 | @list a vs n l f g z q =>
  cases hi
  have hlt := Heap.lt_size g
  have hne : a ≠ s.heap.objs.size := Nat.ne_of_lt hlt
  have el : items.length = vs.toArray.size := by rw [List.size_toArray]; exact q.length.symm
  refine call_enumerate_list (zaN g) fun h' he hit hsz keep => ?_
  have stp := Step.grown ok st.wd s.toks keep
  refine wpAny_pyIter_enum he (hQ _ s.heap.objs.size F _ [s.heap.objs.size,a] (fun i v => vs.toArray[i]? = some v) (fun i h => h.IsListIter s.heap.objs.size a i ∧ h.IsList a vs.toArray) ?_)
  refine ⟨st.trans stp,fun A' hh => el ▸ Draws.list hh _ a hne vs.toArray,⟨hit,zaN (keep _ _ g)⟩,he,Nat.succ_ne_self _, ?_,n2,n1,fun b hb => ?_,fun i v h => ?_,fun i h hs => ?_,by rw [← q.length]; exact z⟩
  ·simp only [List.mem_cons,List.not_mem_nil,or_false,not_or]
   exact ⟨Nat.succ_ne_self _,fun e => Nat.lt_irrefl _ (Nat.lt_of_succ_lt (e.symm ▸ hlt : s.heap.objs.size + 1 < s.heap.objs.size))⟩
  ·simp only [List.mem_cons,List.not_mem_nil,or_false] at hb
   rcases hb with rfl | rfl
   ·exact .inl rfl
   ·exact .inr f
  ·replace h : vs.toArray[i]? = some v := h
   rw [List.getElem?_toArray] at h
   obtain ⟨d,e,r⟩ := q.getV h
   exact ⟨d,e,stp.rep st.wd r⟩
  ·obtain ⟨⟨o,g,_⟩,_⟩ := hs
   exact ⟨o,g⟩
 | @str l t p z =>
  (injection hi with hi; subst hi)
  have el : (l.map fun c => D.str [c]).length = (PySem.Str.mk l.toArray).cps.size := by simp
  refine call_enumerate_str fun h' he hit hsz keep => ?_
  have stp := Step.grown ok st.wd s.toks keep
  have item : ∀ (i : Nat) (v : Value),(∃ c u,(PySem.Str.mk l.toArray).cps[i]? = some c ∧ v = Value.str ⟨#[c]⟩ u) → ∃ d,(l.map fun c => D.str [c])[i]? = some d ∧ Rep cx.T F h' v d := by
   rintro i v ⟨c,u,e,rfl⟩
   rw [show (PySem.Str.mk l.toArray).cps = l.toArray from rfl,List.getElem?_toArray] at e
   refine ⟨.str [c],by rw [List.getElem?_map,e]; rfl,.str (l := [c]) u (fun c' h => ?_) (by simp [lim])⟩
   rw [List.mem_singleton.mp h]
   exact p _ (List.mem_of_getElem? e)
  have hz : (l.map fun c => D.str [c]).length ≤ lim := by simpa using z
  have nef : s.heap.objs.size + 1 ∉ [s.heap.objs.size] := fun h => Nat.succ_ne_self _ (List.mem_singleton.mp h)
  have deps : ∀ b ∈ [s.heap.objs.size],b = s.heap.objs.size ∨ F b := fun b hb => .inl (List.mem_singleton.mp hb)
  refine wpAny_pyIter_enum he ?_
  cases ha : (PySem.Str.mk l.toArray).cps.all (· < 128)
  ·have hit' : h'.IsStrIter s.heap.objs.size "str_iterator" ⟨l.toArray⟩ t 0 := by unfold strIterType at hit; rw [ha] at hit; exact hit
   exact hQ _ s.heap.objs.size F _ _ _ _ ⟨st.trans stp,fun A' hh => el ▸ Draws.strWide hh _ ⟨l.toArray⟩ t,hit',he,Nat.succ_ne_self _,nef,n2,n1,deps,item,fun i h hs => let ⟨o,g,_⟩ := hs; ⟨o,g⟩,hz⟩
  ·have hit' : h'.IsStrIter s.heap.objs.size "str_ascii_iterator" ⟨l.toArray⟩ t 0 := by unfold strIterType at hit; rw [ha] at hit; exact hit
   exact hQ _ s.heap.objs.size F _ _ _ _ ⟨st.trans stp,fun A' hh => el ▸ Draws.strAscii hh _ ⟨l.toArray⟩ t,hit',he,Nat.succ_ne_self _,nef,n2,n1,deps,item,fun i h hs => let ⟨o,g,_⟩ := hs; ⟨o,g⟩,hz⟩
 | _ => injection hi
theorem zkU {cf : CfT} {x : X} {ρ : List Slot} {its : List D} (h : evI cf (.enumI x) ρ = some its) : ∃ r d items,ev cf x ρ = some [r] ∧ r.fz = some d ∧ enumOf d = some items ∧ its = enumL 0 items := by
 unfold evI at h
 split at h
 ·rename_i l e
  cases h
  replace e := (zjH _).symm.trans e
  split at e
  ·rename_i r e1
   split at e
   ·rename_i d e2
    obtain ⟨l',e3,e4⟩ := Option.map_eq_some_iff.mp e
    cases e4
    exact ⟨r,d,l',e1,e2,e3,rfl⟩
   ·injection e
  ·injection e
 ·injection h
theorem zb1 {x y : Str} {i j : Nat} {p p' pt pe pc pos : Pos} {k : Nat} {e : Expr} {z : X} {bs : List Stmt} {b : S} (hk : ε.kinds.lookup ("enumerate" : Str) = some .globalImplicit) (hg : cx.mg ("enumerate" : Str) = none)
  (hx : ε.vars.lookup x = some i) (hy : ε.vars.lookup y = some j) (hfx : ε.kinds.lookup x ≠ some .free) (hfy : ε.kinds.lookup y ≠ some .free) (hi : Sound cx ε e z) (hst : starred e = false) (hb : SoundSs cx ε bs b)
  (hs : ∀ env x,foldedSetIterable (.Call (.Name "enumerate" pe) [e] [] pc) env x = pure x) : SoundS cx ε (.For (.Tuple [.Name x p,.Name y p'] k pt) (.Call (.Name "enumerate" pe) [e] [] pc) bs [] pos) (.forE2 i j (.enumI z) b) := by
 intro n cf A env F s ρ ad m cm H ρ' o h Q E hQ
 replace h := (zdT cf).symm.trans h
 split at h
 ·rename_i its ei
  obtain ⟨r,d,items,e1,e2,e3,rfl⟩ := zkU ei
  refine zju (TR := PairR cx) hb hs H (fun F s ρ m cm ad H' v d ρ' hv hp Q' E' hQ' => ?_) (fun Q' E' hQ' => ?_) h hQ
  ·obtain ⟨a,vs,ds,rfl,ht,rfl,q⟩ := hv
   unfold put2 at hp
   split at hp <;> (first | (injection hp; done) | (injection hp with hp; subst hp))
   rename_i q0
   (injection q0 with q0; subst q0)
   exact zfu H' ht q (is := [i,j]) rfl rfl rfl (.cons hx hfx za5 (.cons hy hfy za5 .nil)) hQ'
  rw [zaw (by intro _ _ _ e; injection e)]
  refine wb (zaL H.here hk hg (by decide) (v := .type "enumerate") (by kernel_rfl) (by decide) ?_)
  have hL : SoundL cx ε [e] (.cons z .nil) false := .cons hi hst .nil
  refine PyProof.Rows.callWith_type (zaM hL) (zaO hL H.here (zhA e1) fun vs F' s' st q => ?_)
  obtain ⟨v,rfl,q0⟩ : ∃ v,vs = [v] ∧ RepR cx F' s.heap s'.heap v r := by
   cases q with | cons a b => cases b; exact ⟨_,rfl,a⟩
  obtain ⟨F'',st',_,q'⟩ := st.fz H.ok H.wd q0 e2
  exact zkV H.bud.hd H.ok H.wd st' q' e3 fun e0 i0 F3 s3 fp P St J => hQ' e0 F3 s3 _ _ (J.gen H.bud.hd)
 ·injection h
end
section
variable {cx : XCx} {ε : Sc}
end
end Mine
end
section
open PySem PySem.Calls PyProof.Rows PySem.Builtin.Str PySem.SeqAt PySem.AutoSeq1 PySem.MeetsSeq PySem.MeetsSeq2 PySem.MeetsSeq3 PySem.SeqRoads2
namespace Mine
section
variable {cx : XCx} {ε : Sc}
end
end Mine
end
section
open PySem PySem.Calls PyProof.Rows PySem.Builtin.Str
open AutoSeq1 (wpAny_loadPart')
namespace Mine
theorem zeY : PySem.Slot "map" "__init__" "object.__init__" :=
 .of (owner := "object") (n := "__init__") (by rw [typeLookup_type,builtinLookup_eq_fast]; kernel_rfl) (by decide +kernel) (by decide +kernel) (by decide +kernel)
  (by first | exact .inl (by decide +kernel) | exact .inr (by decide +kernel)) (by rw [isSubtype_type]; kernel_rfl)
theorem zco : PySem.Slot "map" "__iter__" "map.__iter__" :=
 .of (owner := "map") (n := "__iter__") (by rw [typeLookup_type,builtinLookup_eq_fast]; kernel_rfl) (by decide +kernel) (by decide +kernel) (by decide +kernel)
  (by first | exact .inl (by decide +kernel) | exact .inr (by decide +kernel)) (by rw [isSubtype_type]; kernel_rfl)
theorem slot_map_next : PySem.Slot "map" "__next__" "map.__next__" :=
 .of (owner := "map") (n := "__next__") (by rw [typeLookup_type,builtinLookup_eq_fast]; kernel_rfl) (by decide +kernel) (by decide +kernel) (by decide +kernel)
  (by first | exact .inl (by decide +kernel) | exact .inr (by decide +kernel)) (by rw [isSubtype_type]; kernel_rfl)
theorem zb5 : entryFor table "map.__next__" = some PySem.Builtin.«map.__next__» := entryFor_of_tree (by kernel_rfl)
theorem zcC : entryFor table "map.__new__" = some PySem.Builtin.«map.__new__» := entryFor_of_tree (by kernel_rfl)
theorem zi7 : mroOf (.type "map") = pure [.type "map",.type "object"] := by rw [mroOf_type]; kernel_rfl
theorem zeh : typeLookup (.type "map") "__new__" = pure (some (.builtin "map.__new__")) := by rw [typeLookup_type,builtinLookup_eq_fast]; kernel_rfl
theorem zeM : TypeCalled "map" "map.__new__" "object.__init__" :=
 ⟨by decide +kernel,by decide +kernel,⟨_,_,zi7⟩,madeBy_type zi7 zeh (by decide +kernel),by decide +kernel,by rw [isSubtype_type]; kernel_rfl,zeY⟩
theorem zb0 (a b : Value) : checkTypeCall "map" ⟨[a,b],[]⟩ = pure () := by kernel_rfl
theorem zcw (a b : Value) : checkBuiltinCall "map.__new__" ⟨[.type "map",a,b],[]⟩ = pure () := by kernel_rfl
theorem zh0 : typeLookup (.type "map") "__len__" = pure none := by rw [typeLookup_type,builtinLookup_eq_fast]; kernel_rfl
theorem zgD : typeLookup (.type "map") "__length_hint__" = pure none := by rw [typeLookup_type,builtinLookup_eq_fast]; kernel_rfl
theorem ziv : isSubtype (.type "map") (.type "map") = pure true := by rw [isSubtype_type]; kernel_rfl
theorem zbP (a : Value) : argsOk "map.__next__" ⟨[a],[]⟩ := by unfold argsOk; kernel_rfl
theorem zd3 (a : Value) : argsOk "map.__iter__" ⟨[a],[]⟩ := by unfold argsOk; kernel_rfl
theorem zen : entryFor table "map.__iter__" = some PySem.Builtin.«dict_keyiterator.__iter__» :=
 entryFor_alias (id' := "dict_keyiterator.__iter__") (by kernel_rfl) (by first | rfl | decide +kernel | (unfold String.splitOn; simp +decide [String.splitOnAux])) (by decide +kernel) (by kernel_rfl)
noncomputable abbrev mobj (t : Addr) (f : Value) : Obj := { cls := .type "map",data := .fields #[.ref t,f] }
noncomputable abbrev mapH1 (c : String) (h : Heap) (l : Addr) : Heap := h.push { cls := .type c,data := .fields #[.ref l,.int 0 0] }
noncomputable abbrev mapH2 (c : String) (h : Heap) (l : Addr) : Heap := (mapH1 c h l).push { cls := .type "tuple",data := .seq #[.ref h.objs.size] }
noncomputable abbrev mapH3 (c : String) (h : Heap) (l : Addr) (f : Value) : Heap := (mapH2 c h l).push (mobj (mapH1 c h l).objs.size f)
theorem ze8 (l : Addr) (f : Value) (items : Array Value) (n : Nat) :
  Meets (PySem.Builtin.«map.__new__» ⟨[.type "map",f,.ref l],[]⟩) (fun _ R s => s.heap.get? l = some (lobj items n) ∧
   R (.ok (.ret (.ref (mapH2 "list_iterator" s.heap l).objs.size))) { s with heap := mapH3 "list_iterator" s.heap l f }) :=
 .of_wp fun prog w A R s h => by
  obtain ⟨hp,g,d,tk,os⟩ := s; obtain ⟨hl,h⟩ := h
  have hsub := ziv
  have hL : Heap.IsList (Shared.heap ⟨hp,g,d,tk,os⟩) l items := ⟨_,hl,rfl,n,rfl⟩
  wp_walk using wpAny_loadPart' hl,wpAny_pyIter_list hL
  exact ⟨_,rfl,h⟩
theorem zeg (l : Addr) (f : Value) (items : Array Value) (n : Nat) :
  Meets (PySem.Builtin.«map.__new__» ⟨[.type "map",f,.ref l],[]⟩) (fun _ R s => s.heap.get? l = some (tobj items n) ∧
   R (.ok (.ret (.ref (mapH2 "tuple_iterator" s.heap l).objs.size))) { s with heap := mapH3 "tuple_iterator" s.heap l f }) :=
 .of_wp fun prog w A R s h => by
  obtain ⟨hp,g,d,tk,os⟩ := s; obtain ⟨hl,h⟩ := h
  have hsub := ziv
  have hL : Heap.IsTuple (Shared.heap ⟨hp,g,d,tk,os⟩) l items := ⟨_,hl,rfl,n,rfl⟩
  wp_walk using wpAny_loadPart' hl,wpAny_pyIter_tuple hL
  exact ⟨_,rfl,h⟩
section
variable {prog : Program} {w : World} {A : Around} {E : VP} {s : Shared}
theorem zf2 {l : Addr} {f : Value} {items : Array Value} {n : Nat} {Q : VP} (hl : s.heap.get? l = some (tobj items n)) (h : Q (.ref (mapH2 "tuple_iterator" s.heap l).objs.size) { s with heap := mapH3 "tuple_iterator" s.heap l f }) :
  wpAny (model prog w) A (call (.type "map") [f,.ref l]) Q E s :=
 callType_new zeM (by decide) (zb0 _ _) (zcw _ _) (fun obj => PySem.F.args_object_init_3 obj _ _) zcC (zeg l f items n) ⟨hl,⟨_,Heap.get?_push_size _ rfl,rfl⟩,h⟩
theorem zcK {it t : Addr} {i : Nat} {items : Array Value} {x : Value} {Q : VP} (hit : s.heap.IsTupleIter it t i) (ht : s.heap.IsTuple t items) (hx : items[i]? = some x)
  (hQ : ∀ h',h'.IsTupleIter it t (i + 1) → Heap.SameBut it s.heap h' → Q x { s with heap := h' }) : wpAny (model prog w) A (Builtin.SmallTypes.nextOf (.ref it)) Q E s := by
 obtain ⟨o,ho,hc,hd⟩ := id hit
 obtain ⟨ol,hol,_,nl,hdl⟩ := ht
 unfold Builtin.SmallTypes.nextOf
 refine wb (wpAny_callSpecial?_slot (name := Str.ofString "__next__") hit.typeIs PySem.F.slot_tuple_iterator_next
  (wpAny_call_entry PySem.F.slot_tuple_iterator_next hit.typeIs PySem.F.entry_tuple_iterator_next ?_ (PySem.F.args_tuple_iterator_next_1 _)))
 show wpAny _ _ (field (.ref it) 0 >>= _) _ _ s
 refine wb (wpAny_field ho hd (x := .ref t) rfl ?_)
 show wpAny _ _ (if (Value.ref t == Value.none) = true then _ else _) _ _ s
 rw [if_neg (show ¬ ((Value.ref t == Value.none) = true) from Bool.false_ne_true)]
 show wpAny _ _ (field (.ref it) 1 >>= _) _ _ s
 refine wb (wpAny_field ho hd (x := .int i 0) rfl ?_)
 show wpAny _ _ (seqItems? (.ref t) >>= _) _ _ s
 refine wb (wpAny_seqItems hol hdl ?_)
 simp only [Int.toNat_natCast,hx]
 refine wb (wpAny_setField ho hd (by simp) (wpAny_pure ⟨x,rfl,wpAny_pure (hQ _ ?_ (Heap.SameBut.update ..))⟩))
 exact ⟨_,Heap.get?_update_self _ ho (Obj.isFreed_of_fields (Obj.data_mapFields hd _)),(Obj.cls_mapFields ..).trans hc,by
  rw [Obj.data_mapFields hd]; simp [rawInt]⟩
theorem zdc {it t : Addr} {i : Nat} {items : Array Value} {Q : VP} (hh : A.handled = none) (hit : s.heap.IsTupleIter it t i) (ht : s.heap.IsTuple t items) (hx : items[i]? = none)
  (hE : ∀ h' e,Heap.ExtBut it s.heap h' → (∃ o,h'.get? e = some o ∧ o.cls = .type "StopIteration") → E (.ref e) { s with heap := h' }) : wpAny (model prog w) A (Builtin.SmallTypes.nextOf (.ref it)) Q E s := by
 obtain ⟨o,ho,hc,hd⟩ := id hit
 obtain ⟨ol,hol,_,nl,hdl⟩ := ht
 unfold Builtin.SmallTypes.nextOf
 refine wb (wpAny_callSpecial?_slot (name := Str.ofString "__next__") hit.typeIs PySem.F.slot_tuple_iterator_next
  (wpAny_call_entry PySem.F.slot_tuple_iterator_next hit.typeIs PySem.F.entry_tuple_iterator_next ?_ (PySem.F.args_tuple_iterator_next_1 _)))
 show wpAny _ _ (field (.ref it) 0 >>= _) _ _ s
 refine wb (wpAny_field ho hd (x := .ref t) rfl ?_)
 show wpAny _ _ (if (Value.ref t == Value.none) = true then _ else _) _ _ s
 rw [if_neg (show ¬ ((Value.ref t == Value.none) = true) from Bool.false_ne_true)]
 show wpAny _ _ (field (.ref it) 1 >>= _) _ _ s
 refine wb (wpAny_field ho hd (x := .int i 0) rfl ?_)
 show wpAny _ _ (seqItems? (.ref t) >>= _) _ _ s
 refine wb (wpAny_seqItems hol hdl ?_)
 simp only [Int.toNat_natCast,hx]
 refine wb (wpAny_rule (wb (wpAny_setField ho hd (by simp) ?_)))
 show wpAny _ _ (newExc (.type "StopIteration") [] >>= _) _ _ _
 refine wb ?_
 simp only [newExc,newTuple]
 refine wb (wpAny_newObj_type ?_ (by size_fits))
 refine wb (m := firstArgMember _ _) (wpAny_of_eq (a := Value.none) (by first | rfl | (simp only [firstArgMember]; rfl)) ?_)
 refine wpAny_newObj_type ?_ (by size_fits)
 simp only [raiseNew]
 refine wb (wpAny_handled ?_)
 first | rw [show A.in1.handled = none from hh] | rw [hh]
 refine wb (wpAny_pure (wpAny_throw ?_))
 exact hE _ _ (((Heap.SameBut.update ..).extBut.push _).push _) ⟨_,Heap.get?_push_size _ rfl,rfl⟩
theorem zkX (hh : A.handled = none) (it t : Addr) (hne : t ≠ it) (items : Array Value) :
  Draws prog w A it [it,t] items.size (fun i v => items[i]? = some v) (fun i h => h.IsTupleIter it t i ∧ h.IsTuple t items) where
 live := fun _ _ st => let ⟨o,ho,_⟩ := st.1; ⟨o,ho⟩
 frame := fun _ _ _ st hk => ⟨let ⟨o,ho,r⟩ := st.1; ⟨o,hk it (by simp) o ho,r⟩,let ⟨o,ho,r⟩ := st.2; ⟨o,hk t (by simp) o ho,r⟩⟩
 item := fun i s Q E hi st hQ => by
  refine zcK st.1 st.2 (x := items[i]) (by simp [hi]) fun h' hit' hs' => ?_
  exact hQ _ h' s.toks (by simp [hi]) ⟨hit',let ⟨o,ho,r⟩ := st.2; ⟨o,(hs'.2 t hne).trans ho,r⟩⟩ hs'
 done := fun s Q E st hE => zdc hh st.1 st.2 (by simp) hE
theorem zfk {l : Addr} {f : Value} {items : Array Value} {n : Nat} {Q : VP} (hl : s.heap.get? l = some (lobj items n)) (h : Q (.ref (mapH2 "list_iterator" s.heap l).objs.size) { s with heap := mapH3 "list_iterator" s.heap l f }) :
  wpAny (model prog w) A (call (.type "map") [f,.ref l]) Q E s :=
 callType_new zeM (by decide) (zb0 _ _) (zcw _ _) (fun obj => PySem.F.args_object_init_3 obj _ _) zcC (ze8 l f items n) ⟨hl,⟨_,Heap.get?_push_size _ rfl,rfl⟩,h⟩
theorem zhX {M t : Addr} {f : Value} {Q : VP} (hm : s.heap.get? M = some (mobj t f)) (h : Q (.ref M) s) : wpAny (model prog w) A (pyIter (.ref M)) Q E s := by
 have hT : s.TypeIs (.ref M) "map" := ⟨_,hm,rfl⟩
 refine wpAny_pyIter_slot hT zco (wpAny_call_entry zco hT zen ?_ (zd3 _))
 show wpAny _ _ (ret (.ref M)) _ _ s
 exact wpAny_pure ⟨_,rfl, "map",_,hT,slot_map_next.lookup,h⟩
theorem zkD {M t I : Addr} {f : Value} {k n i : Nat} {P : Nat → Value → Prop} {St : Nat → Heap → Prop} {fp : List Addr} {Q : Option Value → Shared → Prop} (D : Draws prog w A.in1 I fp n P St) (hm : s.heap.get? M = some (mobj t f)) (ht : s.heap.get? t = some (tobj #[.ref I] k)) (hst : St i s.heap) (hi : i < n) (hMI : M ≠ I)
  (hc : ∀ x h' tk,P i x → St (i + 1) h' → Heap.SameBut I s.heap h' → wpAny (model prog w) A.in1 (call f [x]) (fun v s' => Q (some v) s') (fun _ _ => False) { s with heap := h',toks := tk }) :
  wpAny (model prog w) A (pyNext (.ref M)) Q E s := by
 have hT : s.TypeIs (.ref M) "map" := ⟨_,hm,rfl⟩
 unfold pyNext
 refine wb (wpAny_attempt (wpAny_callSpecial?_slot (name := Str.ofString "__next__") hT slot_map_next (wpAny_call_entry slot_map_next hT zb5 ?_ (zbP _))))
 show wpAny _ _ (field (.ref M) 0 >>= _) _ _ _
 refine wb (wpAny_field hm rfl (x := .ref t) rfl ?_)
 show wpAny _ _ (seqItems? (.ref t) >>= _) _ _ _
 refine wb (wpAny_seqItems ht rfl ?_)
 show wpAny _ _ (forIn #[Value.ref I] (#[] : Array Value) _ >>= _) _ _ _
 rw [← Array.forIn_toList]
 simp only [List.forIn_cons,List.forIn_nil]
 refine wb (wb (wb (wpAny_holding (D.item i _ _ _ hi hst fun x h' tk hP hst' hk => wpAny_pure ?_))))
 refine wpAny_pure ?_
 have hm' : h'.get? M = some (mobj t f) := (hk.2 M hMI).trans hm
 show wpAny _ _ (field (.ref M) 1 >>= _) _ _ { s with heap := h',toks := tk }
 refine wb (wpAny_field hm' rfl (x := f) rfl ?_)
 refine wb (wpAny_holding (wpAny_mono (hc x h' tk hP hst' hk) (fun v s' hv => ?_) fun _ _ h => h.elim))
 exact wb (wpAny_letGo (wpAny_pure ⟨v,rfl,wpAny_pure hv⟩))
theorem map_end {M t I : Addr} {f : Value} {k n : Nat} {P : Nat → Value → Prop} {St : Nat → Heap → Prop} {fp : List Addr} {Q : Option Value → Shared → Prop} (D : Draws prog w A.in1 I fp n P St) (hm : s.heap.get? M = some (mobj t f)) (ht : s.heap.get? t = some (tobj #[.ref I] k)) (hst : St n s.heap)
  (hQ : ∀ h',Heap.ExtBut I s.heap h' → Q none { s with heap := h' }) : wpAny (model prog w) A (pyNext (.ref M)) Q E s := by
 have hT : s.TypeIs (.ref M) "map" := ⟨_,hm,rfl⟩
 unfold pyNext
 refine wb (wpAny_attempt (wpAny_callSpecial?_slot (name := Str.ofString "__next__") hT slot_map_next (wpAny_call_entry slot_map_next hT zb5 ?_ (zbP _))))
 show wpAny _ _ (field (.ref M) 0 >>= _) _ _ _
 refine wb (wpAny_field hm rfl (x := .ref t) rfl ?_)
 show wpAny _ _ (seqItems? (.ref t) >>= _) _ _ _
 refine wb (wpAny_seqItems ht rfl ?_)
 show wpAny _ _ (forIn #[Value.ref I] (#[] : Array Value) _ >>= _) _ _ _
 rw [← Array.forIn_toList]
 simp only [List.forIn_cons,List.forIn_nil]
 refine wb (wb (wb (wpAny_holding (D.done _ _ _ hst fun h' e he hx => ?_))))
 obtain ⟨o,ho,hc⟩ := hx
 refine wb (wpAny_isInstance (T := "StopIteration") (b := true) ⟨o,ho,hc⟩ isSubtype_stop ?_)
 exact wpAny_pure (hQ _ he)
end
section
variable {cx : XCx} {ε : Sc}
noncomputable def DrawsOf (cx : XCx) (I a : Addr) (vs : List Value) (St : Nat → Heap → Prop) : Prop := ∀ A' : Around,A'.handled = none → Draws cx.prog cx.w A' I [I,a] vs.toArray.size (fun i v => vs.toArray[i]? = some v) St
set_option genInjectivity false in
structure MapI (cx : XCx) (F₀ : AP) (s₀ : Shared) (St : Nat → Heap → Prop) (outs : List D) (I t M S : Addr) (f : Value) (j : Nat) (acc : Array Value) (F : AP) (s : Shared) : Prop where
 st : Step cx F₀ s₀ F s
 it : St j s.heap
 hm : s.heap.get? M = some (mobj t f)
 ht : ∃ k,s.heap.get? t = some (tobj #[.ref I] k)
 hS : ∃ c,s.heap.get? S = some (lobj acc c)
 rep : RepL cx.T F s.heap acc.toList (outs.take j)
 sz : acc.size = j
 nI : ¬ F I
 nS : ¬ F S
theorem zkC (ok : CxOk cx) {i n : Nat} {cf : CfT} (calls : CallOK cx n cf) {A : Around} (bud : Bud n A.in1.in1) {F₀ : AP} {s₀ : Shared} (w₀ : Wd cx F₀ s₀) {a I t M S : Addr} {vs : List Value} {St : Nat → Heap → Prop} (Dw : DrawsOf cx I a vs St) {items outs : List D} (ho : items.map (fun d => cf i [d]) = outs.map some) (hq : RepL cx.T F₀ s₀.heap vs items)
  (hl : vs.length ≤ lim) (hMI : M ≠ I) (hSI : S ≠ I) (hSM : S ≠ M) (hSt : S ≠ t) (hSa : S ≠ a) (htI : t ≠ I) (nI : s₀.heap.get? I = none) (nS : s₀.heap.get? S = none) (xt : ¬ cx.X t) (xM : ¬ cx.X M) (xa : ¬ cx.X a) {R : Result → Shared → Prop} :
  ∀ (k j : Nat) (F : AP) (s : Shared) (acc : Array Value),vs.length - j = k → j ≤ vs.length → MapI cx F₀ s₀ St outs I t M S (.ref (cx.fa i)) j acc F s →
  (∀ F' s' acc' c',Step cx F₀ s₀ F' s' → s'.heap.get? S = some (lobj acc' c') → RepL cx.T F' s'.heap acc'.toList outs → acc'.size ≤ lim → R (.ok (.ret (.ref S))) s') →
  codeAny (model cx.prog cx.w) A (.builtin "list.extend.loop" ⟨[.ref S,.ref M,.ref S],[]⟩) R s := by
 have xI := w₀.newNotX nI
 have xS := w₀.newNotX nS
 have hvl : vs.length = items.length := hq.length
 have hol : items.length = outs.length := by have := congrArg List.length ho; rwa [List.length_map,List.length_map] at this
 intro k
 induction k with
 | zero =>
  intro j F s acc hk hj J hR
  have hin : j = vs.length := Nat.le_antisymm hj (Nat.le_of_sub_eq_zero hk)
  obtain ⟨kt,ht⟩ := J.ht
  obtain ⟨c,hS⟩ := J.hS
  have hit : St vs.toArray.size s.heap := by rw [List.size_toArray, ← hin]; exact J.it
  refine codeAny_builtin PySem.F.entry_extend_loop ?_
  rw [Around.under_plainId PySem.F.plain_extend_loop _]
  show wpAny _ A.in1 (pyNext (.ref M) >>= _) _ _ s
  refine wb (map_end (A := A.in1) (Dw A.in1.in1 bud.hd) J.hm ht hit fun h' he => ?_)
  have st1 := J.st.kept ok w₀ (wr := (· = I)) (fun b hb => by subst hb; exact ⟨nI,J.nI⟩) s.toks (fun b o hb e => he b o hb e)
  have hr : RepL cx.T F h' acc.toList (outs.take j) := J.rep.mono (fun _ h => h) fun b o f e => he b o (fun q => J.nI (q ▸ f)) e
  rw [hin,hvl,hol,List.take_length] at hr
  exact wpAny_pure (hR F _ acc c st1 (he S _ hSI hS) hr (by rw [J.sz,hin]; exact hl))
 | succ k ih =>
  intro j F s acc hk hj J hR
  have hlt : j < vs.length := Nat.lt_of_sub_pos (by rw [hk]; exact Nat.succ_pos _)
  obtain ⟨kt,ht⟩ := J.ht
  obtain ⟨c,hS⟩ := J.hS
  refine codeAny_builtin PySem.F.entry_extend_loop ?_
  rw [Around.under_plainId PySem.F.plain_extend_loop _]
  show wpAny _ A.in1 (pyNext (.ref M) >>= _) _ _ s
  refine wb (zkD (A := A.in1) (Dw A.in1.in1 bud.hd) J.hm ht J.it (by rw [List.size_toArray]; exact hlt) hMI fun x h' tk hx hit' hk' => ?_)
  replace hx : vs.toArray[j]? = some x := hx
  rw [List.getElem?_toArray] at hx
  have st1 := J.st.kept ok w₀ (wr := (· = I)) (fun b hb => by subst hb; exact ⟨nI,J.nI⟩) tk (fun b o hb e => (hk'.2 b hb).trans e)
  obtain ⟨d,hd,hr⟩ := hq.getV hx
  have hlo : j < outs.length := by rw [← hol, ← hvl]; exact hlt
  have hc : cf i [d] = some outs[j] := by
   have := congrArg (·[j]?) ho
   simp only [List.getElem?_map,hd,List.getElem?_eq_getElem hlo,Option.map_some] at this
   exact Option.some.inj this
  refine wpAny_call ((calls.call i [d] _ hc).2 A.in1.in1 F _ [x] bud st1.wd (.cons (st1.rep w₀ hr) .nil) _ fun v F2 s2 st2 rv => ?_)
  show wpAny _ A.in1 (updateSeq S (·.push v) >>= _) _ _ s2
  have hS1 : h'.get? S = some (lobj acc c) := (hk'.2 S hSI).trans hS
  have hS2 := st2.keep S _ hS1 xS
  have nS2 : ¬ F2 S := st2.notF J.nS hS1
  obtain ⟨oI,gI⟩ := (Dw A.in1.in1 bud.hd).live _ _ hit'
  have nI2 : ¬ F2 I := st2.notF J.nI gI
  have oth : ∀ b o,b ≠ S → s2.heap.get? b = some o → (s2.heap.update S (Obj.mapSeq (·.push v))).get? b = some o := fun b o hb e => (Heap.get?_update_other _ _ (Ne.symm hb)).trans e
  have st3 := (st1.trans st2).kept ok w₀ (wr := (· = S)) (fun b hb => by subst hb; exact ⟨nS,nS2⟩) s2.toks oth
  have r1 : RepL cx.T F h' acc.toList (outs.take j) := J.rep.mono (fun _ h => h) fun b o f e => (hk'.2 b (fun q => J.nI (q ▸ f))).trans e
  have r2 := (st2.repL st1.wd r1).append (.cons rv .nil)
  have r3 : RepL cx.T F2 (s2.heap.update S (Obj.mapSeq (·.push v))) (acc.push v).toList (outs.take (j + 1)) := by
   rw [Array.toList_push,List.take_add_one,List.getElem?_eq_getElem hlo]
   exact r2.mono (fun _ h => h) fun b o f e => oth b o (fun q => nS2 (q ▸ f)) e
  have zj : acc.size ≤ lim := by rw [J.sz]; exact Nat.le_trans hj hl
  refine wb (wpAny_updateSeq hS2 rfl (wpAny_pure ⟨plainId_quiet PySem.F.plain_extend_loop _,ih (j + 1) F2 _ (acc.push v) (by rw [Nat.sub_succ,hk]; rfl) hlt ⟨st3,(Dw A.in1.in1 bud.hd).frame _ _ _ hit' (List.forall_mem_cons.mpr ⟨fun o e => oth I o (Ne.symm hSI) (st2.keep I o e xI),List.forall_mem_cons.mpr ⟨fun o e => oth a o (Ne.symm hSa) (st2.keep a o e xa),fun _ h => nomatch h⟩⟩),oth M _ (Ne.symm hSM) (st2.keep M _ ((hk'.2 M hMI).trans J.hm) xM),⟨kt,oth t _ (Ne.symm hSt) (st2.keep t _ ((hk'.2 t htI).trans ht) xt)⟩,⟨_,Heap.get?_update_self _ hS2 rfl⟩,r3,by rw [Array.size_push,J.sz],nI2,nS2⟩ hR⟩) (zaC zj) (by rw [Array.size_push]; exact Nat.succ_le_succ (zaC zj)))
theorem zlo {n : Nat} {A : Around} (b : BudE n A) : Bud n A.in1.in1.in1.in1 := ⟨b.hd,b.dp,by have := b.sl; show A.units + 1 + 1 + 1 + 1 + 10 * n + 200 < 9900; omega,b.fs⟩
set_option genInjectivity false in
structure MapS (cx : XCx) (F : AP) (s : Shared) (a : Addr) (vs : List Value) (f : Value) (M : Addr) (s₁ : Shared) : Prop where
 st : Step cx F s F s₁
 ex : ∃ I t St,I < M ∧ t < M ∧ t ≠ I ∧ s.heap.get? I = none ∧ s.heap.get? t = none ∧ s.heap.get? M = none ∧ DrawsOf cx I a vs St ∧ St 0 s₁.heap ∧ s₁.heap.get? M = some (mobj t f) ∧ ∃ k,s₁.heap.get? t = some (tobj #[.ref I] k)
theorem zfI (ok : CxOk cx) {F : AP} {s : Shared} (w : Wd cx F s) {a : Addr} {vs : List Value} {o : Obj} {f : Value} (g : s.heap.get? a = some o) (c : String) {St : Nat → Heap → Prop} (Dw : DrawsOf cx s.heap.objs.size a vs St) (h0 : St 0 (mapH3 c s.heap a f)) :
  MapS cx F s a vs f (mapH2 c s.heap a).objs.size { s with heap := mapH3 c s.heap a f } := by
 refine ⟨Step.grown ok w s.toks fun _ _ e => Heap.get?_push_of_some _ (Heap.get?_push_of_some _ (Heap.get?_push_of_some _ e)),s.heap.objs.size,(mapH1 c s.heap a).objs.size,St, ?_, ?_, ?_,zaE _, ?_, ?_,Dw,h0, ?_,0, ?_⟩
 ·show s.heap.objs.size < (mapH2 c s.heap a).objs.size
  rw [Heap.size_push,Heap.size_push]; exact Nat.lt_succ_of_lt (Nat.lt_succ_self _)
 ·have e := Heap.size_push (mapH1 c s.heap a) ({ cls := .type "tuple",data := .seq #[.ref s.heap.objs.size] } : Obj)
  show (mapH1 c s.heap a).objs.size < ((mapH1 c s.heap a).push _).objs.size
  rw [e]; exact Nat.lt_succ_self _
 ·rw [Heap.size_push]; exact Nat.succ_ne_self _
 ·cases e : s.heap.get? (mapH1 c s.heap a).objs.size with
  | none => rfl
  | some o => have := Heap.lt_size e; rw [Heap.size_push] at this; exact absurd this (Nat.not_lt.mpr (Nat.le_succ _))
 ·cases e : s.heap.get? (mapH2 c s.heap a).objs.size with
  | none => rfl
  | some o => have := Heap.lt_size e; rw [Heap.size_push,Heap.size_push] at this; exact absurd this (Nat.not_lt.mpr (Nat.le_succ_of_le (Nat.le_succ _)))
 ·exact Heap.get?_push_size _ rfl
 ·exact Heap.get?_push_of_some _ (Heap.get?_push_size _ rfl)
theorem zkB (ok : CxOk cx) {A : Around} {F : AP} {s : Shared} (w : Wd cx F s) {a : Addr} {vs : List Value} {n : Nat} {f : Value} (g : s.heap.get? a = some (lobj vs.toArray n)) {Q E : VP}
  (hQ : ∀ M s₁,MapS cx F s a vs f M s₁ → Q (.ref M) s₁) : wpAny (model cx.prog cx.w) A (call (.type "map") [f,.ref a]) Q E s :=
 zfk g (hQ _ _ (zfI ok w g "list_iterator" (fun A' hh => Draws.list hh _ a (Nat.ne_of_lt (Heap.lt_size g)) vs.toArray) ⟨⟨_,Heap.get?_push_of_some _ (Heap.get?_push_of_some _ (Heap.get?_push_size _ rfl)),rfl,rfl⟩,zaN (Heap.get?_push_of_some _ (Heap.get?_push_of_some _ (Heap.get?_push_of_some _ g)))⟩))
theorem zjb (ok : CxOk cx) {A : Around} {F : AP} {s : Shared} (w : Wd cx F s) {a : Addr} {vs : List Value} {n : Nat} {f : Value} (g : s.heap.get? a = some (tobj vs.toArray n)) {Q E : VP}
  (hQ : ∀ M s₁,MapS cx F s a vs f M s₁ → Q (.ref M) s₁) : wpAny (model cx.prog cx.w) A (call (.type "map") [f,.ref a]) Q E s :=
 zf2 g (hQ _ _ (zfI ok w g "tuple_iterator" (fun A' hh => zkX hh _ a (Nat.ne_of_lt (Heap.lt_size g)) vs.toArray) ⟨⟨_,Heap.get?_push_of_some _ (Heap.get?_push_of_some _ (Heap.get?_push_size _ rfl)),rfl,rfl⟩,⟨_,Heap.get?_push_of_some _ (Heap.get?_push_of_some _ (Heap.get?_push_of_some _ g)),rfl,n,rfl⟩⟩))
theorem zgE (ok : CxOk cx) {i n : Nat} {cf : CfT} (calls : CallOK cx n cf) {A : Around} (bud : Bud n A.in1.in1) {F : AP} {s s₁ : Shared} (w : Wd cx F s) {a M : Addr} {vs : List Value} {items outs : List D} {oa : Obj} (ga : s.heap.get? a = some oa) (xa : ¬ cx.X a) (ho : items.map (fun d => cf i [d]) = outs.map some) (hq : RepL cx.T F s.heap vs items) (hl : vs.length ≤ lim)
  (J : MapS cx F s a vs (.ref (cx.fa i)) M s₁) {Q : List Value → Shared → Prop} {E : VP} (hQ : ∀ vs' F' s',Step cx F s F' s' → RepL cx.T F' s'.heap vs' outs → vs'.length ≤ lim → Q vs' s') : wpAny (model cx.prog cx.w) A (collect (.ref M)) Q E s₁ := by
 obtain ⟨I,t,St,hIM,htM,htI,nI,nt,nM,Dw,hit,hm,kt,ht⟩ := J.ex
 have hT : s₁.TypeIs (.ref M) "map" := ⟨_,hm,rfl⟩
 have xM := w.newNotX nM
 have xt := w.newNotX nt
 have hMS : M < s₁.heap.objs.size := Heap.lt_size hm
 have hSM : s₁.heap.objs.size ≠ M := Nat.ne_of_gt hMS
 have hSI : s₁.heap.objs.size ≠ I := Nat.ne_of_gt (Nat.lt_trans hIM hMS)
 have hSt : s₁.heap.objs.size ≠ t := Nat.ne_of_gt (Nat.lt_trans htM hMS)
 have hSa : s₁.heap.objs.size ≠ a := Nat.ne_of_gt (Heap.lt_size (J.st.keep a _ ga xa))
 have nS : s.heap.get? s₁.heap.objs.size = none := J.st.fresh (J.st.wd.newNotX (zaE _)) (zaE _)
 unfold collect
 refine wb (wpAny_runValue (codeAny_builtin PySem.F.entry_proto_collect ?_))
 rw [Around.under_plainId PySem.F.plain_proto_collect _]
 show wpAny _ A.in1 (newList [] >>= fun l => again (.builtin "list.__iadd__" ⟨[l,.ref M],[]⟩)) _ _ s₁
 refine wb (wpAny_newObj_type ?_)
 refine wpAny_pure ⟨plainId_quiet PySem.F.plain_list_iadd _,codeAny_builtin PySem.F.entry_list_iadd ?_⟩
 rw [Around.under_plainId PySem.F.plain_list_iadd _]
 show wpAny _ A.in1 (Builtin.List.listExtendWith (.ref s₁.heap.objs.size) (.ref M) (.ref s₁.heap.objs.size)) _ _ _
 unfold Builtin.List.listExtendWith
 have st1 := J.st.trans (Step.push ok J.st.wd ({ cls := .type "list",data := .seq ([] : List Value).toArray } : Obj) s₁.toks)
 have hm1 : (s₁.heap.push { cls := .type "list",data := .seq ([] : List Value).toArray }).get? M = some (mobj t (.ref (cx.fa i))) := Heap.get?_push_of_some _ hm
 have hT1 : Shared.TypeIs { s₁ with heap := s₁.heap.push { cls := .type "list",data := .seq ([] : List Value).toArray } } (.ref M) "map" := ⟨_,hm1,rfl⟩
 refine wb (wpAny_typeOf hT1 ?_)
 have h1 : Builtin.List.listSameRef (.ref s₁.heap.objs.size) (.ref M) = false := by simp [Builtin.List.listSameRef,hSM]
 have h2 : (Value.type "map" == Value.type "list") = false := by decide
 have h3 : (Value.type "map" == Value.type "tuple") = false := by decide
 simp only [h1,h2,h3,Bool.or_false,Bool.false_eq_true,if_false]
 refine wb (zhX hm1 ?_)
 refine wb (wpAny_holding ?_)
 unfold Builtin.List.listLengthHint
 refine wb (wpAny_specialOf hT1 zh0 ?_)
 show wpAny _ A.in1 (specialOf (Value.ref M) (Str.ofString "__length_hint__") >>= _) _ _ _
 refine wb (wpAny_specialOf hT1 zgD ?_)
 refine wpAny_pure ?_
 show wpAny _ A.in1 (rule "list.extend.makes-room" >>= fun _ => Builtin.List.listTouch (.ref s₁.heap.objs.size) >>= fun _ =>
  again (.builtin "list.extend.loop" ⟨[.ref s₁.heap.objs.size,.ref M,.ref s₁.heap.objs.size],[]⟩)) _ _ _
 refine wb (wpAny_rule ?_)
 have hS₁ : (s₁.heap.push { cls := .type "list",data := .seq ([] : List Value).toArray }).get? s₁.heap.objs.size = some { cls := .type "list",data := .seq ([] : List Value).toArray } := Heap.get?_push_size _ rfl
 refine wb ?_
 show wpAny _ A.in1 (updateSeq s₁.heap.objs.size (·.push .none) >>= fun _ => updateSeq s₁.heap.objs.size (·.pop)) _ _ _
 refine wb (wpAny_updateSeq hS₁ rfl ?_)
 have hS₂ := Heap.get?_update_self (Obj.mapSeq (·.push Value.none)) hS₁ rfl
 refine wpAny_updateSeq hS₂ rfl ?_
 have hS₃ := Heap.get?_update_self (Obj.mapSeq (·.pop)) hS₂ rfl
 have oth : ∀ b o,b ≠ s₁.heap.objs.size → (s₁.heap.push { cls := .type "list",data := .seq ([] : List Value).toArray }).get? b = some o →
   (((s₁.heap.push { cls := .type "list",data := .seq ([] : List Value).toArray }).update s₁.heap.objs.size (Obj.mapSeq (·.push Value.none))).update s₁.heap.objs.size (Obj.mapSeq (·.pop))).get? b = some o :=
  fun b o hb e => (Heap.get?_update_other _ _ (Ne.symm hb)).trans ((Heap.get?_update_other _ _ (Ne.symm hb)).trans e)
 have nFS : ¬ F s₁.heap.objs.size := J.st.wd.newNotF (zaE _)
 have st2 := st1.kept ok w (wr := (· = s₁.heap.objs.size)) (fun b hb => by subst hb; exact ⟨nS,nFS⟩) s₁.toks oth
 have up : ∀ b o,b ≠ s₁.heap.objs.size → s₁.heap.get? b = some o → _ := fun b o hb e => oth b o hb (Heap.get?_push_of_some _ e)
 refine wpAny_pure ⟨plainId_quiet PySem.F.plain_extend_loop _,zkC ok calls bud w Dw ho hq hl (Nat.ne_of_gt hIM) hSI hSM hSt hSa htI nI nS xt xM xa vs.length 0 F _ #[] rfl (Nat.zero_le _) ⟨st2,(Dw A bud.hd).frame _ _ _ hit (List.forall_mem_cons.mpr ⟨fun o e => up I o (Ne.symm hSI) e,List.forall_mem_cons.mpr ⟨fun o e => up a o (Ne.symm hSa) e,fun _ h => nomatch h⟩⟩),up M _ (Ne.symm hSM) hm,⟨kt,up t _ (Ne.symm hSt) ht⟩,⟨_,hS₃⟩,.nil,rfl,w.newNotF nI,nFS⟩ fun F' s' acc' c' st' hS' hr hz => ?_⟩
 show wpAny _ A (load s₁.heap.objs.size >>= _) _ _ s'
 refine wb (wpAny_load hS' ?_)
 exact wpAny_pure (hQ _ F' s' st' hr (by rw [Array.length_toList]; exact hz))
theorem zfs (ok : CxOk cx) {i n : Nat} {cf : CfT} (calls : CallOK cx n cf) {A : Around} (bud : Bud n A.in1.in1.in1.in1) {F : AP} {s s₁ : Shared} (w : Wd cx F s) {a M : Addr} {vs : List Value} {items outs : List D} {oa : Obj} (ga : s.heap.get? a = some oa) (xa : ¬ cx.X a) (ho : items.map (fun d => cf i [d]) = outs.map some) (hq : RepL cx.T F s.heap vs items) (hl : vs.length ≤ lim)
  (J : MapS cx F s a vs (.ref (cx.fa i)) M s₁) {Q E : VP} (hQ : Post cx F s (.val (.tup outs)) Q) : wpAny (model cx.prog cx.w) A (call (.type "tuple") [.ref M]) Q E s₁ := by
 refine callType_codes (Q₁ := fun obj s₂ => s₂.TypeIs obj "tuple" ∧ Q obj s₂) PySem.F.called_tuple (PySem.F.typeCall_tuple_1 _) PySem.F.entry_object_init ?_ fun obj s₂ h₂ => ⟨h₂.1,PySem.F.args_object_init_2 obj _,object_init_meets PySem.F.called_tuple.init.lookup PySem.F.called_tuple.made (by decide) _ _ A.in1 _ s₂ ⟨h₂.1,rfl,h₂.2⟩⟩
 refine codeAny_of_tree ?_
 show wpAny _ A.in1.in1 (do checkBuiltinCall "tuple.__new__" ⟨[.type "tuple",.ref M],[]⟩; again (.builtin "tuple.__new__" ⟨[.type "tuple",.ref M],[]⟩)) _ _ s₁
 refine wb (wpAny_of_eq (PySem.F.newCall_tuple_1 _) (wpAny_pure ⟨plainId_quiet PySem.F.plain_tuple_new _,codeAny_builtin PySem.F.entry_tuple_new ?_⟩))
 rw [Around.under_plainId PySem.F.plain_tuple_new _]
 have hsub := sub_tuple_self
 have hinit := init_tuple_lookup
 have hmh := madeHere_tuple
 have hTI : s₁.TypeIs (.ref M) "map" := by
  obtain ⟨I,t,_,_,_,_,_,_,_,_,_,hm,_⟩ := J.ex
  exact ⟨_,hm,rfl⟩
 wp_walk using wpAny_typeOf hTI,zgE ok calls bud w ga xa ho hq hl J
 intro vs' F' s' st' hr hz
 show wpAny _ _ (Builtin.Tuple.tupleExact vs'.toArray >>= fun v => ret v) _ _ _
 unfold Builtin.Tuple.tupleExact
 obtain ⟨F3,st3,r⟩ := ze0 ok st'.wd s'.toks hz hr
 refine wb (wpAny_newObj_type ?_ (by show vs'.toArray.size ≤ sizeLine; rw [List.size_toArray]; exact zaC hz))
 exact wpAny_pure ⟨⟨_,Heap.get?_push_size _ rfl,rfl⟩,hQ _ F3 _ (st'.trans st3) (.val r)⟩
theorem zcS {α : Type} : ∀ {l : List (Option α)} {o : List α},allSome l = some o → l = o.map some
 | [],o,h => by (injection h with h; subst h); rfl
 | none :: l,o,h => by injection h
 | some a :: l,o,h => by
  obtain ⟨r,h1,rfl⟩ := Option.map_eq_some_iff.mp (show (allSome l).map (a :: ·) = some o from h)
  rw [List.map_cons, ← zcS h1]
theorem zev {f : Str} {i : Nat} {p p' p'' pos' pos : Pos} {e : Expr} {x : X} (hk : ε.kinds.lookup ("tuple" : Str) = some .globalImplicit) (hg : cx.mg ("tuple" : Str) = none) (hk' : ε.kinds.lookup ("map" : Str) = some .globalImplicit) (hg' : cx.mg ("map" : Str) = none) (hkf : ε.kinds.lookup f = some .globalImplicit) (hvf : cx.mg f = some (.ref (cx.fa i))) (hd : (f == ("__debug__" : Str)) = false) (h : Sound cx ε e x) (hs : starred e = false) :
  Sound cx ε (.Call (.Name "tuple" p) [.Call (.Name "map" p') [.Name f p'',e] [] pos'] [] pos) (.mapF i x) := by
 refine Sound.ofE ?_ fun _ => rfl
 intro n cf A env F s ρ ad m cm H res he Q E hQ
 obtain ⟨r,items,outs,e1,e2,ho,rfl⟩ : ∃ r items outs,ev cf x ρ = some [r] ∧ (r.ds = .list items ∨ r.ds = .tup items) ∧ items.map (fun d => cf i [d]) = outs.map some ∧ res = .val (.tup outs) := by
  replace he := (zhx _).symm.trans he
  split at he
  ·rename_i r e1
   split at he
   ·rename_i items e2
    obtain ⟨l,e7,e8⟩ := Option.map_eq_some_iff.mp he
    (injection e8 with e8 z; injection z; subst e8)
    exact ⟨r,items,l,e1,.inl e2,zcS e7,rfl⟩
   ·rename_i items e2
    obtain ⟨l,e7,e8⟩ := Option.map_eq_some_iff.mp he
    (injection e8 with e8 z; injection z; subst e8)
    exact ⟨r,items,l,e1,.inr e2,zcS e7,rfl⟩
   ·injection he
  ·injection he
 rw [zaw (by intro _ _ _ e; injection e)]
 refine wb (zaL H hk hg (by decide) (v := .type "tuple") (by rfl) (by decide) ?_)
 rw [zaq rfl,zav]
 refine PyProof.Rows.callWith_type rfl (Calls.evalArgs_plain (Calls.spliced_cons ?_))
 rw [zaw (by intro _ _ _ e; injection e)]
 refine wb (zaL H hk' hg' (by decide) (v := .type "map") (by rfl) (by decide) ?_)
 rw [zaq rfl,zav]
 refine PyProof.Rows.callWith_type (by rw [zaq hs,zav]; rfl) (Calls.evalArgs_plain (Calls.spliced_cons ?_))
 refine zbj H hkf hvf hd ?_
 rw [zaq hs,zav]
 refine Calls.spliced_cons ?_
 refine h.ev n cf A env F s ρ ad m cm H r e1 _ _ fun v F' s' st q => ?_
 refine Calls.spliced_nil ?_
 have qb := q.brep
 rcases e2 with e2 | e2
 ·rw [e2] at qb
  obtain ⟨a,vs,k,rfl,nx,g,z,ql⟩ := qb.list_inv st.wd
  refine zkB H.ok st.wd g fun M s₁ J => Calls.spliced_nil ?_
  exact zfs H.ok H.calls (zlo H.bud) st.wd g nx ho ql z J fun v F3 s3 st3 rr => hQ v F3 s3 (st.trans st3) (rr.low st)
 ·rw [e2] at qb
  cases qb with
  | rep q =>
   cases q with
   | @tup a vs k _ f g z ql =>
    refine zjb H.ok st.wd g fun M s₁ J => Calls.spliced_nil ?_
    exact zfs H.ok H.calls (zlo H.bud) st.wd g (st.wd.nx _ f) ho ql z J fun v F3 s3 st3 rr => hQ v F3 s3 (st.trans st3) (rr.low st)
end
end Mine
end
section
open PySem PySem.Calls PyProof.Rows PySem.Builtin.Str PySem.SeqAt
namespace Mine
noncomputable def hashB (b : Bool) : Int := if b then 1 else 0
section
variable {prog : Program} {w : World} {A : Around} {E : VP} {s : Shared}
theorem zdE {b : Bool} {Q : Int → Shared → Prop} (h : Q (hashB b) { s with toks := s.toks + 1 }) : wpAny (model prog w) A (pyHash (.bool b)) Q E s := by
 have hT : s.TypeIs (.bool b) "bool" := rfl
 unfold pyHash
 have hv : [Value.bool b].any Value.onHeap = false := rfl
 refine wb ?_
 rw [cRoomFor,if_neg (by rw [hv]; exact Bool.false_ne_true)]; refine wpAny_pure ?_
 refine wb (wpAny_specialOf hT PySem.F.slot_bool_hash.lookup ?_)
 show wpAny _ _ (if (some (Value.builtin "int.__hash__") == some Value.none) = true then _ else _) Q E s
 rw [if_neg (by rw [beq_builtin_none]; exact Bool.false_ne_true)]
 refine wb (wpAny_specialOf hT PySem.F.slot_bool_hash.lookup ?_)
 show wpAny _ _ (callSpecialIfBoundUnlessNone? (.bool b) "__hash__" _ >>= _) Q E s
 refine wb (wpAny_callSpecialIfBoundUnlessNone?_slot hT PySem.F.slot_bool_hash (wpAny_call_entry PySem.F.slot_bool_hash hT entry_int_hash ?_ (args_int_hash _)))
 cases b with
 | true =>
  show wpAny _ _ (do ret (← mkInt 1)) _ _ s
  exact wpAny_ret_mkInt (wpAny_pure h)
 | false =>
  show wpAny _ _ (do ret (← mkInt 0)) _ _ s
  exact wpAny_ret_mkInt (wpAny_pure h)
end
noncomputable def sT (led b : Bool) : SetTable := (layNew (SetTable.fresh 0 0 led) #[] (hashB b) (.bool b)).2.1
noncomputable def sObj0 (led : Bool) : Obj := { cls := .type "set",dict := none,data := .set #[] 0 (.fresh 0 0 led) }
noncomputable def sObj1 (led b : Bool) : Obj := { cls := .type "set",dict := none,data := .set #[(hashB b,.bool b)] 1 (sT led b) }
theorem sT_lay (led b : Bool) : layNew (SetTable.fresh 0 0 led) #[] (hashB b) (.bool b) = (#[(hashB b,.bool b)],sT led b,false,false) := by
 cases led <;> cases b <;> kernel_rfl
theorem zb7 (led b : Bool) : (sT led b).fits 1 = true := by cases led <;> cases b <;> kernel_rfl
theorem zdj (led b : Bool) : (sT led b).plain = true := by cases led <;> cases b <;> kernel_rfl
theorem sT_full (led b : Bool) : (sT led b).tooFull = false := by cases led <;> cases b <;> kernel_rfl
theorem zk7 (led b : Bool) : (sT led b).led = led := by cases led <;> cases b <;> kernel_rfl
theorem zg6 (led b : Bool) : (sT led b).place = #[(sT led b).place.getD 0 0] := by cases led <;> cases b <;> kernel_rfl
theorem scan0 (b : Bool) : byScan (.bool b) #[] = true := by cases b <;> kernel_rfl
theorem scan1 (b : Bool) : byScan (.bool b) #[(hashB b,.bool b)] = true := by cases b <;> kernel_rfl
section
variable {prog : Program} {w : World} {A : Around} {E : VP} {s : Shared}
theorem new_set {Q : VP} (h : Q (.ref s.heap.objs.size) { s with heap := s.heap.push (sObj0 (!w.params.followText "set-order")) }) : wpAny (model prog w) A (newSet (.type "set")) Q E s := by
 unfold newSet setsByText
 refine wb (wb (wpAny_askSetting (wpAny_pure ?_)))
 dsimp only
 simp only [newObj]
 exact wb (wpAny_alloc (wpAny_pure h))
theorem zjX {a : Addr} {led b : Bool} {Q : VP} (g : s.heap.get? a = some (sObj0 led))
  (h : Q .none { s with heap := s.heap.update a (Obj.putSet #[(hashB b,.bool b)] (sT led b)),toks := s.toks + 1 }) : wpAny (model prog w) A (call (.builtin "set.add") [.ref a,.bool b]) Q E s := by
 have hT : s.TypeIs (.ref a) "set" := ⟨_,g,rfl⟩
 refine wpAny_call_entry PySem.F.slot_set_add hT PySem.F.entry_set_add ?_ (PySem.F.args_set_add_2 _ _)
 unfold Builtin.«set.add» Builtin.Frozenset.oneOther
 simp only [List.isEmpty_nil,bind_assoc]
 unfold Builtin.Frozenset.addrOf setAdd
 refine wb (wpAny_pure ?_)
 try dsimp only
 refine wb (wpAny_pure ?_)
 try dsimp only
 refine wb ?_
 refine wpAny_holding ?_
 refine wb (zdE ?_)
 unfold setAddHashed setAddHashedIn
 have g' : ({ s with toks := s.toks + 1 } : Shared).heap.get? a = some (sObj0 led) := g
 refine wpAny_holding (wb (wpAny_setState_of g' rfl rfl ?_))
 dsimp only
 generalize (99999 : Nat) = fu
 rw [scan0]
 simp only [↓reduceIte]
 unfold setAddByScan
 refine wb ?_
 refine wb (wpAny_rule ?_)
 have e1 : setScan a (.bool b) (hashB b) true #[] = pure ScanMet.absent := rfl
 rw [e1,sT_lay]
 have hp := zdj led b
 have hf := sT_full led b
 have hs : (sT led b).fits 1 = true := zb7 led b
 generalize sT led b = t1 at h hp hf hs ⊢
 simp only [pure_bind,hp,if_true]
 refine wb (show wpAny _ _ (pure ()) _ _ _ from wpAny_pure ?_)
 refine wb (show wpAny _ _ (pure true) _ _ _ from wpAny_pure ?_)
 simp only [if_true]
 refine wb (wpAny_storeSet_of g' rfl ?_ (by show 1 ≤ sizeLine; decide))
 simp only [hf,Bool.not_false,Bool.and_false,Bool.false_eq_true,if_false]
 refine wpAny_pure (wpAny_pure ?_)
 show wpAny _ _ (ret Value.none) _ _ _
 exact wpAny_pure ⟨_,rfl,h⟩
theorem zjY {a : Addr} {led b : Bool} {Q : VP} (g : s.heap.get? a = some (sObj1 led b)) (h : Q .none { s with toks := s.toks + 1 }) : wpAny (model prog w) A (call (.builtin "set.add") [.ref a,.bool b]) Q E s := by
 have hT : s.TypeIs (.ref a) "set" := ⟨_,g,rfl⟩
 refine wpAny_call_entry PySem.F.slot_set_add hT PySem.F.entry_set_add ?_ (PySem.F.args_set_add_2 _ _)
 unfold Builtin.«set.add» Builtin.Frozenset.oneOther
 simp only [List.isEmpty_nil,bind_assoc]
 unfold Builtin.Frozenset.addrOf setAdd
 refine wb (wpAny_pure ?_)
 try dsimp only
 refine wb (wpAny_pure ?_)
 try dsimp only
 refine wb ?_
 refine wpAny_holding ?_
 refine wb (zdE ?_)
 unfold setAddHashed setAddHashedIn
 have g' : ({ s with toks := s.toks + 1 } : Shared).heap.get? a = some (sObj1 led b) := g
 have hs := zb7 led b
 refine wpAny_holding (wb (wpAny_setState_of g' rfl hs ?_))
 dsimp only
 generalize (99999 : Nat) = fu
 rw [scan1]
 simp only [↓reduceIte]
 unfold setAddByScan
 refine wb ?_
 refine wb (wpAny_rule ?_)
 refine wb (m := setScan a (.bool b) (hashB b) true _) ?_
 show wpAny _ _ (setScanFrom a (.bool b) (hashB b) true [(hashB b,.bool b)] 0) _ _ _
 unfold setScanFrom
 rw [if_pos (beq_self_eq_true _)]
 unfold setEpoch
 refine wb (wb (wpAny_setState_of g' rfl hs (wpAny_pure ?_)))
 refine wb (EqAt.bool_bool b b _ _ _ _ ?_)
 rw [beq_self_eq_true]
 simp only [Bool.and_self,if_true]
 refine wpAny_pure (wpAny_pure (wpAny_pure ?_))
 show wpAny _ _ (ret Value.none) _ _ _
 exact wpAny_pure ⟨_,rfl,h⟩
end
end Mine
end
section
open PySem PySem.Calls PyProof.Rows PySem.Builtin.Str PySem.SeqAt
open AutoSeq1 (wpAny_loadPart')
namespace Mine
theorem zem : entryFor table "set.__iter__" = some PySem.Builtin.«frozenset.__iter__» :=
 entryFor_alias (id' := "frozenset.__iter__") (by kernel_rfl) rfl (by decide +kernel) (by kernel_rfl)
theorem slot_setit_next : PySem.Slot "set_iterator" "__next__" "set_iterator.__next__" :=
 .of (owner := "set_iterator") (n := "__next__") (by rw [typeLookup_type,builtinLookup_eq_fast]; kernel_rfl) (by decide +kernel) (by decide +kernel) (by decide +kernel)
  (by first | exact .inl (by decide +kernel) | exact .inr (by decide +kernel)) (by rw [isSubtype_type]; kernel_rfl)
theorem zbF : entryFor table "set_iterator.__next__" = some PySem.Builtin.«set_iterator.__next__» := entryFor_of_tree (by kernel_rfl)
theorem zby (a : Value) : argsOk "set_iterator.__next__" ⟨[a],[]⟩ := by unfold argsOk; kernel_rfl
noncomputable abbrev itobj (a : Addr) (slot i : Nat) : Obj := { cls := .type "set_iterator",data := .fields #[rawInt slot,rawInt i,.ref a,rawInt 1,rawInt 1] }
section
variable {prog : Program} {w : World} {A : Around} {E : VP} {s : Shared}
theorem zkc {a : Addr} {led b : Bool} {Q : VP} (g : s.heap.get? a = some (sObj1 led b)) (h : Q (.ref s.heap.objs.size) { s with heap := s.heap.push (itobj a 0 0) }) : wpAny (model prog w) A (pyIter (.ref a)) Q E s := by
 have hT : s.TypeIs (.ref a) "set" := ⟨_,g,rfl⟩
 have hs := zb7 led b
 have hp := zdj led b
 refine wpAny_pyIter_slot hT PySem.F.slot_set_iter (wpAny_call_entry PySem.F.slot_set_iter hT zem ?_ (PySem.F.args_set_iter_1 _))
 unfold Builtin.«frozenset.__iter__» Builtin.Frozenset.slot0 slotArgs
 simp only [List.isEmpty_nil,Bool.not_true,Bool.false_eq_true, ↓reduceIte,bind_assoc,List.length_nil,bne_self_eq_false]
 unfold Builtin.Frozenset.addrOf Builtin.Frozenset.sizeOf
 refine wb (wpAny_pure ?_)
 try dsimp only
 refine wb (wpAny_pure ?_)
 refine wb (wb (wpAny_setEntries_of g rfl hs (wpAny_pure ?_)))
 unfold setDrawn
 refine wb (wb (wpAny_setState_of g rfl hs ?_))
 dsimp only
 unfold setsByText
 refine wb (wb (wpAny_askSetting (wpAny_pure ?_)))
 refine wpAny_pure ?_
 have hdr : ∀ c : Bool, ¬ (!c && (!(sT led b).plain && decide (1 > 1))) = true := fun c => by rw [hp]; cases c <;> decide
 show wpAny _ _ (if (!w.params.followText "set-order" && (!(sT led b).plain && decide (1 > 1))) = true then _ else _) _ _ _
 rw [if_neg (hdr _)]
 refine wb (wpAny_pure ?_)
 unfold setEpoch
 refine wb (wb (wpAny_setState_of g rfl hs (wpAny_pure ?_)))
 unfold newFields
 refine wb (wpAny_newObj_type ?_)
 exact wpAny_pure ⟨_,rfl, "set_iterator",_,⟨_,Heap.get?_push_size _ rfl,rfl⟩,slot_setit_next.lookup,h⟩
theorem pick1 {α : Type} (f : Nat → Nat) (x : α) : pickOrder f #[x] = #[x] := by
 show pickOrder.go f 1 0 [x] #[] = #[x]
 unfold pickOrder.go
 rw [show [x][f 0 % [x].length]? = some x by rw [show [x].length = 1 from rfl,Nat.mod_one]; rfl]
 rfl
noncomputable def slotB (w : World) (led b : Bool) : Nat := if w.params.followText "set-order" = true then 0 else (sT led b).place.getD 0 0 + 1
theorem below0 (p : Nat) : SetTable.below #[p] 0 = 0 := rfl
theorem below1 (p : Nat) : SetTable.below #[p] (p + 1) = 1 := by
 show SetTable.below.go #[p] (p + 1) 1 0 1 = 1
 unfold SetTable.below.go
 simp [SetTable.below.go]
theorem ziE {a : Addr} {led b : Bool} {Q : Option (Value × Nat) → Shared → Prop} (hl : led = !w.params.followText "set-order") (g : s.heap.get? a = some (sObj1 led b)) (h : Q (some (.bool b,slotB w led b)) s) : wpAny (model prog w) A (setNext a 0 0 1) Q E s := by
 have hs := zb7 led b
 unfold setNext
 refine wb (wpAny_setState_of g rfl hs ?_)
 dsimp only
 unfold setsByText
 refine wb (wb (wpAny_askSetting (wpAny_pure ?_)))
 unfold slotB at h
 have hpl := zk7 led b
 have hpp := zdj led b
 cases hb : w.params.followText "set-order" with
 | true =>
  rw [hb] at h
  show wpAny _ _ (if w.params.followText "set-order" = true then _ else _) _ _ _
  rw [if_pos hb]
  rw [if_neg (by decide)]
  unfold setWalk
  refine wb (wb (wpAny_setState_of g rfl hs ?_))
  dsimp only
  unfold setsByText
  refine wb (wb (wpAny_askSetting (wpAny_pure ?_)))
  show wpAny _ _ (if w.params.followText "set-order" = true then _ else _) _ _ _
  rw [if_pos hb]
  refine wb (wpAny_askSetting (wpAny_pure ?_))
  rw [pick1]
  exact wpAny_pure h
 | false =>
  rw [hb] at h hl
  show wpAny _ _ (if w.params.followText "set-order" = true then _ else _) _ _ _
  rw [if_neg (by rw [hb]; decide)]
  have hd : ¬ (!(sT led b).plain && decide (1 > 1)) = true := by rw [hpp]; decide
  show wpAny _ _ (if (!(sT led b).plain && decide (1 > 1)) = true then _ else _) _ _ _
  rw [if_neg hd]
  have hm : ¬ (!(sT led b).led && !false) = true := by rw [hpl,hl]; decide
  refine wb (show wpAny _ _ (if (!(sT led b).led && !false) = true then _ else pure ()) _ _ _ from ?_)
  rw [if_neg hm]
  refine wpAny_pure ?_
  have hp := zg6 led b
  generalize (sT led b).place.getD 0 0 = p at hp h
  rw [hp,below0]
  exact wpAny_pure h
theorem ziD {a : Addr} {led b : Bool} {Q : Option (Value × Nat) → Shared → Prop} (hl : led = !w.params.followText "set-order") (g : s.heap.get? a = some (sObj1 led b)) (h : Q none s) : wpAny (model prog w) A (setNext a (slotB w led b) 1 1) Q E s := by
 have hs := zb7 led b
 unfold setNext
 refine wb (wpAny_setState_of g rfl hs ?_)
 dsimp only
 unfold setsByText
 refine wb (wb (wpAny_askSetting (wpAny_pure ?_)))
 unfold slotB
 have hpl := zk7 led b
 have hpp := zdj led b
 cases hb : w.params.followText "set-order" with
 | true =>
  show wpAny _ _ (if w.params.followText "set-order" = true then _ else _) _ _ _
  rw [if_pos hb]
  rw [if_neg (by decide)]
  unfold setWalk
  refine wb (wb (wpAny_setState_of g rfl hs ?_))
  dsimp only
  unfold setsByText
  refine wb (wb (wpAny_askSetting (wpAny_pure ?_)))
  show wpAny _ _ (if w.params.followText "set-order" = true then _ else _) _ _ _
  rw [if_pos hb]
  refine wb (wpAny_askSetting (wpAny_pure ?_))
  rw [pick1]
  exact wpAny_pure h
 | false =>
  rw [hb] at hl
  show wpAny _ _ (if w.params.followText "set-order" = true then _ else _) _ _ _
  rw [if_neg (by rw [hb]; decide)]
  have hd : ¬ (!(sT led b).plain && decide (1 > 1)) = true := by rw [hpp]; decide
  show wpAny _ _ (if (!(sT led b).plain && decide (1 > 1)) = true then _ else _) _ _ _
  rw [if_neg hd]
  have hm : ¬ (!(sT led b).led && !false) = true := by rw [hpl,hl]; decide
  refine wb (show wpAny _ _ (if (!(sT led b).led && !false) = true then _ else pure ()) _ _ _ from ?_)
  rw [if_neg hm]
  refine wpAny_pure ?_
  have hp := zg6 led b
  generalize (sT led b).place.getD 0 0 = p at hp ⊢
  rw [hp]
  simp only [Bool.false_eq_true,if_false,below1]
  exact wpAny_pure h
theorem zkd {a it : Addr} {led b : Bool} {Q : Option Value → Shared → Prop} (hl : led = !w.params.followText "set-order") (g : s.heap.get? a = some (sObj1 led b)) (hit : s.heap.get? it = some (itobj a 0 0))
  (h : ∀ h',Heap.SameBut it s.heap h' → h'.get? it = some (itobj a (slotB w led b) 1) → Q (some (.bool b)) { s with heap := h' }) : wpAny (model prog w) A (pyNext (.ref it)) Q E s := by
 have hT : s.TypeIs (.ref it) "set_iterator" := ⟨_,hit,rfl⟩
 have hs := zb7 led b
 unfold pyNext
 refine wb (wpAny_attempt (wpAny_callSpecial?_slot (name := Str.ofString "__next__") hT slot_setit_next (wpAny_call_entry slot_setit_next hT zbF ?_ (zby _))))
 show wpAny _ _ (fieldsOf (.ref it) >>= _) _ _ _
 refine wb (wpAny_fieldsOf hit rfl ?_)
 show wpAny _ _ (setEntries a >>= _) _ _ _
 refine wb (wpAny_setEntries_of g rfl hs ?_)
 show wpAny _ _ (setNext a 0 0 1 >>= _) _ _ _
 refine wb (ziE hl g ?_)
 show wpAny _ _ (setField (.ref it) 0 (rawInt (slotB w led b)) >>= _) _ _ _
 refine wb (wpAny_setField_rec hit (by simp) fun h₁ hit₁ hs₁ => ?_)
 replace hs₁ : Heap.SameBut it s.heap h₁ := hs₁
 replace hit₁ : h₁.get? it = some (itobj a (slotB w led b) 0) := hit₁
 show wpAny _ _ (setField (.ref it) 1 (rawInt 1) >>= _) _ _ { s with heap := h₁ }
 refine wb (wpAny_setField_rec hit₁ (by simp) fun h₂ hit₂ hs₂ => ?_)
 replace hs₂ : Heap.SameBut it h₁ h₂ := hs₂
 exact wpAny_pure ⟨_,rfl,wpAny_pure (h h₂ (hs₁.trans hs₂) hit₂)⟩
theorem set_end {a it : Addr} {led b : Bool} {Q : Option Value → Shared → Prop} (hh : A.handled = none) (hl : led = !w.params.followText "set-order") (g : s.heap.get? a = some (sObj1 led b)) (hit : s.heap.get? it = some (itobj a (slotB w led b) 1))
  (h : ∀ h',Heap.ExtBut it s.heap h' → Q none { s with heap := h' }) : wpAny (model prog w) A (pyNext (.ref it)) Q E s := by
 have hT : s.TypeIs (.ref it) "set_iterator" := ⟨_,hit,rfl⟩
 have hs := zb7 led b
 unfold pyNext
 refine wb (wpAny_attempt (wpAny_callSpecial?_slot (name := Str.ofString "__next__") hT slot_setit_next (wpAny_call_entry slot_setit_next hT zbF ?_ (zby _))))
 show wpAny _ _ (fieldsOf (.ref it) >>= _) _ _ _
 refine wb (wpAny_fieldsOf hit rfl ?_)
 show wpAny _ _ (setEntries a >>= _) _ _ _
 refine wb (wpAny_setEntries_of g rfl hs ?_)
 show wpAny _ _ (setNext a (slotB w led b) 1 1 >>= _) _ _ _
 refine wb (ziD hl g ?_)
 show wpAny _ _ (setField (.ref it) 2 .none >>= _) _ _ _
 refine wb (wpAny_setField_rec hit (by simp) fun h₁ hit₁ hs₁ => ?_)
 show wpAny _ _ (newExc (.type "StopIteration") [] >>= _) _ _ _
 refine wb ?_
 simp only [newExc,newTuple]
 refine wb (wpAny_newObj_type ?_ (by size_fits))
 refine wb (m := firstArgMember _ _) (wpAny_of_eq (a := Value.none) (by first | rfl | (simp only [firstArgMember]; rfl)) ?_)
 refine wpAny_newObj_type ?_ (by size_fits)
 simp only [raiseNew]
 refine wb (wpAny_handled ?_)
 first | rw [show A.in1.handled = none from hh] | rw [hh]
 refine wb (wpAny_pure (wpAny_throw ?_))
 refine wb (wpAny_isInstance (T := "StopIteration") (b := true) ⟨_,Heap.get?_push_size _ rfl,rfl⟩ isSubtype_stop ?_)
 exact wpAny_pure (h _ ((hs₁.extBut.push _).push _))
end
end Mine
end
section
open PySem PySem.Calls PyProof.Rows PySem.Builtin.Str
namespace Mine
theorem zf0 (elt target iter : Expr) (ifs : List Expr) (scope : Scope) (pos : Pos) (it acc : Value) (env : Env) :
  compTurn (.SetComp elt [⟨target,iter,ifs,0⟩] scope pos) 0 it acc env = (do
   standAt iter.pos
   match ← pyNext it with
   | none => pure (.done .next)
   | some v =>
    letOwnedTupleGo target it v
    assign target env v
    let mut ok := true
    for c in ifs do
     if ok then ok ← isTrue c env (eval c env)
    if ok then
     (do let v ← eval elt env; standAt elt.pos; let _ ← call (.builtin "set.add") [acc,v])
    again (.compLoop (.SetComp elt [⟨target,iter,ifs,0⟩] scope pos) 0 it acc env)) := by rfl
theorem zgp {prog : Program} {w : World} {A : Around} {R : Result → Shared → Prop} {s : Shared} {elt target iter : Expr} {ifs : List Expr} {scope : Scope} {pos : Pos} {it acc : Value} {env : Env} (I : Nat → Shared → Prop)
  (turn : ∀ n s,I n s → wpAny (model prog w) A (pyNext it) (fun r s₁ => match r with
   | none => R (.ok .next) s₁
   | some v => wpAny (model prog w) A (letOwnedTupleGo target it v) (fun _ s₁' => wpAny (model prog w) A (assign target env v) (fun _ s₂ =>
     wpAny (model prog w) A (forIn ifs true fun c r => if r = true then do let ok ← isTrue c env (eval c env); pure (ForInStep.yield ok) else pure (ForInStep.yield r)) (fun ok s₃ =>
      if ok = true then wpAny (model prog w) A (eval elt env) (fun x s₄ =>
       wpAny (model prog w) A (call (.builtin "set.add") [acc,x]) (fun _ s₅ => ∃ m,m < n ∧ I m s₅) (notedBy (model prog w) A env fun e s' => R (.error e) s') s₄) (notedBy (model prog w) A env fun e s' => R (.error e) s') s₃
      else ∃ m,m < n ∧ I m s₃) (notedBy (model prog w) A env fun e s' => R (.error e) s') s₂) (notedBy (model prog w) A env fun e s' => R (.error e) s') s₁') (notedBy (model prog w) A env fun e s' => R (.error e) s') s₁) (notedBy (model prog w) A env fun e s' => R (.error e) s') s)
  (n : Nat) (h : I n s) :
  codeAny (model prog w) A (.compLoop (.SetComp elt [⟨target,iter,ifs,0⟩] scope pos) 0 it acc env) R s := by
 refine codeAny_loop rfl I (fun n s hI => ?_) n h
 show wpAny _ A ((compTurn (.SetComp elt [⟨target,iter,ifs,0⟩] scope pos) 0 it acc env).onRaise (fun x => do noteFrame x env; theTreesLotGoes x)) _ _ s
 refine wpAny_noted ?_
 rw [zf0]
 refine wb (wpAny_standAt (wb (wpAny_mono (turn n s hI) (fun r s₁ h₁ => ?_) fun _ _ h' => h')))
 cases r with
 | none => exact wpAny_pure h₁
 | some v =>
  refine wb (wpAny_mono h₁ (fun _ s₁' h₁' => ?_) fun _ _ h' => h')
  refine wb (wpAny_mono h₁' (fun _ s₂ h₂ => wb (wpAny_mono h₂ (fun ok s₃ h₃ => ?_) fun _ _ h' => h')) fun _ _ h' => h')
  cases ok with
  | false => exact wpAny_pure ⟨rfl,h₃⟩
  | true =>
   exact wb (wb (wpAny_mono h₃ (fun x s₄ h₄ => wb (wpAny_standAt (wb (wpAny_mono h₄ (fun _ s₅ h₅ => wpAny_pure (wpAny_pure ⟨rfl,h₅⟩)) fun _ _ h' => h')))) fun _ _ h' => h'))
section
variable {prog : Program} {w : World} {A : Around} {R : Result → Shared → Prop} {E : VP} {s : Shared}
theorem zke {elt target iter : Expr} {ifs : List Expr} {rest : List Comprehension} {scope : Scope} {pos : Pos} {it acc : Value} {env : Env}
  (h0 : codeAny (model prog w) A (.compLoop (.SetComp elt (⟨target,iter,ifs,0⟩ :: rest) scope pos) 0 it acc env) R s)
  (h : wpAny (model prog w) A (pyIter it) (fun it' s' => codeAny (model prog w) A (.compLoop (.SetComp elt (⟨target,iter,ifs,0⟩ :: rest) scope pos) 0 it' acc env) R s')
   (notedBy (model prog w) A env fun x s' => R (.error x) s') s) :
  codeAny (model prog w) A (.compStart (.SetComp elt (⟨target,iter,ifs,0⟩ :: rest) scope pos) 0 it acc env) R s := by
 refine codeAny_of_tree ?_
 show wpAny _ _ ((compStart (.SetComp elt (⟨target,iter,ifs,0⟩ :: rest) scope pos) 0 it acc env).onRaise (fun x => do noteFrame x env; standAt theWindowsPlace)) _ _ s
 refine wpAny_notedAt ?_
 unfold compStart
 show wpAny _ _ (ask >>= _) _ _ s
 refine wb (wpAny_askSetting (wpAny_ite ?_))
 split
 ·first
   | exact wb (wpAny_pure (wpAny_pure (And.intro rfl h0)))
   | exact wpAny_pure (And.intro rfl h0)
 ·first
   | exact wb (wpAny_rule (wb (wpAny_standAt (wb (wpAny_mono h (fun it' s' h' => wpAny_pure (And.intro rfl h')) fun _ _ x => x)))))
   | (refine wb (wpAny_rule ?_); show wpAny _ _ (standAt iter.pos >>= _) _ _ s; exact wb (wpAny_standAt (wb (wpAny_mono h (fun it' s' h' => wpAny_pure (And.intro rfl h')) fun _ _ x => x))))
theorem zgc {a : Addr} {led b : Bool} {Q : List Value → Shared → Prop} (hh : A.handled = none) (hl : led = !w.params.followText "set-order") (g : s.heap.get? a = some (sObj1 led b))
  (h : ∀ h',(∀ c o,s.heap.get? c = some o → h'.get? c = some o) → Q [.bool b] { s with heap := h' }) : wpAny (model prog w) A (unpackItems (.ref a) 1 none) Q E s := by
 have hT : s.TypeIs (.ref a) "set" := ⟨_,g,rfl⟩
 have hne : a ≠ s.heap.objs.size := Nat.ne_of_lt (Heap.lt_size g)
 unfold unpackItems
 refine wb ?_
 unfold notIterableAtAll
 refine wb (wpAny_specialOf hT PySem.F.slot_set_iter.lookup ?_)
 refine wpAny_pure ?_
 simp only [Bool.false_eq_true,if_false]
 refine wb (wpAny_holding (zkc g ?_))
 have g1 : (s.heap.push (itobj a 0 0)).get? a = some (sObj1 led b) := Heap.get?_push_of_some _ g
 have i1 : (s.heap.push (itobj a 0 0)).get? s.heap.objs.size = some (itobj a 0 0) := Heap.get?_push_size _ rfl
 refine wb (wpAny_holding ?_)
 unfold draw
 refine wb (zkd (s := { s with heap := s.heap.push (itobj a 0 0) }) hl g1 i1 fun h₁ hs₁ i2 => ?_)
 refine wb (wpAny_holding ?_)
 unfold draw
 refine wpAny_pure (wpAny_pure ?_)
 rw [if_neg (show ¬ ([Value.bool b].length < 1) from Nat.lt_irrefl 1)]
 refine wb (wpAny_holding (set_end (s := { s with heap := h₁ }) hh hl ((hs₁.2 a hne).trans g1) i2 fun h₂ he => ?_))
 simp only [Option.isSome_none,Bool.false_eq_true,if_false]
 refine wpAny_pure (h h₂ fun c o e => ?_)
 have hc : c ≠ s.heap.objs.size := Nat.ne_of_lt (Heap.lt_size e)
 exact he c o hc ((hs₁.2 c hc).trans (Heap.get?_push_of_some _ e))
end
section
variable {cx : XCx} {ε : Sc}
noncomputable def ledOf (w : World) : Bool := !w.params.followText "set-order"
inductive StP (w : World) (o : Obj) : List Value → List D → Prop
 | nil : o = sObj0 (ledOf w) → StP w o [] []
 | one {ys : List Value} {ds : List D} (b : Bool) : (∀ d ∈ ds,d = .bool b) → ds ≠ [] → o = sObj1 (ledOf w) b → StP w o ys ds
theorem accSet {elt tg iter : Expr} {ifs : List Expr} {scope : Scope} {pos : Pos} : AccK cx (.SetComp elt [⟨tg,iter,ifs,0⟩] scope pos) elt tg iter ifs (newSet (.type "set")) "set.add" (StP cx.w) (fun l => ∃ b, ∀ d ∈ l,d = D.bool b) where
 cl := rfl
 start := fun h0 h => zke h0 h
 loop := fun I turn n h => zgp I turn n h
 new := fun h => new_set (h _ (.nil rfl) rfl)
 pre := fun ⟨b,h⟩ => ⟨b,fun d hd => h d (List.mem_append_left _ hd)⟩
 add := fun {A Q E s F Da o ys ds v y} g hP z r hg h => by
  obtain ⟨b,hb⟩ := hg
  have hy : y = .bool b := hb y (List.mem_append_right _ (List.mem_singleton.mpr rfl))
  subst hy
  cases r with
  | bool =>
   cases hP with
   | nil e =>
    subst e
    refine zjX g (h _ _ (sObj1 (ledOf cx.w) b) (Heap.SameBut.update ..) (Heap.get?_update_self _ g rfl) (.one b hb (by simp) rfl))
   | one c hc h0 e =>
    subst e
    have ebc : b = c := by
     cases ds with
     | nil => exact absurd rfl h0
     | cons d ds =>
      have h1 := hb d (List.mem_append_left _ List.mem_cons_self)
      have h2 := hc d List.mem_cons_self
      rw [h1] at h2
      exact D.bool.inj h2
    subst ebc
    exact zjY g (h s.heap (s.toks + 1) _ (Heap.SameBut.refl ..) g (.one b hb (by simp) rfl))
theorem ev_setI {cf : CfT} {i : Nat} {it e : X} {ρ : List Slot} {r : R} (h : ev cf (.setI i it e) ρ = some [r]) :
  ∃ items l b,evI cf it ρ = some items ∧ compGo (turnC cf [i] one1 (.const (.bool true)) e ρ) items = some l ∧ l ≠ [] ∧ (∀ d ∈ l,d = D.bool b) ∧ r = .val (.bool b) := by
 replace h := (zhv _).symm.trans h
 split at h
 ·rename_i items e1
  split at h
  ·rename_i b l e2
   split at h
   ·rename_i hall
    (injection h with h; injection h with h z; clear z; subst h)
    refine ⟨items,_,b,by unfold evI; rw [e1],e2,by simp,fun d hd => ?_,rfl⟩
    rcases List.mem_cons.mp hd with rfl | hd
    ·rfl
    ·have := List.all_eq_true.mp hall d hd
     cases d <;> first | (injection this; done) | exact congrArg D.bool (eq_of_beq this)
   ·injection h
  ·injection h
 ·injection h
theorem ziC {elt iter tg : Expr} {ifs : List Expr} {scope : Scope} {pos : Pos} {xs : List Str} {is : List Nat} {bind : D → Option (List D)} {c e it : X} (K : CompX cx ε elt iter tg ifs scope xs is bind it c e)
  {n cf A env F s ρ ad m cm} (H : Here cx ε n cf A env F s ρ ad m cm) {items l : List D} {b : Bool} (hit : evI cf it ρ = some items) (hl : compGo (turnC cf is bind c e ρ) items = some l) (h0 : l ≠ []) (hb : ∀ d ∈ l,d = D.bool b)
  {Q E : VP} (hQ : ∀ Da F' s',Step cx F s F' s' → s'.heap.get? Da = some (sObj1 (ledOf cx.w) b) → Q (.ref Da) s') :
  wpAny (model cx.prog cx.w) A (eval (.SetComp elt [⟨tg,iter,ifs,0⟩] scope pos) env) Q E s := by
 rw [PySem.arm_eval_SetComp]
 refine zeJ (use := none) accSet K.hT K.hb K.hi K.ok K.hc K.he K.hs H hit hl ⟨b,hb⟩ fun Da C F' s' m' ob ys st f0 nf nx g hP q z hn frC nC hne => ?_
 refine ⟨m',hn,fun h'' sb => ?_⟩
 have st2 : Step cx F s F' { s' with heap := h'' } := st.kept H.ok H.wd (wr := (· = C)) (fun b hb => by subst hb; exact ⟨frC,nC⟩) s'.toks fun a o h e => (sb.2 a h).trans e
 refine hQ Da F' _ st2 ((sb.2 Da hne.symm).trans ?_)
 cases hP with
 | nil => exact absurd rfl h0
 | one c hc _ e =>
  have ebc : b = c := by
   cases l with
   | nil => exact absurd rfl h0
   | cons d l =>
    have h1 := hb d List.mem_cons_self
    have h2 := hc d List.mem_cons_self
    rw [h1] at h2
    exact D.bool.inj h2
  rw [ebc, ← e]; exact g
theorem zc9 {x : Str} {j : Nat} {p pos' pos cpos : Pos} {k : Nat} {elt iter tg : Expr} {ifs : List Expr} {scope : Scope} {y : Str} {i : Nat} {e it : X} (hx : ε.vars.lookup x = some j) (hfx : ε.kinds.lookup x ≠ some .free) (K : CompX cx ε elt iter tg ifs scope [y] [i] one1 it (.const (.bool true)) e)
  (hw : ∀ env,swappedStores [.Tuple [.Name x p] k pos'] (.SetComp elt [⟨tg,iter,ifs,0⟩] scope cpos) env = pure none) :
  SoundS cx ε (.Assign [.Tuple [.Name x p] k pos'] (.SetComp elt [⟨tg,iter,ifs,0⟩] scope cpos) pos) (.assign j (.setI i it e)) := by
 intro n cf A env F s ρ ad m cm H ρ' o he Q E hQ
 replace he := (zbX cf).symm.trans he
 obtain ⟨d,e0,e00⟩ := Option.map_eq_some_iff.mp he
 (injection e00 with e00 z; subst e00 z)
 obtain ⟨r,e1,er⟩ : ∃ r,ev cf (.setI i it e) ρ = some [r] ∧ r.fz = some d := by
  unfold ev1 at e0
  split at e0
  ·rename_i r e1; exact ⟨r,e1,e0⟩
  ·injection e0
 obtain ⟨items,l,b,a1,a2,a3,a4,rfl⟩ := ev_setI e1
 (injection er with er; subst er)
 refine wpAny_Assign_stores (ziC K H.here a1 a2 a3 a4 fun Da F1 s1 st g => ?_) rfl (hw env)
 show wpAny _ _ (assign (.Tuple [.Name x p] k pos') env (.ref Da)) _ _ _
 rw [arm_assign_Tuple]
 refine wb (wpAny_standAt ?_)
 unfold unpack
 refine wb (wpAny_holding (zgc H.bud.hd rfl g fun h' hk => ?_))
 have st1 := st.trans (Step.grown H.ok st.wd s1.toks hk)
 show wpAny _ _ (assignInOrder [fun v => assign (.Name x p) env v] [Value.bool b]) _ _ _
 unfold assignInOrder
 refine wb (wpAny_holding (wpAny_assign_Name ?_))
 refine zbQ H st1 hx hfx (sl := .val (.bool b)) (ad' := ad) (fun _ _ => rfl) (.inl rfl) (fun h' _ => .val (.bool b)) (fun _ e => nomatch e) fun s'' m'' cm'' _ x f => ?_
 exact wpAny_pure (hQ .next F1 s'' ad m'' cm'' x f .next)
end
theorem turn_in (elt t1 i1 t2 i2 : Expr) (scope : Scope) (pos : Pos) (it acc : Value) (env : Env) :
  compTurn (.ListComp elt [⟨t1,i1,[],0⟩,⟨t2,i2,[],0⟩] scope pos) 1 it acc env = (do
   standAt i2.pos
   match ← pyNext it with
   | none => pure (.done .next)
   | some v =>
    letOwnedTupleGo t2 it v
    assign t2 env v
    (do let _ ← call (.builtin "list.append") [acc, ← eval elt env])
    again (.compLoop (.ListComp elt [⟨t1,i1,[],0⟩,⟨t2,i2,[],0⟩] scope pos) 1 it acc env)) := by rfl
theorem zj4 (elt t1 i1 t2 i2 : Expr) (scope : Scope) (pos : Pos) (it acc : Value) (env : Env) :
  compTurn (.ListComp elt [⟨t1,i1,[],0⟩,⟨t2,i2,[],0⟩] scope pos) 0 it acc env = (do
   standAt i1.pos
   match ← pyNext it with
   | none => pure (.done .next)
   | some v =>
    letOwnedTupleGo t1 it v
    assign t1 env v
    let x ← eval i2 env
    standAt i2.pos
    let x ← foldedSetIterable i2 env x
    let _ ← runOwn (.compStart (.ListComp elt [⟨t1,i1,[],0⟩,⟨t2,i2,[],0⟩] scope pos) 1 (← holding [x] (pyIter x)) acc env) env
    again (.compLoop (.ListComp elt [⟨t1,i1,[],0⟩,⟨t2,i2,[],0⟩] scope pos) 0 it acc env)) := by rfl
section
variable {prog : Program} {w : World} {A : Around} {R : Result → Shared → Prop} {s : Shared} {elt t1 i1 t2 i2 : Expr} {scope : Scope} {pos : Pos} {it acc : Value} {env : Env}
theorem loop_in (I : Nat → Shared → Prop)
  (turn : ∀ n s,I n s → wpAny (model prog w) A (pyNext it) (fun r s₁ => match r with
   | none => R (.ok .next) s₁
   | some v => wpAny (model prog w) A (letOwnedTupleGo t2 it v) (fun _ s₁' => wpAny (model prog w) A (assign t2 env v) (fun _ s₂ =>
     wpAny (model prog w) A (eval elt env) (fun x s₄ =>
       wpAny (model prog w) A (call (.builtin "list.append") [acc,x]) (fun _ s₅ => ∃ m,m < n ∧ I m s₅) (notedBy (model prog w) A env fun e s' => R (.error e) s') s₄) (notedBy (model prog w) A env fun e s' => R (.error e) s') s₂) (notedBy (model prog w) A env fun e s' => R (.error e) s') s₁') (notedBy (model prog w) A env fun e s' => R (.error e) s') s₁) (notedBy (model prog w) A env fun e s' => R (.error e) s') s)
  (n : Nat) (h : I n s) :
  codeAny (model prog w) A (.compLoop (.ListComp elt [⟨t1,i1,[],0⟩,⟨t2,i2,[],0⟩] scope pos) 1 it acc env) R s := by
 refine codeAny_loop rfl I (fun n s hI => ?_) n h
 show wpAny _ A ((compTurn (.ListComp elt [⟨t1,i1,[],0⟩,⟨t2,i2,[],0⟩] scope pos) 1 it acc env).onRaise (fun x => do noteFrame x env; theTreesLotGoes x)) _ _ s
 refine wpAny_noted ?_
 rw [turn_in]
 refine wb (wpAny_standAt (wb (wpAny_mono (turn n s hI) (fun r s₁ h₁ => ?_) fun _ _ h' => h')))
 cases r with
 | none => exact wpAny_pure h₁
 | some v =>
  exact wb (wpAny_mono h₁ (fun _ s₁' h₁' => wb (wpAny_mono h₁' (fun _ s₂ h₂ => wb (wb (wpAny_mono h₂ (fun x s₄ h₄ => wb (wpAny_mono h₄ (fun _ s₅ h₅ => wpAny_pure (wpAny_pure ⟨rfl,h₅⟩)) fun _ _ h' => h')) fun _ _ h' => h'))) fun _ _ h' => h')) fun _ _ h' => h')
theorem zkH (hs : ∀ env x,foldedSetIterable i2 env x = pure x) (I : Nat → Shared → Prop)
  (turn : ∀ n s,I n s → wpAny (model prog w) A (pyNext it) (fun r s₁ => match r with
   | none => R (.ok .next) s₁
   | some v => wpAny (model prog w) A (letOwnedTupleGo t1 it v) (fun _ s₁' => wpAny (model prog w) A (assign t1 env v) (fun _ s₂ =>
     wpAny (model prog w) A (eval i2 env) (fun x s₃ => wpAny (model prog w) A (pyIter x) (fun it2 s₄ =>
       codeAny (model prog w) A (.compStart (.ListComp elt [⟨t1,i1,[],0⟩,⟨t2,i2,[],0⟩] scope pos) 1 it2 acc env) (fun r s' => match r with | .ok _ => ∃ m,m < n ∧ I m s' | .error e => cameBackBy (model prog w) A env (notedBy (model prog w) A env fun e s' => R (.error e) s') e s') s₄) (notedBy (model prog w) A env fun e s' => R (.error e) s') s₃) (notedBy (model prog w) A env fun e s' => R (.error e) s') s₂) (notedBy (model prog w) A env fun e s' => R (.error e) s') s₁') (notedBy (model prog w) A env fun e s' => R (.error e) s') s₁) (notedBy (model prog w) A env fun e s' => R (.error e) s') s)
  (n : Nat) (h : I n s) :
  codeAny (model prog w) A (.compLoop (.ListComp elt [⟨t1,i1,[],0⟩,⟨t2,i2,[],0⟩] scope pos) 0 it acc env) R s := by
 refine codeAny_loop rfl I (fun n s hI => ?_) n h
 show wpAny _ A ((compTurn (.ListComp elt [⟨t1,i1,[],0⟩,⟨t2,i2,[],0⟩] scope pos) 0 it acc env).onRaise (fun x => do noteFrame x env; theTreesLotGoes x)) _ _ s
 refine wpAny_noted ?_
 rw [zj4]
 refine wb (wpAny_standAt (wb (wpAny_mono (turn n s hI) (fun r s₁ h₁ => ?_) fun _ _ h' => h')))
 cases r with
 | none => exact wpAny_pure h₁
 | some v =>
  refine wb (wpAny_mono h₁ (fun _ s₁' h₁' => wb (wpAny_mono h₁' (fun _ s₂ h₂ => wb (wpAny_mono h₂ (fun x s₃ h₃ => wb (wpAny_standAt (wb (wpAny_of_eq (hs env x) (wb (wpAny_holding (wpAny_mono h₃ (fun it2 s₄ h₄ => ?_) fun _ _ h' => h'))))))) fun _ _ h' => h')) fun _ _ h' => h')) fun _ _ h' => h')
  refine wb (wpAny_runOwn (codeAny_mono h₄ fun r s' hr => ?_))
  cases r with
  | ok f => exact wpAny_pure ⟨rfl,hr⟩
  | error e => exact hr
theorem zj9 (h0 : codeAny (model prog w) A (.compLoop (.ListComp elt [⟨t1,i1,[],0⟩,⟨t2,i2,[],0⟩] scope pos) 1 it acc env) R s)
  (h : wpAny (model prog w) A (pyIter it) (fun it' s' => codeAny (model prog w) A (.compLoop (.ListComp elt [⟨t1,i1,[],0⟩,⟨t2,i2,[],0⟩] scope pos) 1 it' acc env) R s') (notedBy (model prog w) A env fun x s' => R (.error x) s') s) :
  codeAny (model prog w) A (.compStart (.ListComp elt [⟨t1,i1,[],0⟩,⟨t2,i2,[],0⟩] scope pos) 1 it acc env) R s := by
 refine codeAny_of_tree ?_
 show wpAny _ _ ((compStart (.ListComp elt [⟨t1,i1,[],0⟩,⟨t2,i2,[],0⟩] scope pos) 1 it acc env).onRaise (fun x => do noteFrame x env; standAt theWindowsPlace)) _ _ s
 refine wpAny_notedAt ?_
 unfold compStart
 show wpAny _ _ (ask >>= _) _ _ s
 refine wb (wpAny_askSetting (wpAny_ite ?_))
 split
 ·first
   | exact wb (wpAny_pure (wpAny_pure (And.intro rfl h0)))
   | exact wpAny_pure (And.intro rfl h0)
 ·first
   | exact wb (wpAny_rule (wb (wpAny_standAt (wb (wpAny_mono h (fun it' s' h' => wpAny_pure (And.intro rfl h')) fun _ _ x => x)))))
   | (refine wb (wpAny_rule ?_); show wpAny _ _ (standAt i2.pos >>= _) _ _ s; exact wb (wpAny_standAt (wb (wpAny_mono h (fun it' s' h' => wpAny_pure (And.intro rfl h')) fun _ _ x => x))))
end
section
variable {cx : XCx} {ε : Sc}
theorem updL_in {m : SV} {x y : Str} {v u : Value} (h : m x = some v) : updL m [y] [u] = updL m [x,y] [v,u] := by
 have : (fun z => if z = x then some v else m z) = m := by
  funext z
  by_cases e : z = x
  ·rw [if_pos e,e,h]
  ·rw [if_neg e]
 show (fun z => if z = y then some u else m z) = fun z => if z = y then some u else (fun z => if z = x then some v else m z) z
 rw [this]
inductive InI (cx : XCx) (F : AP) (s : Shared) (F1 : AP) (h1 : Heap) (wr : List Addr) (Da C : Addr) (St : Nat → Heap → Prop) (M : (Str → Option Value) → Prop) (ys0 : List Value) (items l : List D) (go : List D → Option (List D)) (k : Nat) (s' : Shared) : Prop
 | mk (j : Nat) (F' : AP) (ys : List Value) (ds : List D) (kk : Nat) (m' : SV) (hj : j ≤ items.length) (hk : k = items.length - j) (st : Step cx F s F' s') (hF : ∀ a,F1 a → F' a)
  (hnf : ∀ b o,b ≠ Da → b ≠ C → b ∉ wr → ¬ cx.X b → h1.get? b = some o → s'.heap.get? b = some o ∧ (¬ F1 b → ¬ F' b)) (hst : St j s'.heap) (hwr : ∀ b ∈ wr, ¬ F' b) (hnD : ¬ F' Da) (hnC : ¬ F' C)
  (hD : s'.heap.get? Da = some (lobj (ys0 ++ ys).toArray kk)) (hys : RepL cx.T F' s'.heap ys ds) (hns : s'.heap.Ns C m') (hm : M m') (rest : List D) (hgo : go (items.drop j) = some rest) (hrest : l = ds ++ rest) : InI cx F s F1 h1 wr Da C St M ys0 items l go k s'
set_option genInjectivity false in
structure Still (cx : XCx) (F1 : AP) (h1 : Heap) (wr fp : List Addr) (Da C : Addr) : Prop where
 cd : C ≠ Da
 xD : ¬ cx.X Da
 xC : ¬ cx.X C
 nD : ¬ F1 Da
 nC : ¬ F1 C
 wD : Da ∉ wr
 wC : C ∉ wr
 xw : ∀ b ∈ wr, ¬ cx.X b
 xF : ∀ a,F1 a → ¬ cx.X a
 nw : ∀ b ∈ wr, ¬ F1 b
 iD : ∃ o,h1.get? Da = some o
 iC : ∃ o,h1.get? C = some o
 deps : ∀ b ∈ fp,b ∈ wr ∨ F1 b
 lt : ∀ a,F1 a → ∃ o,h1.get? a = some o
theorem zjO {f : D → Option (List R)} {d : D} {r rest : List D} (h : compGo (fun d => turnD (some [.val (.bool true)]) (f d)) (d :: r) = some rest) : ∃ q y ys,f d = some [q] ∧ q.fz = some y ∧ compGo (fun d => turnD (some [.val (.bool true)]) (f d)) r = some ys ∧ rest = y :: ys := by
 rcases zeK h with ⟨h1,h2⟩ | ⟨y,ys,h1,h2,h3⟩
 ·rcases zcj h1 with ⟨t,_⟩ | ⟨_,_,_,_,_,q⟩
  ·(injection t with t; injection t)
  ·injection q
 ·rcases zcj h1 with ⟨t,_⟩ | ⟨q,y',_,e1,e2,e3⟩
  ·(injection t with t; injection t)
  ·(injection e3 with e3; subst e3)
   exact ⟨q,y,ys,e1,e2,h2,h3⟩
theorem zh8 {elt t1 i1 i2 : Expr} {scope : Scope} {pos : Pos} {x y : Str} {py : Pos} {i j : Nat} {ee : X} (ok : CompOK ε scope [x,y] [i,j]) (he : Sound cx (compSc ε scope ([x,y].zip [i,j])) elt ee)
  {n cf A env F s ρ ad m cm} (H : Here cx ε n cf A env F s ρ ad m cm) {cl : List (Str × Addr)} (h1 : ∀ n c,cl.lookup n = some c → env.cells.lookup n = some c) (h2 : ∀ n,(n,NameKind.free) ∈ scope.names → (cl.lookup n).isSome)
  {Fa : AP} {sa : Shared} (sta : Step cx F s Fa sa) {items : List D} {I : Addr} {F1 : AP} {s1 : Shared} {fp wr : List Addr} {P : Nat → Value → Prop} {St : Nat → Heap → Prop} (J : Iter cx A Fa sa items I F1 s1 fp wr P St)
  {Da C : Addr} (frD : s.heap.get? Da = none) (frC : s.heap.get? C = none) (T : Still cx F1 s1.heap wr fp Da C)
  {ys0 : List Value} {k0 : Nat} (gD : s1.heap.get? Da = some (lobj ys0.toArray k0)) {m0 : SV} {v : Value} {d : D} (hns : s1.heap.Ns C m0) (hm0 : m0 x = some v) (hv : Rep cx.T F1 s1.heap v d) (hxy : x ≠ y)
  {l : List D} (hgo : compGo (fun d' => turnD (some [.val (.bool true)]) (ev cf ee ((ρ.set i (.val d)).set j (.val d')))) items = some l) (hlim : ys0.length + l.length ≤ lim) {R : Result → Shared → Prop}
  (hR : ∀ F' s' m' ys kk,Step cx F s F' s' → (∀ a,F1 a → F' a) → (∀ b o,b ≠ Da → b ≠ C → b ∉ wr → ¬ cx.X b → s1.heap.get? b = some o → s'.heap.get? b = some o ∧ (¬ F1 b → ¬ F' b)) → ¬ F' Da → ¬ F' C → s'.heap.get? Da = some (lobj (ys0 ++ ys).toArray kk) → RepL cx.T F' s'.heap ys l → s'.heap.Ns C m' → R (.ok .next) s') :
  codeAny (model cx.prog cx.w) A (.compLoop (.ListComp elt [⟨t1,i1,[],0⟩,⟨.Name y py,i2,[],0⟩] scope pos) 1 (.ref I) (.ref Da) (compEnvC scope cl C env)) R s1 := by
 have st1 : Step cx F s F1 s1 := sta.trans J.st
 have hwn : ∀ b ∈ wr,s.heap.get? b = none := fun b hb => sta.fresh (sta.wd.newNotX (J.new b hb).1) (J.new b hb).1
 refine loop_in (InI cx F s F1 s1.heap wr Da C St (fun m => m x = some v) ys0 items l (compGo fun d' => turnD (some [.val (.bool true)]) (ev cf ee ((ρ.set i (.val d)).set j (.val d'))))) (fun k s' hI => ?_) items.length
  ⟨0,F1,[],[],k0,m0,Nat.zero_le _,rfl,st1,fun _ h => h,fun b o _ _ _ _ e => ⟨e,id⟩,J.s0,fun b hb => (J.new b hb).2,T.nD,T.nC,by rw [List.append_nil]; exact gD,.nil,hns,hm0,l,hgo,rfl⟩
 obtain ⟨q,F',ys,ds,kk,m',hq,rfl,st',hF,hnf,hst,hwr,hnD,hnC,hD,hys,hns',hm,rest,hgo',hrest⟩ := hI
 rcases Nat.lt_or_ge q items.length with hlt | hge
 ·refine (J.W A H.bud.hd).item q s' _ _ hlt hst fun u h' tk hP hst' hk => ?_
  have st2 := st'.kept H.ok H.wd (wr := (· ∈ wr)) (fun b hb => ⟨hwn b hb,hwr b hb⟩) tk hk
  obtain ⟨d',hd',hr⟩ := J.item q u hP
  have hdrop : items.drop q = d' :: items.drop (q + 1) := by
   have h1 : items[q]? = some items[q] := List.getElem?_eq_getElem hlt
   rw [h1] at hd'
   (injection hd' with hd'; subst hd')
   exact List.drop_eq_getElem_cons hlt
  rw [hdrop] at hgo'
  obtain ⟨r',y',ys',e1,e2,e4,e5⟩ := zjO hgo'
  obtain ⟨ob,To,g1,g2,g3⟩ := J.ty _ _ hst'
  refine zdn (s := { s' with heap := h',toks := tk }) g1 g2 g3 ?_
  have keep1 : ∀ a o,F1 a → s1.heap.get? a = some o → h'.get? a = some o := fun a o f e => hk a o (fun hm => T.nw a hm f) (hnf a o (fun e => T.nD (e ▸ f)) (fun e => T.nC (e ▸ f)) (fun hm => T.nw a hm f) (T.xF a f) e).1
  have hnC' : h'.Ns C m' := hns'.at' fun o e => hk C o T.wC e
  refine zaF A F' { s' with heap := h',toks := tk } (compEnvC scope cl C env) C m' u d' [d'] H.ok st2.wd H.bud.hd rfl (fun z hz => lookup_relabel_local (ok.xl z (List.mem_cons_of_mem _ hz))) (by simp [compEnvC,relabel,ok.kind]) hnC' hnC (hr.mono hF keep1) rfl _ _ fun h3 tk3 vs3 hk3 hns3 hr3 => ?_
  have st3 : Step cx F s F' { s' with heap := h3,toks := tk3 } := st2.kept H.ok H.wd (wr := (· = C)) (fun b hb => by subst hb; exact ⟨frC,hnC⟩) tk3 hk3
  cases hr3 with
  | @cons u3 _ _ _ ru hr3 =>
  cases hr3
  rw [updL_in hm] at hns3
  have hv3 : Rep cx.T F' h3 v d := hv.mono hF fun a o f e => hk3 a o (fun e => T.nC (e ▸ f)) (keep1 a o f e)
  have H3 : Here cx (compSc ε scope ([x,y].zip [i,j])) n cf A (compEnvC scope cl C env) F' { s' with heap := h3,toks := tk3 } (setAll ρ [i,j] [d,d']) ad (updL m' [x,y] [v,u3]) cm :=
   ⟨H.ok,H.calls,H.bud,st3.wd,(H.step st3).env.comp ok h1 h2 T.xC hns3 rfl (.cons hv3 (.cons ru .nil))⟩
  refine he.ev n cf A _ F' _ _ ad _ cm H3 r' e1 _ _ fun v5 F5 s5 st5 q5 => ?_
  obtain ⟨F6,st6,_,r6⟩ := st5.fz H.ok H3.wd q5 e2
  have hD3 : h3.get? Da = some (lobj (ys0 ++ ys).toArray kk) := hk3 Da _ T.cd.symm (hk Da _ T.wD hD)
  have hD5 := st6.keep Da _ hD3 T.xD
  have hn6 : ¬ F6 Da := st6.notF hnD hD3
  obtain ⟨oC,eC⟩ : ∃ o,h3.get? C = some o := by obtain ⟨o,_,_,e,_⟩ := hns3; exact ⟨o,e⟩
  have hlen : (ys0 ++ ys).length ≤ lim := by
   rw [List.length_append]
   refine Nat.le_trans (Nat.add_le_add_left ?_ _) hlim
   rw [hys.length,hrest,List.length_append]
   exact Nat.le_add_right _ _
  refine wpAny_list_append_plain ⟨kk,hD5⟩ (fun h7 hl7 sb7 => ?_) (by rw [List.size_toArray]; exact zaC hlen)
  obtain ⟨k7,hl7⟩ := hl7
  have e7 : (ys0 ++ ys).toArray.push v5 = (ys0 ++ (ys ++ [v5])).toArray := by simp
  rw [e7] at hl7
  have st7 : Step cx F s F6 { s5 with heap := h7,toks := s5.toks } := (st3.trans st6).kept H.ok H.wd (wr := (· = Da)) (fun b hb => by subst hb; exact ⟨frD,hn6⟩) s5.toks fun a o h e => (sb7.2 a h).trans e
  have keep7 : ∀ a o,F6 a → s5.heap.get? a = some o → h7.get? a = some o := fun a o f e => (sb7.2 a fun e => hn6 (e ▸ f)).trans e
  have keep3 : ∀ a o,F' a → s'.heap.get? a = some o → h3.get? a = some o := fun a o f e => hk3 a o (fun e => hnC (e ▸ f)) (hk a o (fun hm => hwr a hm f) e)
  have thru : ∀ b o,b ≠ Da → b ≠ C → ¬ cx.X b → h'.get? b = some o → h7.get? b = some o := fun b o b1 b2 bx e => (sb7.2 b b1).trans (st6.keep b o (hk3 b o b2 e) bx)
  refine ⟨items.length - (q + 1),Nat.sub_lt_sub_left hlt (Nat.lt_succ_self q),q + 1,F6,ys ++ [v5],ds ++ [y'],k7,_,hlt,rfl,st7,fun a h => st6.sub a (hF a h),fun b o b1 b2 b3 bx e => ?_, ?_,fun b hb => ?_,hn6,st6.notF hnC eC,hl7, ?_,(hns3.at' fun o e => st6.keep _ o e T.xC).sameBut sb7 T.cd, ?_,ys',e4,by rw [hrest,e5,List.append_assoc]; rfl⟩
  ·obtain ⟨a1,a2⟩ := hnf b o b1 b2 b3 bx e
   have a3 := hk b o b3 a1
   exact ⟨thru b o b1 b2 bx a3,fun hf => st6.notF (a2 hf) (hk3 b o b2 a3)⟩
  ·refine (J.W A H.bud.hd).frame _ _ _ hst' fun b hb o e => ?_
   rcases T.deps b hb with h | h
   ·exact thru b o (fun e => T.wD (e ▸ h)) (fun e => T.wC (e ▸ h)) (T.xw b h) e
   ·exact thru b o (fun e => T.nD (e ▸ h)) (fun e => T.nC (e ▸ h)) (T.xF b h) e
  ·exact st6.notF (hwr b hb) (hk3 b _ (fun e => T.wC (e ▸ hb)) (by rw [J.one b hb]; exact g1))
  ·exact ((st6.repL H3.wd (hys.mono (fun _ h => h) keep3)).append (.cons r6 .nil)).mono (fun _ h => h) keep7
  ·show (if x = y then _ else if x = x then some v else m' x) = some v
   rw [if_neg hxy,if_pos rfl]
 ·have ej : q = items.length := Nat.le_antisymm hq hge
  subst ej
  rw [List.drop_length] at hgo'
  (injection hgo' with hgo'; subst hgo')
  refine (J.W A H.bud.hd).done s' _ _ hst fun h' tk hk => ?_
  have st2 := st'.kept H.ok H.wd (wr := (· ∈ wr)) (fun b hb => ⟨hwn b hb,hwr b hb⟩) tk hk
  rw [List.append_nil] at hrest
  subst hrest
  exact hR F' _ m' ys kk st2 hF (fun b o b1 b2 b3 bx e => ⟨hk b o b3 (hnf b o b1 b2 b3 bx e).1,(hnf b o b1 b2 b3 bx e).2⟩) hnD hnC (hk Da _ T.wD hD) (hys.mono (fun _ h => h) fun a o f e => hk a o (fun hm => hwr a hm f) e) (hns'.at' fun o e => hk C o T.wC e)
theorem zib {f : D → Option (List D)} {d : D} {r rest : List D} (h : flatGo f (d :: r) = some rest) : ∃ a b,f d = some a ∧ flatGo f r = some b ∧ rest = a ++ b := by
 unfold flatGo at h
 cases e : f d with
 | none => rw [e] at h; injection h
 | some a =>
  rw [e] at h
  obtain ⟨b,e2,e3⟩ := Option.map_eq_some_iff.mp h
  exact ⟨a,b,rfl,e2,e3.symm⟩
noncomputable def innerL (cf : CfT) (i : Nat) (jt : X) (j : Nat) (ee : X) (ρ : List Slot) (d : D) : Option (List D) :=
 match evI cf jt (ρ.set i (.val d)) with
 | some its => compGo (fun d' => turnD (some [.val (.bool true)]) (ev cf ee ((ρ.set i (.val d)).set j (.val d')))) its
 | none => none
set_option genInjectivity false in
structure CompY (cx : XCx) (ε : Sc) (elt i1 i2 : Expr) (scope : Scope) (x y : Str) (i j : Nat) (it jt ee : X) : Prop where
 hi1 : SoundI cx ε i1 it
 ok : CompOK ε scope [x,y] [i,j]
 hi2 : SoundI cx (compSc ε scope ([x].zip [i])) i2 jt
 he : Sound cx (compSc ε scope ([x,y].zip [i,j])) elt ee
 hs1 : ∀ env x,foldedSetIterable i1 env x = pure x
 hs2 : ∀ env x,foldedSetIterable i2 env x = pure x
theorem CompOK.one {scope : Scope} {x y : Str} {i j : Nat} (ok : CompOK ε scope [x,y] [i,j]) : CompOK ε scope [x] [i] where
 kind := ok.kind
 nocell := ok.nocell
 names := ok.names
 xl := fun z hz => ok.xl z (by rw [List.mem_singleton.mp hz]; exact List.mem_cons_self)
 free := ok.free
 apart := fun z k hz hm => ok.apart z k hz (by rw [List.mem_singleton.mp hm]; exact List.mem_cons_self)
 xn := List.nodup_cons.mpr ⟨List.not_mem_nil,List.nodup_nil⟩
 isn := List.nodup_cons.mpr ⟨List.not_mem_nil,List.nodup_nil⟩
 len := rfl
theorem zig {elt i1 i2 : Expr} {scope : Scope} {pos cpos : Pos} {x y : Str} {px py : Pos} {i j : Nat} {it jt ee : X} (Y : CompY cx ε elt i1 i2 scope x y i j it jt ee)
  {n cf A env F s ρ ad m cm} (H : Here cx ε n cf A env F s ρ ad m cm) {items l : List D} (hit : evI cf it ρ = some items) (hl : flatGo (innerL cf i jt j ee ρ) items = some l) (hlim : l.length ≤ lim)
  {use : Option (Value → Sem Unit)} {Q E : VP}
  (hRR : ∀ Da C F' s' m',Step cx F s F' s' → RepR cx F' s.heap s'.heap (.ref Da) (.own l) → s'.heap.Ns C m' → s.heap.get? C = none → ¬ F' C → C ≠ Da → compPost (model cx.prog cx.w) A E use Q (.ref Da) C (.ok .next) s') :
  wpAny (model cx.prog cx.w) A (comprehension (.ListComp elt [⟨.Name x px,i1,[],0⟩,⟨.Name y py,i2,[],0⟩] scope pos) scope env cpos (newList []) false (eval i1 env) use) Q E s := by
 have ok := Y.ok
 have hxy : x ≠ y := fun e => by
  have := List.nodup_cons.mp ok.xn
  exact this.1 (by rw [e]; exact List.mem_cons_self)
 obtain ⟨cl,hclos,h1,h2⟩ := H.env.closure ok
 refine wpAny_comprehension_free rfl (Y.hs1 env) hclos ok.kind ok.names (Y.hi1 n cf A env F s ρ ad m cm H items hit _ _ fun I F1 s1 fp wr P St J => ?_)
 refine wpAny_newObj_type ?_
 refine (wpAny_newFunctionEnv ok.nocell (by intro y hy; simp at hy) (fun h₁ hns₁ hsb₁ => ?_) ok.kind)
 dsimp only at hns₁ hsb₁ ⊢
 generalize hH2 : s1.heap.push (lobj [].toArray 0) = H2 at hns₁ hsb₁ ⊢
 generalize hD : s1.heap.objs.size = Da
 generalize hCe : H2.objs.size = C at hns₁ hsb₁
 have hCD : C = Da + 1 := by rw [← hCe, ← hD, ← hH2,Heap.size_push]
 have hDC : C ≠ Da := by rw [hCD]; exact Nat.succ_ne_self Da
 have fr : ∀ a,Da ≤ a → s1.heap.get? a = none := fun a ha => by
  cases e : s1.heap.get? a with
  | none => rfl
  | some o' => exact absurd (hD ▸ Heap.lt_size e) (Nat.not_lt.mpr ha)
 have lt1 : ∀ b o,s1.heap.get? b = some o → b ≠ C ∧ b ≠ Da := fun b o e => ⟨Nat.ne_of_lt (by rw [hCD]; exact Nat.lt_succ_of_lt (hD ▸ Heap.lt_size e)),Nat.ne_of_lt (hD ▸ Heap.lt_size e)⟩
 have old : ∀ b o,s1.heap.get? b = some o → h₁.get? b = some o := fun b o e => hsb₁.extBut b o (lt1 b o e).1 (Heap.get?_push_of_some _ (hH2 ▸ Heap.get?_push_of_some _ e))
 have hacc : h₁.get? Da = some (lobj [].toArray 0) := hsb₁.extBut _ _ hDC.symm (Heap.get?_push_of_some _ (by rw [← hH2, ← hD]; exact Heap.get?_push_size _ rfl))
 have frD := fr Da (Nat.le_refl _)
 have frC := fr C (by rw [hCD]; exact Nat.le_succ Da)
 have xD : ¬ cx.X Da := J.st.wd.newNotX frD
 have xC : ¬ cx.X C := J.st.wd.newNotX frC
 have frD0 : s.heap.get? Da = none := J.st.fresh xD frD
 have frC0 : s.heap.get? C = none := J.st.fresh xC frC
 obtain ⟨oI,TI,gI,_,_⟩ := J.ty 0 _ J.s0
 have hwI : ∀ b ∈ wr,b ≠ C ∧ b ≠ Da := fun b hb => by rw [J.one b hb]; exact lt1 I _ gI
 have xwr : ∀ b ∈ wr, ¬ cx.X b := fun b hb h => by
  obtain ⟨o,e⟩ := H.wd.xex b h
  rw [(J.new b hb).1] at e; injection e
 have st1 : Step cx F s F1 { s1 with heap := h₁,toks := s1.toks + ([] : List (Str × Value)).length } := J.st.trans (Step.grown H.ok J.st.wd _ old)
 have nD1 := J.st.wd.newNotF frD
 have nC1 := J.st.wd.newNotF frC
 have oC1 : ∃ o,h₁.get? C = some o := by obtain ⟨o,_,_,e,_⟩ := hns₁; exact ⟨o,e⟩
 have T : Still cx F1 h₁ wr fp Da C := ⟨hDC,xD,xC,nD1,nC1,fun h => (hwI Da h).2 rfl,fun h => (hwI C h).1 rfl,xwr,J.st.wd.nx,fun b hb => (J.new b hb).2,⟨_,hacc⟩,oC1,J.deps,st1.wd.lt⟩
 have loop : ∀ s₃ : Shared,s₃ = { s1 with heap := h₁,toks := s1.toks + ([] : List (Str × Value)).length } →
   codeAny (model cx.prog cx.w) A (.compLoop (.ListComp elt [⟨.Name x px,i1,[],0⟩,⟨.Name y py,i2,[],0⟩] scope pos) 0 (.ref I) (.ref Da) (compEnvC scope cl C env)) (compPost (model cx.prog cx.w) A E use Q (.ref Da) C) s₃ := by
  rintro s₃ rfl
  refine zkH Y.hs2 (InI cx F s F1 h₁ wr Da C St (fun _ => True) [] items l (flatGo (innerL cf i jt j ee ρ))) (fun k s' hI => ?_) items.length
   ⟨0,F1,[],[],0,_,Nat.zero_le _,rfl,st1,fun _ h => h,fun b o _ _ _ _ e => ⟨e,id⟩,(J.W A H.bud.hd).frame _ _ _ J.s0 fun b _ o e => old b o e,fun b hb => (J.new b hb).2,nD1,nC1,hacc,.nil,hns₁,trivial,l,hl,rfl⟩
  obtain ⟨q,F',ys,ds,kk,m',hq,rfl,st',hF,hnf,hst,hwr,hnD,hnC,hD',hys,hns',_,rest,hgo,hrest⟩ := hI
  rw [List.nil_append] at hD'
  rcases Nat.lt_or_ge q items.length with hlt | hge
  ·refine (J.W A H.bud.hd).item q s' _ _ hlt hst fun u h' tk hP hst' hk => ?_
   have st2 := st'.kept H.ok H.wd (wr := (· ∈ wr)) (fun b hb => ⟨(J.new b hb).1,hwr b hb⟩) tk hk
   obtain ⟨d,hd,hr⟩ := J.item q u hP
   have hdrop : items.drop q = d :: items.drop (q + 1) := by
    have h1 : items[q]? = some items[q] := List.getElem?_eq_getElem hlt
    rw [h1] at hd
    (injection hd with hd; subst hd)
    exact List.drop_eq_getElem_cons hlt
   rw [hdrop] at hgo
   obtain ⟨l2,rest',ea,hgo',er⟩ := zib hgo
   obtain ⟨its,ei,eg⟩ : ∃ its,evI cf jt (ρ.set i (.val d)) = some its ∧ compGo (fun d' => turnD (some [.val (.bool true)]) (ev cf ee ((ρ.set i (.val d)).set j (.val d')))) its = some l2 := by
    unfold innerL at ea
    cases e : evI cf jt (ρ.set i (.val d)) with
    | none => rw [e] at ea; injection ea
    | some its => rw [e] at ea; exact ⟨its,rfl,ea⟩
   obtain ⟨ob,To,g1,g2,g3⟩ := J.ty _ _ hst'
   refine zdn (s := { s' with heap := h',toks := tk }) g1 g2 g3 ?_
   have keep1 : ∀ a o,F1 a → s1.heap.get? a = some o → h'.get? a = some o := fun a o f e => hk a o (fun hm => T.nw a hm f) (hnf a o (fun e => T.nD (e ▸ f)) (fun e => T.nC (e ▸ f)) (fun hm => T.nw a hm f) (T.xF a f) (old a o e)).1
   have hnC' : h'.Ns C m' := hns'.at' fun o e => hk C o T.wC e
   refine zaF A F' { s' with heap := h',toks := tk } (compEnvC scope cl C env) C m' u d [d] H.ok st2.wd H.bud.hd rfl (fun z hz => lookup_relabel_local (ok.one.xl z hz)) (by simp [compEnvC,relabel,ok.kind]) hnC' hnC (hr.mono hF keep1) rfl _ _ fun h3 tk3 vs3 hk3 hns3 hr3 => ?_
   have st3 : Step cx F s F' { s' with heap := h3,toks := tk3 } := st2.kept H.ok H.wd (wr := (· = C)) (fun b hb => by subst hb; exact ⟨frC0,hnC⟩) tk3 hk3
   cases hr3 with
   | @cons u3 _ _ _ ru hr3 =>
   cases hr3
   have H3 : Here cx (compSc ε scope ([x].zip [i])) n cf A (compEnvC scope cl C env) F' { s' with heap := h3,toks := tk3 } (setAll ρ [i] [d]) ad (updL m' [x] [u3]) cm :=
    ⟨H.ok,H.calls,H.bud,st3.wd,(H.step st3).env.comp ok.one h1 h2 xC hns3 rfl (.cons ru .nil)⟩
   have hD3 : h3.get? Da = some (lobj ys.toArray kk) := hk3 Da _ hDC.symm (hk Da _ T.wD hD')
   obtain ⟨oC,eC⟩ : ∃ o,h3.get? C = some o := by obtain ⟨o,_,_,e,_⟩ := hns3; exact ⟨o,e⟩
   have keep3 : ∀ a o,F' a → s'.heap.get? a = some o → h3.get? a = some o := fun a o f e => hk3 a o (fun e => hnC (e ▸ f)) (hk a o (fun hm => hwr a hm f) e)
   refine Y.hi2 n cf A _ F' _ _ ad _ cm H3 its ei _ _ fun I2 F4 s4 fp2 wr2 P2 St2 J2 => ?_
   have st4 := J2.st
   have hD4 := st4.keep Da _ hD3 xD
   have nD4 : ¬ F4 Da := st4.notF hnD hD3
   have nC4 : ¬ F4 C := st4.notF hnC eC
   have w2 : ∀ b ∈ wr2,h3.get? b = none := fun b hb => (J2.new b hb).1
   have T2 : Still cx F4 s4.heap wr2 fp2 Da C := ⟨hDC,xD,xC,nD4,nC4,fun h => (by have := w2 Da h; rw [hD3] at this; injection this),fun h => (by have := w2 C h; rw [eC] at this; injection this),fun b hb => st3.wd.newNotX (w2 b hb),st4.wd.nx,fun b hb => (J2.new b hb).2,⟨_,hD4⟩,⟨_,st4.keep C _ eC xC⟩,J2.deps,st4.wd.lt⟩
   have inn := zh8 (t1 := .Name x px) (i1 := i1) (i2 := i2) (pos := pos) (py := py) (R := fun r s' => match r with
     | .ok _ => ∃ m,m < items.length - q ∧ InI cx F s F1 h₁ wr Da C St (fun _ => True) [] items l (flatGo (innerL cf i jt j ee ρ)) m s'
     | .error e => cameBackBy (model cx.prog cx.w) A (compEnvC scope cl C env) (notedBy (model cx.prog cx.w) A (compEnvC scope cl C env) fun e s' => compPost (model cx.prog cx.w) A E use Q (.ref Da) C (.error e) s') e s')
    ok Y.he H h1 h2 st3 J2 frD0 frC0 T2 hD4 (hns3.at' fun o e => st4.keep _ o e xC) (show updL m' [x] [u3] x = some u3 from if_pos rfl) (st4.rep H3.wd ru) hxy eg (by
     rw [hys.length]
     refine Nat.le_trans ?_ hlim
     rw [hrest,er,List.length_append,List.length_append, ← Nat.add_assoc]
     exact Nat.le_add_right _ _) fun F5 s5 m5 ys2 k5 st5 hF5 hnf5 nD5 nC5 hD5 hy5 hns5 => by
     have thru : ∀ b o,b ≠ Da → b ≠ C → ¬ cx.X b → h3.get? b = some o → s5.heap.get? b = some o ∧ (¬ F' b → ¬ F5 b) := fun b o b1 b2 bx e => by
      have hb2 : b ∉ wr2 := fun h => by have := w2 b h; rw [e] at this; injection this
      obtain ⟨a1,a2⟩ := hnf5 b o b1 b2 hb2 bx (st4.keep b o e bx)
      exact ⟨a1,fun h => a2 (st4.notF h e)⟩
     have hys5 : RepL cx.T F5 s5.heap ys ds := hys.mono (fun a h => hF5 a (st4.sub a h)) fun a o f e => (thru a o (fun e => hnD (e ▸ f)) (fun e => hnC (e ▸ f)) (st'.wd.nx a f) (keep3 a o f e)).1
     refine ⟨items.length - (q + 1),Nat.sub_lt_sub_left hlt (Nat.lt_succ_self q),q + 1,F5,ys ++ ys2,ds ++ l2,k5,m5,hlt,rfl,st5,fun a h => hF5 a (st4.sub a (hF a h)),fun b o b1 b2 b3 bx e => ?_, ?_,fun b hb => ?_,nD5,nC5,hD5,hys5.append hy5,hns5,trivial,rest',hgo',by rw [hrest,er,List.append_assoc]⟩
     ·obtain ⟨a1,a2⟩ := hnf b o b1 b2 b3 bx e
      obtain ⟨c1,c2⟩ := thru b o b1 b2 bx (hk3 b o b2 (hk b o b3 a1))
      exact ⟨c1,fun h => c2 (a2 h)⟩
     ·refine (J.W A H.bud.hd).frame _ _ _ hst' fun b hb o e => ?_
      rcases T.deps b hb with h | h
      ·exact (thru b o (fun e => T.wD (e ▸ h)) (fun e => T.wC (e ▸ h)) (xwr b h) (hk3 b o (fun e => T.wC (e ▸ h)) e)).1
      ·exact (thru b o (fun e => T.nD (e ▸ h)) (fun e => T.nC (e ▸ h)) (T.xF b h) (hk3 b o (fun e => T.nC (e ▸ h)) e)).1
     ·exact (thru b _ (hwI b hb).2 (hwI b hb).1 (xwr b hb) (hk3 b _ (hwI b hb).1 (by rw [J.one b hb]; exact g1))).2 (hwr b hb)
   exact zj9 inn ((J2.W A H.bud.hd).self 0 _ _ _ J2.s0 inn)
  ·have ej : q = items.length := Nat.le_antisymm hq hge
   subst ej
   rw [List.drop_length] at hgo
   (injection hgo with hgo; subst hgo)
   refine (J.W A H.bud.hd).done s' _ _ hst fun h' tk hk => ?_
   have st2 := st'.kept H.ok H.wd (wr := (· ∈ wr)) (fun b hb => ⟨(J.new b hb).1,hwr b hb⟩) tk hk
   rw [List.append_nil] at hrest
   subst hrest
   exact hRR Da C F' _ m' st2 (.own frD0 hnD xD (hk Da _ T.wD hD') (by rw [hys.length]; exact hlim) (hys.mono (fun _ h => h) fun a o f e => hk a o (fun hm => hwr a hm f) e)) (hns'.at' fun o e => hk C o T.wC e) frC0 hnC hDC
 exact codeAny_compStart_list (loop _ rfl) ((J.W A H.bud.hd).self 0 _ _ _ ((J.W A H.bud.hd).frame _ _ _ J.s0 fun b _ o e => old b o e) (loop _ rfl))
end
section
variable {cx : XCx} {ε : Sc} {n : Nat} {cf : CfT} {A : Around} {env : Env} {F F' : AP} {s s' : Shared} {ρ ρ' : List Slot} {ad : NAd} {m cm : SV} {i : Nat} {l : List D}
end
section
variable {cx : XCx} {ε : Sc}
end
end Mine
end
section
open PySem PySem.Calls PyProof.Rows PySem.Builtin.Str PySem.SeqAt PySem.AutoSeq1 PySem.MeetsSeq PySem.MeetsSeq2 PySem.MeetsSeq3 PySem.SeqRoads2
namespace Mine
inductive Comp3I (cf : CfT) (i : Nat) (it : X) (j : Nat) (jt ee : X) (ρ : List Slot) : R → Prop
 | mk {items l : List D} : evI cf it ρ = some items → flatGo (innerL cf i jt j ee ρ) items = some l → l.length ≤ lim → Comp3I cf i it j jt ee ρ (.own l)
theorem zkT {cf : CfT} {i j : Nat} {it jt e : X} {ρ : List Slot} {r : R} (h : ev cf (.comp3 i it j jt e) ρ = some [r]) : Comp3I cf i it j jt e ρ r := by
 replace h := (zfT _).symm.trans h
 cases e1 : itsR (ev cf it ρ) with
 | none => rw [e1] at h; injection h
 | some items =>
  rw [e1] at h
  replace h : (match flatGo (innerL cf i jt j e ρ) items with | some l => if l.length ≤ lim then some [R.own l] else none | none => none) = some [r] := h
  cases e2 : flatGo (innerL cf i jt j e ρ) items with
  | none => rw [e2] at h; injection h
  | some l =>
   rw [e2] at h
   obtain ⟨hl,e3⟩ := zbx h
   (injection e3 with e3 z; injection z; subst e3)
   exact .mk e1 e2 hl
section
variable {cx : XCx} {ε : Sc}
theorem zgh {elt i1 i2 : Expr} {scope : Scope} {pos : Pos} {x y : Str} {px py : Pos} {i j : Nat} {it jt ee : X} (Y : CompY cx ε elt i1 i2 scope x y i j it jt ee) :
  Sound cx ε (.ListComp elt [⟨.Name x px,i1,[],0⟩,⟨.Name y py,i2,[],0⟩] scope pos) (.comp3 i it j jt ee) := by
 refine Sound.ofE ?_ fun _ => rfl
 intro n cf A env F s ρ ad m cm H r hr Q E hQ
 cases zkT hr with
 | mk e1 e2 hl =>
  rw [eval_ListComp]
  refine zig (use := none) Y H e1 e2 hl fun Da C F' s' m' st q hn frC nC hne => ?_
  refine ⟨m',hn,fun h'' sb => ?_⟩
  have st2 : Step cx F s F' { s' with heap := h'' } := st.kept H.ok H.wd (wr := (· = C)) (fun b hb => by subst hb; exact ⟨frC,nC⟩) s'.toks fun a o h e => (sb.2 a h).trans e
  refine hQ _ F' _ st2 ?_
  cases q with
  | own lo nf nx g z q => exact .own lo nf nx ((sb.2 Da hne.symm).trans g) z (q.mono (fun _ h => h) fun a o f e => (sb.2 a fun e => nC (e ▸ f)).trans e)
end
end Mine
end
section
open PySem PySem.Calls PyProof.Rows PySem.Builtin.Str PySem.W
namespace Mine
section
variable {cx : XCx} {ε : Sc} {n : Nat} {cf : CfT} {A : Around} {env : Env} {F : AP} {s : Shared} {ρ : List Slot} {ad : NAd} {m cm : SV}
theorem zdh {h h' : Heap} {L L' : Addr} (k : (hideAll h [L',L]).StaysIn h') {a : Addr} {o : Obj} (h1 : a ≠ L') (h2 : a ≠ L) (e : h.get? a = some o) : h'.get? a = some o :=
 k a o (hideAll_get _ e fun q => by
  rcases List.mem_cons.mp q with q | q
  ·exact h1 q
  ·exact h2 (List.mem_singleton.mp q))
theorem Wd.stays (ok : CxOk cx) (w : Wd cx F s) {h' : Heap} {L L' : Addr} (k : (hideAll s.heap [L',L]).StaysIn h') (f1 : ¬ F L') (x1 : ¬ cx.X L') (f2 : ¬ F L) (x2 : ¬ cx.X L) : Wd cx F { s with heap := h' } := by
 have hf : ∀ a o,F a → s.heap.get? a = some o → h'.get? a = some o := fun a o f e => zdh k (fun q => f1 (q ▸ f)) (fun q => f2 (q ▸ f)) e
 have hx : ∀ a o,cx.X a → s.heap.get? a = some o → h'.get? a = some o := fun a o f e => zdh k (fun q => x1 (q ▸ f)) (fun q => x2 (q ▸ f)) e
 exact ⟨fun a o e x => hf a o (w.f0 a o e x) (w.base a o e x),ok.xi _ _ _ _ w.xi (fun _ h => h) (fun a o h e => h.elim (fun f => hf a o f e) fun f => hx a o f e),w.gens,w.f0,fun a f => let ⟨o,e⟩ := w.lt a f; ⟨o,hf a o f e⟩,w.nx,fun a f => let ⟨o,e⟩ := w.xex a f; ⟨o,hx a o f e⟩⟩
theorem Frm.stays (f : Frm cx ε env F s ρ ad m cm) {h' : Heap} (hk : ∀ a o,a ≠ env.locals → F a ∨ Mut env ρ ad a → s.heap.get? a = some o → h'.get? a = some o) (hn : h'.Ns env.locals m) :
  Frm cx ε env F { s with heap := h' } ρ ad m cm := by
 have hf : ∀ a o,F a → s.heap.get? a = some o → h'.get? a = some o := fun a o h e => hk a o (fun q => f.lf (q ▸ h)) (.inl h) e
 have slots : ∀ j ov,SlotRep cx F s.heap ad j ov (slotAt ρ j) → SlotRep cx F h' ad j ov (slotAt ρ j) := by
  intro j ov q
  have hm : ∀ l,slotAt ρ j = .own l → Mut env ρ ad (ad j) ∧ ad j ≠ env.locals := fun l e => ⟨.inr (.inr ⟨j,l,e,rfl⟩),(f.own j l e).2.2.2.1⟩
  generalize slotAt ρ j = x at q hm
  cases q with
  | unset => exact .unset
  | val q => exact .val (q.mono (fun _ h => h) hf)
  | own nf nx g z q hd => exact .own nf nx (hk _ _ (hm _ rfl).2 (.inr (hm _ rfl).1) g) z (q.mono (fun _ h => h) hf) hd
  | dic nf nx sm g q z hd =>
   obtain ⟨o,es,ep,ho,r⟩ := g
   exact .dic nf nx sm ⟨o,es,ep,hk _ _ (hm _ rfl).2 (.inr (hm _ rfl).1) ho,r⟩ (q.mono (fun _ h => h) hf) z hd
  | fdic fb sm g q z =>
   obtain ⟨o,es,ep,ho,r⟩ := g
   exact .fdic fb sm ⟨o,es,ep,hf _ _ fb ho,r⟩ (q.mono (fun _ h => h) hf) z
  | app fb g e => exact .app fb (hf _ _ fb g) e
 refine ⟨⟨f.en.kind,f.en.names,f.en.glob,f.en.blt,f.en.code,f.en.lx,f.en.cxx,hn,fun n c hc => let ⟨o,g,d⟩ := f.en.cells n c hc; ⟨o,hk _ o (f.cf n c hc).2 (.inr (.inr (.inl ⟨n,hc⟩))) g,d⟩,
  fun y i hy => (f.en.vars y i hy).imp (fun ⟨k,q⟩ => ⟨k,slots i _ q⟩) fun ⟨k,c,q⟩ => ⟨k,c,slots i _ q⟩⟩,f.lf,f.cf,f.cinj,f.oinj,fun i l hi => ?_⟩
 obtain ⟨a1,a2,⟨o,g⟩,a4,a5⟩ := f.own i l hi
 exact ⟨a1,a2,⟨o,hk _ _ a4 (.inr (.inr (.inr ⟨i,l,hi,rfl⟩))) g⟩,a4,a5⟩
set_option genInjectivity false in
structure Flown (cx : XCx) (env : Env) (F F' : AP) (s s' : Shared) (h' : Heap) (e L' : Addr) (a0 : Value) : Prop where
 st : Step cx F s F' s'
 new : s.heap.get? L' = none
 nf : ¬ F' L'
 nx : ¬ cx.X L'
 fly : Heap.FlyingW (hideAll s'.heap [L',env.locals]) [env] e (.type "ValueError") a0 h'
 up : s'.heap.UpToSlots h'
theorem zgQ {εc : Sc} {i : Nat} {fn : Fn} {fd : FuncData} {b1 : Stmt} {test : Expr} {c : Const} {k : Nat} {p1 p2 p3 p4 p5 : Pos} {es rest : List Stmt} {ps : List Str}
  (Fi : FnIs cx εc i fn fd (b1 :: .If test [.Raise (some (.Call (.Name ("ValueError" : Str) p1) [.Constant c k p2] [] p3)) none p4] es p5 :: rest) ps) (ok : CxOk cx) (hc : CallOK cx n cf)
  {args : List D} {ρ0 ρ1 : List Slot} {st1 : S} {tx : X} {cd : D} (hb : bindD fn args = some ρ0) (h1 : SoundS cx εc b1 st1) (e1 : ex cf st1 ρ0 = some (ρ1,.next)) (h2 : Sound cx εc test tx) (e2 : evT cf tx ρ1 = some true)
  (hcd : constD c = some cd) (hv : εc.kinds.lookup ("ValueError" : Str) = some .globalImplicit) (hg : cx.mg ("ValueError" : Str) = none)
  {vs : List Value} (bud : Bud (n + 1) A) (w : Wd cx F s) (q : RepL cx.T F s.heap vs args) (hA : A.frames = some [env]) (hl : env.frame = some env.locals) (hk : env.scope.kind = .function) (hns : s.heap.Ns env.locals m) (hlx : ¬ cx.X env.locals)
  {Rs : Result → Shared → Prop} (hR : ∀ F' s' h' e L' a0,Flown cx env F F' s s' h' e L' a0 → Rs (.error (.ref e)) { s' with heap := h' }) : codeAny (model cx.prog cx.w) A (.call (.ref (cx.fa i)) ⟨vs,[]⟩) Rs s := by
 refine zdZ Fi ok hb bud w q fun A' ec F₁ s₁ s₂ m1 cm1 Q E O fr => ?_
 have H0 : HereS cx εc n cf A' ec F₁ s₂ ρ0 (fun _ => 0) m1 cm1 := ⟨ok,Fi.sc,hc,O.bud,O.wd,fr,fun h => nomatch Fi.top.symm.trans h⟩
 refine wpAny_execs_cons (h1 n cf A' ec F₁ s₂ ρ0 _ m1 cm1 H0 ρ1 .next e1 _ _ fun f F2 s3 ad2 m2 cm2 x2 fr2 out => ?_)
 cases out
 have H2 := H0.stepS x2 fr2
 refine wpAny_execs_cons (wpAny_If (h2.tr n cf A' ec F2 s3 ρ1 ad2 m2 cm2 H2.here true e2 _ _ fun F4 s4 st4 => ?_))
 show wpAny _ _ _ _ _ _
 have H4 := H2.step st4
 have hL : SoundL cx εc [.Constant c k p2] (.cons (.const cd) .nil) false := .cons (zab hcd) rfl .nil
 refine wpAny_execs_cons (wpAny_Raise_call PySem.F.excCall_ValueError PySem.F.excRaise_ValueError O.bud.hd (zaM hL) (zaL H4.here hv hg (by decide) rfl rfl ⟨rfl,zaO hL H4.here (rs := [.val cd]) rfl fun vs5 F5 s5 st5 q5 => ⟨rfl, ?_,fun h5 e hm => O.exc _ _ ?_⟩⟩))
 ·rw [show vs5.length = 1 from ?_]
  ·decide
  ·cases q5 with
   | cons _ q => cases q; rfl
 ·have H5 := H4.step st5
  have st := O.step (((x2.trans (.ofStep st4)).trans (.ofStep st5)))
  have hn5 : s5.heap.Ns env.locals m := hns.at' fun o g => st.keep _ o g hlx
  have k0 : (hideAll s5.heap [ec.locals,env.locals]).StaysIn s5.heap := fun b o e => of_hideAll _ e
  refine wpAny_leaves_madeW (base := hideAll s5.heap [ec.locals,env.locals]) (outer := [env]) (h := s5.heap) (O.fr.trans (by rw [hA]; rfl)) O.loc k0
   (Heap.FunFrames.cons (by rw [H5.frm.en.kind]; exact nofun) O.loc H5.frm.en.ns (hideAll_none _ List.mem_cons_self) (Heap.FunFrames.cons (by rw [hk]; exact nofun) hl hn5 (hideAll_none _ (List.mem_cons_of_mem _ List.mem_cons_self)) trivial))
   (Heap.MadeExc.of hm) fun h' t fly _ _ up => hR F5 s5 h' e ec.locals (.ref t) ⟨st,O.st.fresh fr.en.lx (O.fresh _ (.inl rfl)),H5.frm.lf,fr.en.lx,fly,(Heap.UpToSlots.of_keeps hm.keeps).trans up⟩
theorem Flown.back {F' : AP} {s' : Shared} {h' : Heap} {e L' : Addr} {a0 : Value} (x : Flown cx env F F' s s' h' e L' a0) (H : HereS cx ε n cf A env F s ρ ad m cm) : StepS cx env F s ρ ad F' { s' with heap := h' } ρ ad ∧ Frm cx ε env F' { s' with heap := h' } ρ ad m cm := by
 have f := H.frm.step H.wd x.st
 have nm : ∀ a,Mut env ρ ad a → a ≠ L' := fun a h q => by
  obtain ⟨o,g⟩ := H.frm.isSome h
  rw [q,x.new] at g; injection g
 have w := Wd.stays H.ok x.st.wd x.fly.1 x.nf x.nx f.lf f.en.lx
 refine ⟨⟨x.st.sub,fun a h => (x.st.new a h).imp id .inl,fun a o g nx na => zdh x.fly.1 (fun q => ?_) (fun q => na (q ▸ .inl rfl)) (x.st.keep a o g nx),x.st.os,w,fun _ h => .inl h⟩,f.stays (fun a o na h g => zdh x.fly.1 (fun q => ?_) na g) (x.up.ns f.en.ns)⟩
 ·rw [q,x.new] at g; injection g
 ·rcases h with h | h
  ·exact x.nf (q ▸ h)
  ·exact nm a h q
noncomputable def tryE (i j : Nat) : S := .sem fun _ ρ => match ρ[i]? with
 | some (.val (.list [])) => some (ρ.set j (.val (.bool false)),.next)
 | _ => none
theorem zj5 {i j : Nat} {ρ' : List Slot} {o : Out} (h : ex cf (tryE i j) ρ = some (ρ',o)) : ρ[i]? = some (.val (.list [])) ∧ ρ' = ρ.set j (.val (.bool false)) ∧ o = .next := by
 replace h := (zjA cf).symm.trans h
 split at h
 ·rename_i e
  injection h with h; injection h with h1 h2
  exact ⟨e,h1.symm,h2.symm⟩
 ·injection h
theorem tryE_ok {i j : Nat} (h : ρ[i]? = some (.val (.list []))) : ex cf (tryE i j) ρ = some (ρ.set j (.val (.bool false)),.next) := by
 refine (zjA cf).trans ?_
 rw [h]
theorem sub_VB : subB "ValueError" (.type "BaseException") = some true := by kernel_rfl
theorem sub_VV : subB "ValueError" (.type "ValueError") = some true := by kernel_rfl
theorem sub_Vt : subB ((Manifest.find? "ValueError").elim "type" fun x => x.metatype) (.type "tuple") = some false := by kernel_rfl
theorem zgi {εc : Sc} {ic : Nat} {fn : Fn} {fd : FuncData} {b1 : Stmt} {test : Expr} {c : Const} {k : Nat} {p1 p2 p3 p4 p5 : Pos} {es rest : List Stmt} {ps : List Str}
  (Fi : FnIs cx εc ic fn fd (b1 :: .If test [.Raise (some (.Call (.Name ("ValueError" : Str) p1) [.Constant c k p2] [] p3)) none p4] es p5 :: rest) ps) (hcok : cx.cok fun _ _ => none)
  {ρ0 ρ1 : List Slot} {st1 : S} {tx : X} {cd : D} (hb : bindD fn [.list []] = some ρ0) (h1 : SoundS cx εc b1 st1) (e1 : ex (fun _ _ => none) st1 ρ0 = some (ρ1,.next)) (h2 : Sound cx εc test tx) (e2 : evT (fun _ _ => none) tx ρ1 = some true)
  (hcd : constD c = some cd) (hv : εc.kinds.lookup ("ValueError" : Str) = some .globalImplicit) (hg : cx.mg ("ValueError" : Str) = none)
  (ht : ε.top = true) {f x g : Str} {i j k' : Nat} {q1 q2 q3 q4 q5 q6 q7 q8 q9 q10 : Pos} (hkf : ε.kinds.lookup f = some .globalImplicit) (hvf : cx.mg f = some (.ref (cx.fa ic))) (hdf : (f == ("__debug__" : Str)) = false)
  (hL : SoundL cx ε [.Name x q2] (.cons (.var i) .nil) false) (hve : ε.kinds.lookup ("ValueError" : Str) = some .globalImplicit) (hxg : ε.vars.lookup g = some j) (hgf : ε.kinds.lookup g ≠ some .free) (hd : dSlot i = false) :
  SoundS cx ε (.Try [.Expr (.Call (.Name f q1) [.Name x q2] [] q3) q4] [.ExceptHandler (some (.Name ("ValueError" : Str) q5)) none [.Assign [.Name g q6] (.Constant (.bool false) k' q7) q8] q9] [] [] q10) (tryE i j) := by
 intro n cf A env F s ρ ad m cm H ρ' o h Q E hQ
 obtain ⟨e0,rfl,rfl⟩ := zj5 h
 obtain ⟨hfr,hloc,n,rfl⟩ := H.top ht
 have hi : interactive env = false := by
  unfold interactive
  rw [H.frm.en.kind]; rfl
 refine wpAny_Try_except (wpAny_execs_cons (wpAny_Expr_any ?_ hi rfl))
 rw [zaw (by intro _ _ _ e; injection e)]
 refine wb (zbj H.here hkf hvf hdf ?_)
 obtain ⟨o,g1,hfd⟩ := Fi.obj
 have ei : ev cf (.cons (.var i) .nil) ρ = some [.val (.list [])] := by
  rw [zdo,zcO,e0]; rfl
 refine Calls.callWith_function (o := o) (fd := fd) (zaO hL H.here ei fun vs F1 s1 st q => ?_)
 obtain ⟨F2,st',_,q'⟩ := zfO H.ok H.wd st (fun _ h => h) q (ds := [.list []]) rfl
 refine ⟨⟨st'.wd.base _ _ g1 Fi.nx,hfd⟩, ?_⟩
 show wpAny _ _ (call (.ref (cx.fa ic)) vs) _ _ s1
 have H1 := H.step st'
 refine wpAny_call (zgQ Fi H.ok (cf := fun _ _ => none) (n := n) ⟨hcok,fun _ _ _ e => nomatch e⟩ hb h1 e1 h2 e2 hcd hv hg H.bud.toBud st'.wd q' hfr hloc H.frm.en.kind H1.frm.en.ns H.frm.en.lx fun F5 s5 h5 e L' a0 fl => ?_)
 show wpAny _ _ (noteFrame (.ref e) env) _ _ _
 refine wpAny_looks_onW hfr hloc fl.fly fun h6 held up6 => wpAny_landsW held fun h7 fly7 up7 => ?_
 have fl7 : Flown cx env F2 F5 s1 s5 h7 e L' a0 := ⟨fl.st,fl.new,fl.nf,fl.nx,fly7,(fl.up.trans up6).trans up7⟩
 obtain ⟨x7,f7⟩ := fl7.back H1
 have H7 := H1.stepS x7 f7
 refine wpAny_handleBy_builtin (X := "ValueError") (T := "ValueError") (b := true) (isSubtype_of_subB sub_VB) (isSubtype_of_subB sub_Vt) (isSubtype_of_subB sub_VV) (zaL H7.here hve hg (by decide) rfl rfl ⟨rfl,fly7.there, ?_⟩)
 show wpAny _ _ (setFlight (.ref e) none) _ _ _
 refine wpAny_setFlight_noneW fly7.1 fly7.2.2.1 fly7.2.2.2.at fun h8 k1 k2 k3 k4 => ?_
 have fl8 : Flown cx env F2 F5 s1 s5 h8 e L' a0 := ⟨fl.st,fl.new,fl.nf,fl.nx,⟨k1,fly7.2.1,k2,k3⟩,fl7.up.trans fun b o hb hn => ⟨o.slots,k4 b o hb hn⟩⟩
 obtain ⟨x8,f8⟩ := fl8.back H1
 have H8 := H1.stepS x8 f8
 refine wpAny_execs_cons (wpAny_Assign_Name (wpAny_pure ?_))
 exact zbv H8 (Step.refl H8.wd) hxg hgf (.bool false) fun s9 m9 cm9 x9 f9 => wpAny_execs_nil (hQ .next _ s9 ad m9 cm9 (((StepS.ofStep st').trans x8).trans x9) f9 .next)
end
theorem Frm.topped {cx : XCx} {ε : Sc} {env : Env} {F : AP} {s : Shared} {ρ : List Slot} {ad : NAd} {m cm : SV} (f : Frm cx ε env F s ρ ad m cm) : Frm cx { ε with top := true } env F s ρ ad m cm :=
 ⟨⟨f.en.kind,f.en.names,f.en.glob,f.en.blt,f.en.code,f.en.lx,f.en.cxx,f.en.ns,f.en.cells,f.en.vars⟩,f.lf,f.cf,f.cinj,f.oinj,f.own⟩
theorem zkI {cx : XCx} (hcx : ∀ T,Inj T → CxOk (cx.withT T)) {ε : Sc} {i i1 : Nat} {fn : Fn} {fd : FuncData} {st1 : Stmt} {rest : List Stmt} {ps : List Str} {sx : S} {n : Nat} {cf : CfT} (X : ∀ T,FnIs (cx.withT T) ε i fn fd (st1 :: rest) ps)
  (hc : ∀ T,Inj T → CallOK (cx.withT T) (n + 1) cf) (h1 : ∀ T,SoundS (cx.withT T) ε st1 (newTok i1 0)) (hs : ∀ T,Inj T → SoundSs (cx.withT T) { ε with top := true } rest sx)
  {ns : List Int} {ρ ρ' : List Slot} (hb : bindD fn [.list (ns.map .int)] = some ρ) (hp : PlainRho ρ) (hn : noApp i1 ρ = true) (hl : i1 < ρ.length)
  (he : ex cf sx (ρ.set i1 (.val (.tok 0))) = some (ρ',.ret (.bool true)))
  {A : Around} {F : AP} {s : Shared} {v : Value} (bud : Bud (n + 1 + 1) A) (hA : A.frames = some []) (w : Wd cx F s) (q : Rep cx.T F s.heap v (.list (ns.map .int))) {Rs : Result → Shared → Prop}
  (hR : ∀ T F' s',Wd (cx.withT T) F' s' → s'.os = s.os → Rs (.ok (.ret (.bool true))) s') (hd1 : dSlot i1 = false := by rfl) : codeAny (model cx.prog cx.w) A (.call (.ref (cx.fa i)) ⟨[v],[]⟩) Rs s := by
 have inj0 : Inj (fun k : Nat => (k : Addr)) := fun i j e => e
 have ok0 := hcx _ inj0
 have w0 : Wd (cx.withT fun k : Nat => (k : Addr)) F s := ⟨w.base,w.xi,w.gens,w.f0,w.lt,w.nx,w.xex⟩
 refine zdZ (cx := cx.withT fun k : Nat => (k : Addr)) (X fun k : Nat => (k : Addr)) ok0 hb bud w0 (.cons (ziI (fun _ h => h) q) .nil) fun A' env F₁ s₁ s₂ m cm Q E O fr => ?_
 refine wpAny_execs_cons ?_
 refine h1 (fun k : Nat => (k : Addr)) (n + 1) cf A' env F₁ s₂ ρ _ m cm ⟨ok0,(X fun k : Nat => (k : Addr)).sc,hc _ inj0,O.bud,O.wd,fr,fun h => nomatch (X fun k : Nat => (k : Addr)).top.symm.trans h⟩ _ _ (zjF hn hd1) _ _ fun f F' s' ad' m' cm' x fr' out => ?_
 cases out
 let T1 : Nat → Addr := tokA (ad' i1)
 have inj1 : Inj T1 := zj6 _
 have hset : ∀ j,slotAt (ρ.set i1 (.own [.str (tokC 0)])) j = if j = i1 then .own [.str (tokC 0)] else slotAt ρ j := fun j => by rw [zaR,if_pos hl]
 have hset' : ∀ j,slotAt (ρ.set i1 (.val (.tok 0))) j = if j = i1 then .val (.tok 0) else slotAt ρ j := fun j => by rw [zaR,if_pos hl]
 obtain ⟨w1,f1⟩ := fr'.retok (T' := T1) (ρ' := ρ.set i1 (.val (.tok 0))) x.wd (fun _ h => h) (fun _ h => .inl h) (ok0.xi _ _ _ _ x.wd.xi (fun _ h => .inl h) fun _ _ _ e => e) fun j => by
  rw [hset,hset']
  by_cases hj : j = i1
  ·subst hj
   rw [if_pos rfl,if_pos rfl]
   exact .inl ⟨0,rfl,rfl,rfl⟩
  ·rw [if_neg hj,if_neg hj]
   exact .inr ⟨hp j,rfl⟩
 refine hs T1 inj1 (n + 1) cf A' env _ s' _ ad' m' cm' ⟨hcx _ inj1,⟨(X T1).sc.inj⟩,hc _ inj1,O.bud,w1,f1.topped,fun _ => ⟨O.fr.trans (by rw [hA]; rfl),O.loc,n,rfl⟩⟩ ρ' _ he _ _ fun f F'' s'' ad'' m'' cm'' x' fr'' out' => ?_
 cases out' with
 | ret r =>
  cases r
  exact O.ret _ _ (hR T1 F'' s'' x'.wd (x'.os.trans (x.os.trans (O.os.trans O.st.os))))
end Mine
end
section
open PySem
namespace Mine
noncomputable def s_escape : S := (.seq (.ite (.op .isInst (.cons (.var 0) (.cons (.const (.ty "str")) .nil))) (.seq (.ret (.op .translate (.cons (.var 0) .nil))) .skip) dead) .skip)
noncomputable def fn_escape : Fn := { np := 1,va := false,ns := 1,body := s_escape }
noncomputable def s_fspath : S := (.seq (.assign 1 (.op .tyOf (.cons (.var 0) .nil))) (.seq (.ite (.op .isSub (.cons (.var 1) (.cons (.tup (.cons (.const (.ty "str")) (.cons (.const (.ty "bytes")) .nil))) .nil))) (.seq (.ret (.var 0)) .skip) .skip) dead))
noncomputable def fn_fspath : Fn := { np := 1,va := false,ns := 4,body := s_fspath }
noncomputable def s_get_sep : S := (.seq (.ite (.op .isInst (.cons (.var 0) (.cons (.const (.ty "bytes")) .nil))) dead (.seq (.ret (.const (.str [47]))) .skip)) .skip)
noncomputable def fn_get_sep : Fn := { np := 1,va := false,ns := 1,body := s_get_sep }
noncomputable def s_join : S := (.seq (.assign 0 (.call 2 (.cons (.var 0) .nil))) (.seq (.assign 2 (.call 3 (.cons (.var 0) .nil))) (.seq (.assign 3 (.var 0)) (.seq (.try_ (.seq (.forE 4 (.seqI (.var 1)) (.seq (.assign 4 (.call 2 (.cons (.var 4) .nil))) (.seq (.ite (.or (.op .startswith (.cons (.var 4) (.cons (.var 2) .nil))) (.not (.var 3))) (.seq (.assign 3 (.var 4)) .skip) (.seq (.ite (.op .endswith (.cons (.var 3) (.cons (.var 2) .nil))) (.seq (.aug 3 (.var 4)) .skip) (.seq (.aug 3 (.op .add (.cons (.var 2) (.cons (.var 4) .nil)))) .skip)) .skip)) .skip))) .skip)) (.seq (.ret (.var 3)) .skip)))))
noncomputable def fn_join : Fn := { np := 1,va := true,ns := 5,body := s_join }
noncomputable def s_split : S := (.seq (.assign 0 (.call 2 (.cons (.var 0) .nil))) (.seq (.assign 1 (.call 3 (.cons (.var 0) .nil))) (.seq (.assign 2 (.op .add (.cons (.op .rfind (.cons (.var 0) (.cons (.var 1) .nil))) (.cons (.const (.int 1)) .nil)))) (.seq (.assign2 3 4 (.tup (.cons (.op .slice (.cons (.var 0) (.cons (.const .none) (.cons (.var 2) .nil)))) (.cons (.op .slice (.cons (.var 0) (.cons (.var 2) (.cons (.const .none) .nil)))) .nil)))) (.seq (.ite (.and (.var 3) (.op .ne (.cons (.var 3) (.cons (.op .mul (.cons (.var 1) (.cons (.op .len (.cons (.var 3) .nil)) .nil))) .nil)))) (.seq (.assign 3 (.op .rstrip (.cons (.var 3) (.cons (.var 1) .nil)))) .skip) .skip) (.seq (.ret (.tup (.cons (.var 3) (.cons (.var 4) .nil)))) .skip))))))
noncomputable def fn_split : Fn := { np := 1,va := false,ns := 5,body := s_split }
noncomputable def s_law_one : S := (.seq (.ite (.or (.op .eq (.cons (.var 0) (.cons (.const (.str [46])) .nil))) (.op .eq (.cons (.var 0) (.cons (.const (.str [40,63,33,41])) .nil)))) (.seq (.ret (.op .eq (.cons (.var 0) (.cons (.const (.str [46])) .nil)))) .skip) .skip) (.seq (.ite (.op .ne (.cons (.op .index (.cons (.var 0) (.cons (.const (.int 0)) .nil))) (.cons (.const (.str [91])) .nil))) (.seq (.ret (.op .eq (.cons (.op .index (.cons (.var 0) (.cons (.op .neg (.cons (.const (.int 1)) .nil)) .nil))) (.cons (.var 1) .nil)))) .skip) .skip) (.seq (.assign 2 (.op .slice (.cons (.var 0) (.cons (.const (.int 1)) (.cons (.op .neg (.cons (.const (.int 1)) .nil)) .nil))))) (.seq (.assign 3 (.op .eq (.cons (.op .index (.cons (.var 2) (.cons (.const (.int 0)) .nil))) (.cons (.const (.str [94])) .nil)))) (.seq (.assign 4 (.ite (.var 3) (.const (.int 1)) (.const (.int 0)))) (.seq (.assign 5 (.const (.bool false))) (.seq (.while (.op .lt (.cons (.var 4) (.cons (.op .len (.cons (.var 2) .nil)) .nil))) (.seq (.ite (.op .eq (.cons (.op .index (.cons (.var 2) (.cons (.var 4) .nil))) (.cons (.const (.str [92])) .nil))) (.seq (.assign 4 (.op .add (.cons (.var 4) (.cons (.const (.int 1)) .nil)))) .skip) .skip) (.seq (.assign 6 (.op .index (.cons (.var 2) (.cons (.var 4) .nil)))) (.seq (.assign 7 (.var 6)) (.seq (.assign 4 (.op .add (.cons (.var 4) (.cons (.const (.int 1)) .nil)))) (.seq (.ite (.and (.op .lt (.cons (.op .add (.cons (.var 4) (.cons (.const (.int 1)) .nil))) (.cons (.op .len (.cons (.var 2) .nil)) .nil))) (.op .eq (.cons (.op .index (.cons (.var 2) (.cons (.var 4) .nil))) (.cons (.const (.str [45])) .nil)))) (.seq (.assign 4 (.op .add (.cons (.var 4) (.cons (.const (.int 1)) .nil)))) (.seq (.ite (.op .eq (.cons (.op .index (.cons (.var 2) (.cons (.var 4) .nil))) (.cons (.const (.str [92])) .nil))) (.seq (.assign 4 (.op .add (.cons (.var 4) (.cons (.const (.int 1)) .nil)))) .skip) .skip) (.seq (.assign 7 (.op .index (.cons (.var 2) (.cons (.var 4) .nil)))) (.seq (.assign 4 (.op .add (.cons (.var 4) (.cons (.const (.int 1)) .nil)))) .skip)))) .skip) (.seq (.ite (.and (.op .le (.cons (.var 6) (.cons (.var 1) .nil))) (.op .le (.cons (.var 1) (.cons (.var 7) .nil)))) (.seq (.assign 5 (.const (.bool true))) .skip) .skip) .skip))))))) (.seq (.ret (.op .ne (.cons (.var 5) (.cons (.var 3) .nil)))) .skip))))))))
noncomputable def fn_law_one : Fn := { np := 2,va := false,ns := 8,body := s_law_one }
noncomputable def s_law_takes : S := (.seq (.assign 3 (.list (.cons (.const (.int 0)) .nil))) (.seq (.forE 4 (.seqI (.var 0)) (.seq (.ite (.op .is_ (.cons (.var 4) (.cons (.var 1) .nil))) (.seq (.assign 3 (.ite (.var 3) (.op .listOf (.cons (.rangeI (.cons (.op .index (.cons (.var 3) (.cons (.const (.int 0)) .nil))) (.cons (.op .add (.cons (.op .len (.cons (.var 2) .nil)) (.cons (.const (.int 1)) .nil))) .nil))) .nil)) (.list .nil))) .skip) (.seq (.assign 3 (.comp 5 (.seqI (.var 3)) (.and (.op .lt (.cons (.var 5) (.cons (.op .len (.cons (.var 2) .nil)) .nil))) (.call 14 (.cons (.var 4) (.cons (.op .index (.cons (.var 2) (.cons (.var 5) .nil))) .nil)))) (.op .add (.cons (.var 5) (.cons (.const (.int 1)) .nil))))) .skip)) .skip)) (.seq (.ret (.op .in_ (.cons (.op .len (.cons (.var 2) .nil)) (.cons (.var 3) .nil)))) .skip)))
noncomputable def fn_law_takes : Fn := { np := 3,va := false,ns := 6,body := s_law_takes }
noncomputable def s_law_means : S := (.seq (.ite (.not (.var 0)) (.seq (.ret (.op .eq (.cons (.var 1) (.cons (.const (.str [])) .nil)))) .skip) .skip) (.seq (.ite (.op .is_ (.cons (.op .index (.cons (.var 0) (.cons (.const (.int 0)) .nil))) (.cons (.const .none) .nil))) (.seq (.ret (.op .ne (.cons (.comp 2 (.rangeI (.cons (.op .add (.cons (.op .len (.cons (.var 1) .nil)) (.cons (.const (.int 1)) .nil))) .nil)) (.call 16 (.cons (.op .slice (.cons (.var 0) (.cons (.const (.int 1)) (.cons (.const .none) .nil)))) (.cons (.op .slice (.cons (.var 1) (.cons (.var 2) (.cons (.const .none) .nil)))) .nil))) (.const (.int 1))) (.cons (.list .nil) .nil)))) .skip) .skip) (.seq (.ret (.and (.op .ne (.cons (.var 1) (.cons (.const (.str [])) .nil))) (.and (.op .in_ (.cons (.op .index (.cons (.var 1) (.cons (.const (.int 0)) .nil))) (.cons (.op .index (.cons (.var 0) (.cons (.const (.int 0)) .nil))) .nil))) (.call 16 (.cons (.op .slice (.cons (.var 0) (.cons (.const (.int 1)) (.cons (.const .none) .nil)))) (.cons (.op .slice (.cons (.var 1) (.cons (.const (.int 1)) (.cons (.const .none) .nil)))) .nil)))))) .skip)))
noncomputable def fn_law_means : Fn := { np := 2,va := false,ns := 3,body := s_law_means }
noncomputable def s_law_dressed : S := (.seq (.assign 1 (.tup (.cons (.tup (.cons (.const (.str [42])) (.cons (.list (.cons (.const .none) .nil)) .nil))) (.cons (.tup (.cons (.const (.str [97])) (.cons (.list (.cons (.const (.str [97])) .nil)) .nil))) (.cons (.tup (.cons (.const (.str [97,42])) (.cons (.list (.cons (.const (.str [97])) (.cons (.const .none) .nil))) .nil))) (.cons (.tup (.cons (.const (.str [63])) (.cons (.list (.cons (.const (.str [46,97,98])) .nil)) .nil))) (.cons (.tup (.cons (.const (.str [91,33,97,93,42])) (.cons (.list (.cons (.const (.str [46,98])) (.cons (.const .none) .nil))) .nil))) (.cons (.tup (.cons (.const (.str [42,98])) (.cons (.list (.cons (.const .none) (.cons (.const (.str [98])) .nil))) .nil))) (.cons (.tup (.cons (.const (.str [91,46,45,97,93,63])) (.cons (.list (.cons (.const (.str [46,97])) (.cons (.const (.str [46,97,98])) .nil))) .nil))) (.cons (.tup (.cons (.const (.str [46,42])) (.cons (.list (.cons (.const (.str [46])) (.cons (.const .none) .nil))) .nil))) (.cons (.tup (.cons (.const (.str [91,98,45,97,93])) (.cons (.list (.cons (.const (.str [])) .nil)) .nil))) (.cons (.tup (.cons (.const (.str [91,33,98,45,97,93,98])) (.cons (.list (.cons (.const (.str [46,97,98])) (.cons (.const (.str [98])) .nil))) .nil))) (.cons (.tup (.cons (.const (.str [98])) (.cons (.list (.cons (.const (.str [98])) .nil)) .nil))) (.cons (.tup (.cons (.const (.str [42,91,97,98,93])) (.cons (.list (.cons (.const .none) (.cons (.const (.str [97,98])) .nil))) .nil))) (.cons (.tup (.cons (.const (.str [97,63,98])) (.cons (.list (.cons (.const (.str [97])) (.cons (.const (.str [46,97,98])) (.cons (.const (.str [98])) .nil)))) .nil))) .nil))))))))))))))) (.seq (.ret (.op .index (.cons (.var 1) (.cons (.op .mod (.cons (.var 0) (.cons (.const (.int 13)) .nil))) .nil)))) .skip))
noncomputable def fn_law_dressed : Fn := { np := 1,va := false,ns := 2,body := s_law_dressed }
noncomputable def s_commonpath : S := (.seq (.assign 0 (.mapF 2 (.var 0))) (.seq (.ite (.not (.var 0)) dead .skip) (.seq (.ite (.op .isInst (.cons (.op .index (.cons (.var 0) (.cons (.const (.int 0)) .nil))) (.cons (.const (.ty "bytes")) .nil))) dead (.seq (.assign 1 (.const (.str [47]))) (.seq (.assign 2 (.const (.str [46]))) .skip))) (.seq (.try_ (.seq (.assign 3 (.comp 11 (.seqI (.var 0)) (.const (.bool true)) (.op .split (.cons (.var 11) (.cons (.var 1) .nil))))) (.seq (.try_ (.seq (.assign 4 (.setI 12 (.seqI (.var 0)) (.op .startswith (.cons (.var 12) (.cons (.var 1) .nil))))) .skip)) (.seq (.assign 3 (.comp 13 (.seqI (.var 3)) (.const (.bool true)) (.comp 14 (.seqI (.var 13)) (.and (.var 14) (.op .ne (.cons (.var 14) (.cons (.var 2) .nil)))) (.var 14)))) (.seq (.assign 6 (.op .min (.cons (.var 3) .nil))) (.seq (.assign 7 (.op .max (.cons (.var 3) .nil))) (.seq (.assign 8 (.var 6)) (.seq (.forE2 9 5 (.enumI (.var 6)) (.seq (.ite (.op .ne (.cons (.var 5) (.cons (.op .index (.cons (.var 7) (.cons (.var 9) .nil))) .nil))) (.seq (.assign 8 (.op .slice (.cons (.var 6) (.cons (.const .none) (.cons (.var 9) .nil))))) (.seq .brk .skip)) .skip) .skip)) (.seq (.assign 10 (.ite (.var 4) (.var 1) (.op .slice (.cons (.var 1) (.cons (.const .none) (.cons (.const (.int 0)) .nil)))))) (.seq (.ret (.op .add (.cons (.var 10) (.cons (.op .join (.cons (.var 1) (.cons (.var 8) .nil))) .nil)))) .skip)))))))))) .skip))))
noncomputable def fn_commonpath : Fn := { np := 1,va := false,ns := 15,body := s_commonpath }
noncomputable def s_splitroot : S := (.seq (.assign 0 (.call 2 (.cons (.var 0) .nil))) (.seq (.ite (.op .isInst (.cons (.var 0) (.cons (.const (.ty "bytes")) .nil))) dead (.seq (.assign 1 (.const (.str [47]))) (.seq (.assign 2 (.const (.str []))) .skip))) (.seq (.ite (.op .ne (.cons (.op .slice (.cons (.var 0) (.cons (.const .none) (.cons (.const (.int 1)) .nil)))) (.cons (.var 1) .nil))) (.seq (.ret (.tup (.cons (.var 2) (.cons (.var 2) (.cons (.var 0) .nil))))) .skip) (.seq (.ite (.or (.op .ne (.cons (.op .slice (.cons (.var 0) (.cons (.const (.int 1)) (.cons (.const (.int 2)) .nil)))) (.cons (.var 1) .nil))) (.op .eq (.cons (.op .slice (.cons (.var 0) (.cons (.const (.int 2)) (.cons (.const (.int 3)) .nil)))) (.cons (.var 1) .nil)))) (.seq (.ret (.tup (.cons (.var 2) (.cons (.var 1) (.cons (.op .slice (.cons (.var 0) (.cons (.const (.int 1)) (.cons (.const .none) .nil)))) .nil))))) .skip) (.seq (.ret (.tup (.cons (.var 2) (.cons (.op .slice (.cons (.var 0) (.cons (.const .none) (.cons (.const (.int 2)) .nil)))) (.cons (.op .slice (.cons (.var 0) (.cons (.const (.int 2)) (.cons (.const .none) .nil)))) .nil))))) .skip)) .skip)) .skip)))
noncomputable def fn_splitroot : Fn := { np := 1,va := false,ns := 3,body := s_splitroot }
noncomputable def s_normpath : S := (.seq (.assign 0 (.call 2 (.cons (.var 0) .nil))) (.seq (.ite (.op .isInst (.cons (.var 0) (.cons (.const (.ty "bytes")) .nil))) dead (.seq (.assign 1 (.const (.str [47]))) (.seq (.assign 2 (.const (.str [46]))) (.seq (.assign 3 (.const (.str [46,46]))) .skip)))) (.seq (.ite (.not (.var 0)) (.seq (.ret (.var 2)) .skip) .skip) (.seq (.assign3 4 5 0 (.call 7 (.cons (.var 0) .nil))) (.seq (.assign 6 (.op .split (.cons (.var 0) (.cons (.var 1) .nil)))) (.seq (.assignO 7 (.list .nil)) (.seq (.forE 8 (.seqI (.var 6)) (.seq (.ite (.or (.not (.var 8)) (.op .eq (.cons (.var 8) (.cons (.var 2) .nil)))) (.seq .cont .skip) .skip) (.seq (.ite (.or (.op .ne (.cons (.var 8) (.cons (.var 3) .nil))) (.or (.and (.not (.var 5)) (.not (.var 7))) (.and (.var 7) (.op .eq (.cons (.op .index (.cons (.var 7) (.cons (.op .neg (.cons (.const (.int 1)) .nil)) .nil))) (.cons (.var 3) .nil)))))) (.seq (.append 7 (.var 8)) .skip) (.seq (.ite (.var 7) (.seq (.pop 7) .skip) .skip) .skip)) .skip))) (.seq (.seq (.fz 7) (.assign 6 (.var 7))) (.seq (.assign 0 (.op .add (.cons (.var 5) (.cons (.op .join (.cons (.var 1) (.cons (.var 6) .nil))) .nil)))) (.seq (.ret (.or (.var 0) (.var 2))) .skip))))))))))
noncomputable def fn_normpath : Fn := { np := 1,va := false,ns := 9,body := s_normpath }
noncomputable def s_abspath : S := (.seq (.assign 0 (.call 2 (.cons (.var 0) .nil))) (.seq (.ite (.op .isInst (.cons (.var 0) (.cons (.const (.ty "bytes")) .nil))) dead (.seq (.ite (.not (.op .startswith (.cons (.var 0) (.cons (.const (.str [47])) .nil)))) dead .skip) .skip)) (.seq (.ret (.call 9 (.cons (.var 0) .nil))) .skip)))
noncomputable def fn_abspath : Fn := { np := 1,va := false,ns := 1,body := s_abspath }
noncomputable def s_relpath : S := (.seq (.assign 0 (.call 2 (.cons (.var 0) .nil))) (.seq (.ite (.not (.var 0)) dead .skip) (.seq (.ite (.op .isInst (.cons (.var 0) (.cons (.const (.ty "bytes")) .nil))) dead (.seq (.assign 2 (.const (.str [46]))) (.seq (.assign 3 (.const (.str [47]))) (.seq (.assign 4 (.const (.str [46,46]))) .skip)))) (.seq (.ite (.op .is_ (.cons (.var 1) (.cons (.const .none) .nil))) (.seq (.assign 1 (.var 2)) .skip) (.seq (.assign 1 (.call 2 (.cons (.var 1) .nil))) .skip)) (.seq (.try_ (.seq (.assign 5 (.op .lstrip (.cons (.call 10 (.cons (.var 1) .nil)) (.cons (.var 3) .nil)))) (.seq (.assign 6 (.op .lstrip (.cons (.call 10 (.cons (.var 0) .nil)) (.cons (.var 3) .nil)))) (.seq (.assign 7 (.ite (.var 5) (.op .split (.cons (.var 5) (.cons (.var 3) .nil))) (.list .nil))) (.seq (.assign 8 (.ite (.var 6) (.op .split (.cons (.var 6) (.cons (.var 3) .nil))) (.list .nil))) (.seq (.assign 9 (.op .len (.cons (.call 12 (.cons (.list (.cons (.var 7) (.cons (.var 8) .nil))) .nil)) .nil))) (.seq (.assign 10 (.op .add (.cons (.op .mul (.cons (.list (.cons (.var 4) .nil)) (.cons (.op .sub (.cons (.op .len (.cons (.var 7) .nil)) (.cons (.var 9) .nil))) .nil))) (.cons (.op .slice (.cons (.var 8) (.cons (.var 9) (.cons (.const .none) .nil)))) .nil)))) (.seq (.ite (.not (.var 10)) (.seq (.ret (.var 2)) .skip) .skip) (.seq (.ret (.op .join (.cons (.var 3) (.cons (.var 10) .nil)))) .skip))))))))) .skip)))))
noncomputable def fn_relpath : Fn := { np := 2,va := false,ns := 11,body := s_relpath }
noncomputable def s_commonprefix : S := (.seq (.ite (.not (.var 0)) (.seq (.ret (.const (.str []))) .skip) .skip) (.seq (.ite (.not (.op .isInst (.cons (.op .index (.cons (.var 0) (.cons (.const (.int 0)) .nil))) (.cons (.tup (.cons (.const (.ty "list")) (.cons (.const (.ty "tuple")) .nil))) .nil)))) dead .skip) (.seq (.assign 1 (.op .min (.cons (.var 0) .nil))) (.seq (.assign 2 (.op .max (.cons (.var 0) .nil))) (.seq (.forE2 3 4 (.enumI (.var 1)) (.seq (.ite (.op .ne (.cons (.var 4) (.cons (.op .index (.cons (.var 2) (.cons (.var 3) .nil))) .nil))) (.seq (.ret (.op .slice (.cons (.var 1) (.cons (.const .none) (.cons (.var 3) .nil))))) .skip) .skip) .skip)) (.seq (.ret (.var 1)) .skip))))))
noncomputable def fn_commonprefix : Fn := { np := 1,va := false,ns := 5,body := s_commonprefix }
noncomputable def s_translate9 : S := (.seq (.assignO 3 (.list .nil)) (.seq (.alias 4 3) (.seq (.assign2 5 6 (.tup (.cons (.const (.int 0)) (.cons (.op .len (.cons (.var 0) .nil)) .nil)))) (.seq (.while (.op .lt (.cons (.var 5) (.cons (.var 6) .nil))) (.seq (.assign 7 (.op .index (.cons (.var 0) (.cons (.var 5) .nil)))) (.seq (.assign 5 (.op .add (.cons (.var 5) (.cons (.const (.int 1)) .nil)))) (.seq (.ite (.op .eq (.cons (.var 7) (.cons (.const (.str [42])) .nil))) (.seq (.ite (.or (.not (.var 3)) (.op .isnot (.cons (.op .index (.cons (.var 3) (.cons (.op .neg (.cons (.const (.int 1)) .nil)) .nil))) (.cons (.var 1) .nil)))) (.seq (.appendVia 4 3 (.var 1)) .skip) .skip) .skip) (.seq (.ite (.op .eq (.cons (.var 7) (.cons (.const (.str [63])) .nil))) (.seq (.appendVia 4 3 (.var 2)) .skip) (.seq (.ite (.op .eq (.cons (.var 7) (.cons (.const (.str [91])) .nil))) (.seq (.assign 8 (.var 5)) (.seq (.ite (.and (.op .lt (.cons (.var 8) (.cons (.var 6) .nil))) (.op .eq (.cons (.op .index (.cons (.var 0) (.cons (.var 8) .nil))) (.cons (.const (.str [33])) .nil)))) (.seq (.assign 8 (.op .add (.cons (.var 8) (.cons (.const (.int 1)) .nil)))) .skip) .skip) (.seq (.ite (.and (.op .lt (.cons (.var 8) (.cons (.var 6) .nil))) (.op .eq (.cons (.op .index (.cons (.var 0) (.cons (.var 8) .nil))) (.cons (.const (.str [93])) .nil)))) (.seq (.assign 8 (.op .add (.cons (.var 8) (.cons (.const (.int 1)) .nil)))) .skip) .skip) (.seq (.while (.and (.op .lt (.cons (.var 8) (.cons (.var 6) .nil))) (.op .ne (.cons (.op .index (.cons (.var 0) (.cons (.var 8) .nil))) (.cons (.const (.str [93])) .nil)))) (.seq (.assign 8 (.op .add (.cons (.var 8) (.cons (.const (.int 1)) .nil)))) .skip)) (.seq (.ite (.op .ge (.cons (.var 8) (.cons (.var 6) .nil))) (.seq (.appendVia 4 3 (.const (.str [92,91]))) .skip) (.seq (.assign 9 (.op .slice (.cons (.var 0) (.cons (.var 5) (.cons (.var 8) .nil))))) (.seq (.ite (.op .notin (.cons (.const (.str [45])) (.cons (.var 9) .nil))) (.seq (.assign 9 (.op .replace (.cons (.var 9) (.cons (.const (.str [92])) (.cons (.const (.str [92,92])) .nil))))) .skip) (.seq (.assignO 10 (.list .nil)) (.seq (.assign 11 (.ite (.op .eq (.cons (.op .index (.cons (.var 0) (.cons (.var 5) .nil))) (.cons (.const (.str [33])) .nil))) (.op .add (.cons (.var 5) (.cons (.const (.int 2)) .nil))) (.op .add (.cons (.var 5) (.cons (.const (.int 1)) .nil))))) (.seq (.while (.const (.bool true)) (.seq (.assign 11 (.op .find4 (.cons (.var 0) (.cons (.const (.str [45])) (.cons (.var 11) (.cons (.var 8) .nil)))))) (.seq (.ite (.op .lt (.cons (.var 11) (.cons (.const (.int 0)) .nil))) (.seq .brk .skip) .skip) (.seq (.append 10 (.op .slice (.cons (.var 0) (.cons (.var 5) (.cons (.var 11) .nil))))) (.seq (.assign 5 (.op .add (.cons (.var 11) (.cons (.const (.int 1)) .nil)))) (.seq (.assign 11 (.op .add (.cons (.var 11) (.cons (.const (.int 3)) .nil)))) .skip)))))) (.seq (.assign 12 (.op .slice (.cons (.var 0) (.cons (.var 5) (.cons (.var 8) .nil))))) (.seq (.ite (.var 12) (.seq (.append 10 (.var 12)) .skip) dead) (.seq (.forE 11 (.rangeI (.cons (.op .sub (.cons (.op .len (.cons (.var 10) .nil)) (.cons (.const (.int 1)) .nil))) (.cons (.const (.int 0)) (.cons (.op .neg (.cons (.const (.int 1)) .nil)) .nil)))) (.seq (.ite (.op .gt (.cons (.op .index (.cons (.op .index (.cons (.var 10) (.cons (.op .sub (.cons (.var 11) (.cons (.const (.int 1)) .nil))) .nil))) (.cons (.op .neg (.cons (.const (.int 1)) .nil)) .nil))) (.cons (.op .index (.cons (.op .index (.cons (.var 10) (.cons (.var 11) .nil))) (.cons (.const (.int 0)) .nil))) .nil))) (.seq (.setItem 10 (.op .sub (.cons (.var 11) (.cons (.const (.int 1)) .nil))) (.op .add (.cons (.op .slice (.cons (.op .index (.cons (.var 10) (.cons (.op .sub (.cons (.var 11) (.cons (.const (.int 1)) .nil))) .nil))) (.cons (.const .none) (.cons (.op .neg (.cons (.const (.int 1)) .nil)) .nil)))) (.cons (.op .slice (.cons (.op .index (.cons (.var 10) (.cons (.var 11) .nil))) (.cons (.const (.int 1)) (.cons (.const .none) .nil)))) .nil)))) (.seq (.delItem 10 (.var 11)) .skip)) .skip) .skip)) (.seq (.seq (.fz 10) (.assign 9 (.op .join (.cons (.const (.str [45])) (.cons (.comp 13 (.seqI (.var 10)) (.const (.bool true)) (repX 13 [92] [92,92] [45] [92,45])) .nil))))) .skip)))))))) (.seq (.assign 9 (.op .resub0 (.cons (.var 9) .nil))) (.seq (.assign 5 (.op .add (.cons (.var 8) (.cons (.const (.int 1)) .nil)))) (.seq (.ite (.not (.var 9)) (.seq (.appendVia 4 3 (.const (.str [40,63,33,41]))) .skip) (.seq (.ite (.op .eq (.cons (.var 9) (.cons (.const (.str [33])) .nil))) (.seq (.appendVia 4 3 (.const (.str [46]))) .skip) (.seq (.ite (.op .eq (.cons (.op .index (.cons (.var 9) (.cons (.const (.int 0)) .nil))) (.cons (.const (.str [33])) .nil))) (.seq (.assign 9 (.op .add (.cons (.const (.str [94])) (.cons (.op .slice (.cons (.var 9) (.cons (.const (.int 1)) (.cons (.const .none) .nil)))) .nil)))) .skip) (.seq (.ite (.op .in_ (.cons (.op .index (.cons (.var 9) (.cons (.const (.int 0)) .nil))) (.cons (.tup (.cons (.const (.str [94])) (.cons (.const (.str [91])) .nil))) .nil))) (.seq (.assign 9 (.op .add (.cons (.const (.str [92])) (.cons (.var 9) .nil)))) .skip) .skip) .skip)) (.seq (.appendVia 4 3 (.op .fmt (.cons (.const (.str [91])) (.cons (.var 9) (.cons (.const (.str [93])) .nil))))) .skip))) .skip)) .skip)))))) .skip))))) (.seq (.appendVia 4 3 (.call 0 (.cons (.var 7) .nil))) .skip)) .skip)) .skip)) .skip)))) (.seq (.assert (.op .eq (.cons (.var 5) (.cons (.var 6) .nil)))) (.seq (.seq (.fz 3) (.ret (.var 3))) .skip))))))
noncomputable def fn_translate9 : Fn := { np := 3,va := false,ns := 14,body := s_translate9 }
noncomputable def s_law : S := (.seq (.assign 2 (.list (.cons (.const (.str [97])) (.cons (.const (.str [98])) (.cons (.const (.str [46,97])) (.cons (.const (.str [97,98])) .nil)))))) (.seq (.forE 3 (.rangeI (.cons (.const (.int 3)) .nil)) (.seq (.assign 4 (.op .add (.cons (.op .abs (.cons (.op .sum (.cons (.op .slice3 (.cons (.var 0) (.cons (.var 3) (.cons (.const .none) (.cons (.const (.int 3)) .nil))))) .nil)) .nil)) (.cons (.op .index (.cons (.tup (.cons (.const (.int 89)) (.cons (.const (.int 98)) (.cons (.const (.int 3102)) .nil)))) (.cons (.var 3) .nil))) .nil)))) (.seq (.assign 5 (.ite (.op .eq (.cons (.op .mod (.cons (.var 4) (.cons (.const (.int 2)) .nil))) (.cons (.const (.int 1)) .nil))) (.const (.str [47])) (.const (.str [])))) (.seq (.assign 4 (.op .fdiv (.cons (.var 4) (.cons (.const (.int 2)) .nil)))) (.seq (.assignO 6 (.list .nil)) (.seq (.forE 7 (.rangeI (.cons (.op .add (.cons (.const (.int 1)) (.cons (.op .mod (.cons (.var 4) (.cons (.const (.int 3)) .nil))) .nil))) .nil)) (.seq (.assign 4 (.op .fdiv (.cons (.var 4) (.cons (.const (.int 3)) .nil)))) (.seq (.append 6 (.call 17 (.cons (.var 4) .nil))) .skip))) (.seq (.assign 8 (.list (.cons (.const (.str [])) .nil))) (.seq (.assign 9 (.list .nil)) (.seq (.assign 10 (.const (.bool false))) (.seq (.assign 11 (.const (.int 1))) (.seq (.forE2 12 13 (.seqI (.op .slice3 (.cons (.var 6) (.cons (.const .none) (.cons (.const .none) (.cons (.op .neg (.cons (.const (.int 1)) .nil)) .nil)))))) (.seq (.assign 14 (.call 1 (.cons (.var 12) (.cons (.var 1) (.cons (.const (.str [46])) .nil))))) (.seq (.assign 15 (.comp 25 (.seqI (.var 2)) (.call 15 (.cons (.var 14) (.cons (.var 1) (.cons (.var 25) .nil)))) (.var 25))) (.seq (.assign 8 (.comp3 26 (.seqI (.var 15)) 27 (.seqI (.var 8)) (.ite (.op .ne (.cons (.var 27) (.cons (.const (.str [])) .nil))) (.call 4 (.cons (.var 26) (.cons (.var 27) .nil))) (.var 26)))) .skip)))) (.seq (.seq (.fz 6) (.forE2 12 13 (.seqI (.var 6)) (.seq (.assign 17 (.comp 28 (.seqI (.var 2)) (.call 16 (.cons (.var 13) (.cons (.var 28) .nil))) (.var 28))) (.seq (.assign 11 (.op .mul (.cons (.var 11) (.cons (.op .len (.cons (.var 17) .nil)) .nil)))) (.seq (.ite (.op .gt (.cons (.op .len (.cons (.var 17) .nil)) (.cons (.const (.int 1)) .nil))) (.seq (.assign 10 (.const (.bool true))) .skip) (.seq (.ite (.not (.var 10)) (.seq (.assign 9 (.op .add (.cons (.var 9) (.cons (.var 17) .nil)))) .skip) .skip) .skip)) .skip))))) (.seq (.ite (.op .ne (.cons (.op .len (.cons (.var 8) .nil)) (.cons (.var 11) .nil))) (.seq (.ret (.const (.bool false))) .skip) .skip) (.seq (.assign 8 (.comp 29 (.seqI (.var 8)) (.const (.bool true)) (.op .add (.cons (.var 5) (.cons (.var 29) .nil))))) (.seq (.ite (.op .eq (.cons (.var 11) (.cons (.const (.int 0)) .nil))) (.seq (.assign 18 (.const (.bool true))) (.seq (tryE 8 18) (.seq (.ite (.var 18) (.seq (.ret (.const (.bool false))) .skip) .skip) .skip))) (.seq (.assign 19 (.op .add (.cons (.var 5) (.cons (.op .join (.cons (.const (.str [47])) (.cons (.var 9) .nil))) .nil)))) (.seq (.ite (.or (.op .ne (.cons (.call 13 (.cons (.var 8) .nil)) (.cons (.var 19) .nil))) (.op .ne (.cons (.call 13 (.cons (.op .slice3 (.cons (.var 8) (.cons (.const .none) (.cons (.const .none) (.cons (.op .neg (.cons (.const (.int 1)) .nil)) .nil))))) .nil)) (.cons (.var 19) .nil)))) (.seq (.ret (.const (.bool false))) .skip) .skip) (.seq (.ite (.op .ne (.cons (.call 13 (.cons (.op .add (.cons (.op .add (.cons (.op .slice (.cons (.var 8) (.cons (.const .none) (.cons (.const (.int 2)) .nil)))) (.cons (.var 8) .nil))) (.cons (.list (.cons (.op .add (.cons (.op .index (.cons (.var 8) (.cons (.op .neg (.cons (.const (.int 1)) .nil)) .nil))) (.cons (.const (.str [47])) .nil))) (.cons (.op .add (.cons (.op .index (.cons (.var 8) (.cons (.const (.int 0)) .nil))) (.cons (.const (.str [47,46])) .nil))) .nil))) .nil))) .nil)) (.cons (.var 19) .nil))) (.seq (.ret (.const (.bool false))) .skip) .skip) (.seq (.forE 16 (.seqI (.op .slice (.cons (.var 8) (.cons (.const .none) (.cons (.const (.int 12)) .nil))))) (.seq (.assign 20 (.op .split (.cons (.op .slice (.cons (.var 16) (.cons (.op .len (.cons (.var 5) .nil)) (.cons (.const .none) .nil)))) (.cons (.const (.str [47])) .nil)))) (.seq (.ite (.or (.op .ne (.cons (.call 7 (.cons (.var 16) .nil)) (.cons (.tup (.cons (.const (.str [])) (.cons (.var 5) (.cons (.op .join (.cons (.const (.str [47])) (.cons (.var 20) .nil))) .nil)))) .nil))) (.op .ne (.cons (.call 9 (.cons (.var 16) .nil)) (.cons (.var 16) .nil)))) (.seq (.ret (.const (.bool false))) .skip) .skip) (.seq (.ite (.op .ne (.cons (.call 5 (.cons (.var 16) .nil)) (.cons (.tup (.cons (.ite (.op .eq (.cons (.var 5) (.cons (.const (.str [])) .nil))) (.op .join (.cons (.const (.str [47])) (.cons (.op .slice (.cons (.var 20) (.cons (.const .none) (.cons (.op .neg (.cons (.const (.int 1)) .nil)) .nil)))) .nil))) (.op .add (.cons (.const (.str [47])) (.cons (.op .join (.cons (.const (.str [47])) (.cons (.op .slice (.cons (.var 20) (.cons (.const .none) (.cons (.op .neg (.cons (.const (.int 1)) .nil)) .nil)))) .nil))) .nil)))) (.cons (.op .index (.cons (.var 20) (.cons (.op .neg (.cons (.const (.int 1)) .nil)) .nil))) .nil))) .nil))) (.seq (.ret (.const (.bool false))) .skip) .skip) .skip)))) (.seq (.assign 21 (.op .split (.cons (.op .slice (.cons (.op .index (.cons (.var 8) (.cons (.const (.int 0)) .nil))) (.cons (.op .len (.cons (.var 5) .nil)) (.cons (.const .none) .nil)))) (.cons (.const (.str [47])) .nil)))) (.seq (.assign 22 (.op .split (.cons (.op .slice (.cons (.op .index (.cons (.var 8) (.cons (.op .neg (.cons (.const (.int 1)) .nil)) .nil))) (.cons (.op .len (.cons (.var 5) .nil)) (.cons (.const .none) .nil)))) (.cons (.const (.str [47])) .nil)))) (.seq (.assign 23 (.const (.int 0))) (.seq (.while (.and (.op .lt (.cons (.var 23) (.cons (.op .len (.cons (.var 21) .nil)) .nil))) (.op .eq (.cons (.op .index (.cons (.var 21) (.cons (.var 23) .nil))) (.cons (.op .index (.cons (.var 22) (.cons (.var 23) .nil))) .nil)))) (.seq (.assign 23 (.op .add (.cons (.var 23) (.cons (.const (.int 1)) .nil)))) .skip)) (.seq (.assign 24 (.or (.op .join (.cons (.const (.str [47])) (.cons (.op .add (.cons (.op .mul (.cons (.list (.cons (.const (.str [46,46])) .nil)) (.cons (.op .sub (.cons (.op .len (.cons (.var 21) .nil)) (.cons (.var 23) .nil))) .nil))) (.cons (.op .slice (.cons (.var 22) (.cons (.var 23) (.cons (.const .none) .nil)))) .nil))) .nil))) (.const (.str [46])))) (.seq (.ite (.op .ne (.cons (.call 11 (.cons (.op .add (.cons (.const (.str [47])) (.cons (.op .join (.cons (.const (.str [47])) (.cons (.var 22) .nil))) .nil))) (.cons (.op .add (.cons (.const (.str [47])) (.cons (.op .join (.cons (.const (.str [47])) (.cons (.var 21) .nil))) .nil))) .nil))) (.cons (.var 24) .nil))) (.seq (.ret (.const (.bool false))) .skip) .skip) .skip))))))))))) .skip))))))))))))))) (.seq (.ret (.const (.bool true))) .skip)))
noncomputable def fn_law : Fn := { np := 1,va := false,ns := 30,body := s_law }
end Mine
end
section W09x
open PySem PySem.Calls PyProof.Rows PySem.Builtin.Str
set_option maxHeartbeats 4000000
namespace Mine
open PySem.Str renaming ofString → os
noncomputable abbrev NN (x : String) : Prop := (os x == os "__classdict__") = false ∧ (os x == os "__debug__") = false
noncomputable abbrev VL (s : Sc) (x : String) (i : Nat) : Prop := s.vars.lookup (os x) = some i
noncomputable abbrev KL (s : Sc) (x : String) (k : NameKind) : Prop := s.kinds.lookup (os x) = some k
theorem nLoc {s : Sc} {x : String} (h : KL s x .local) : s.kinds.lookup (os x) ≠ some .free := nfree h
theorem sVar {cx : XCx} {s : Sc} {x : String} {i : Nat} {pos : Pos} (h : VL s x i) (n : NN x) : Sound cx s (.Name (os x) pos) (.var i) := ziy h n.1 n.2
theorem zdb : NN "QUESTION_MARK" := ⟨rfl,rfl⟩
theorem zi6 : NN "STAR" := ⟨rfl,rfl⟩
theorem nn_a : NN "a" := ⟨rfl,rfl⟩
theorem nn_add : NN "add" := ⟨rfl,rfl⟩
theorem zhh : NN "alike" := ⟨rfl,rfl⟩
theorem nn_at : NN "at" := ⟨rfl,rfl⟩
theorem nn_b : NN "b" := ⟨rfl,rfl⟩
theorem zfE : NN "barred" := ⟨rfl,rfl⟩
theorem zbK : NN "body" := ⟨rfl,rfl⟩
theorem nn_c : NN "c" := ⟨rfl,rfl⟩
theorem zhg : NN "chunk" := ⟨rfl,rfl⟩
theorem nn_chunks : NN "chunks" := ⟨rfl,rfl⟩
theorem nn_code : NN "code" := ⟨rfl,rfl⟩
theorem zi5 : NN "common" := ⟨rfl,rfl⟩
theorem ze7 : NN "comp" := ⟨rfl,rfl⟩
theorem zhf : NN "comps" := ⟨rfl,rfl⟩
theorem ze6 : NN "count" := ⟨rfl,rfl⟩
theorem zdN : NN "curdir" := ⟨rfl,rfl⟩
theorem zi4 : NN "dot" := ⟨rfl,rfl⟩
theorem zfD : NN "dotdot" := ⟨rfl,rfl⟩
theorem nn_due : NN "due" := ⟨rfl,rfl⟩
theorem zdl : NN "empty" := ⟨rfl,rfl⟩
theorem zhe : NN "found" := ⟨rfl,rfl⟩
theorem zdM : NN "head" := ⟨rfl,rfl⟩
theorem nn_high : NN "high" := ⟨rfl,rfl⟩
theorem nn_i : NN "i" := ⟨rfl,rfl⟩
theorem zbo : NN "initial_slashes" := ⟨rfl,rfl⟩
theorem zkz : NN "isabs" := ⟨rfl,rfl⟩
theorem zcv : NN "items" := ⟨rfl,rfl⟩
theorem nn_j : NN "j" := ⟨rfl,rfl⟩
theorem nn_k : NN "k" := ⟨rfl,rfl⟩
theorem nn_kind : NN "kind" := ⟨rfl,rfl⟩
theorem zgB : NN "last" := ⟨rfl,rfl⟩
theorem zdL : NN "left" := ⟨rfl,rfl⟩
theorem zlh : NN "low" := ⟨rfl,rfl⟩
theorem nn_m : NN "m" := ⟨rfl,rfl⟩
theorem zky : NN "means" := ⟨rfl,rfl⟩
theorem ze5 : NN "meant" := ⟨rfl,rfl⟩
theorem nn_n : NN "n" := ⟨rfl,rfl⟩
theorem zbt : NN "name" := ⟨rfl,rfl⟩
theorem zdk : NN "names" := ⟨rfl,rfl⟩
theorem nn_new_comps : NN "new_comps" := ⟨rfl,rfl⟩
theorem zhd : NN "one" := ⟨rfl,rfl⟩
theorem nn_p : NN "p" := ⟨rfl,rfl⟩
theorem zi3 : NN "pardir" := ⟨rfl,rfl⟩
theorem zbJ : NN "part" := ⟨rfl,rfl⟩
theorem zi2 : NN "parted" := ⟨rfl,rfl⟩
theorem zhc : NN "parts" := ⟨rfl,rfl⟩
theorem zb3 : NN "pat" := ⟨rfl,rfl⟩
theorem nn_path : NN "path" := ⟨rfl,rfl⟩
theorem zc4 : NN "path_list" := ⟨rfl,rfl⟩
theorem zc3 : NN "path_tail" := ⟨rfl,rfl⟩
theorem zaH : NN "paths" := ⟨rfl,rfl⟩
theorem zeE : NN "pattern" := ⟨rfl,rfl⟩
theorem nn_pieces : NN "pieces" := ⟨rfl,rfl⟩
theorem zi1 : NN "prefix" := ⟨rfl,rfl⟩
theorem zdK : NN "rel_list" := ⟨rfl,rfl⟩
theorem nn_res : NN "res" := ⟨rfl,rfl⟩
theorem zca : NN "root" := ⟨rfl,rfl⟩
theorem nn_s : NN "s" := ⟨rfl,rfl⟩
theorem nn_s1 : NN "s1" := ⟨rfl,rfl⟩
theorem nn_s2 : NN "s2" := ⟨rfl,rfl⟩
theorem zcJ : NN "same" := ⟨rfl,rfl⟩
theorem zi0 : NN "script" := ⟨rfl,rfl⟩
theorem zaV : NN "sep" := ⟨rfl,rfl⟩
theorem zgA : NN "sign" := ⟨rfl,rfl⟩
theorem zbs : NN "split_paths" := ⟨rfl,rfl⟩
theorem zgz : NN "star" := ⟨rfl,rfl⟩
theorem ze4 : NN "start" := ⟨rfl,rfl⟩
theorem zcu : NN "start_list" := ⟨rfl,rfl⟩
theorem zct : NN "start_tail" := ⟨rfl,rfl⟩
theorem za7 : NN "stuff" := ⟨rfl,rfl⟩
theorem nn_tail : NN "tail" := ⟨rfl,rfl⟩
theorem zkx : NN "taken" := ⟨rfl,rfl⟩
theorem nn_text : NN "text" := ⟨rfl,rfl⟩
theorem ziZ : NN "turn" := ⟨rfl,rfl⟩
theorem ze3 : NN "whole" := ⟨rfl,rfl⟩
theorem zcI : NN "word" := ⟨rfl,rfl⟩
theorem zhb : NN "words" := ⟨rfl,rfl⟩
noncomputable abbrev fs09 : List (Str × Nat) := [(os "escape",0),(os "_translate",1),(os "fspath",2),(os "_get_sep",3),(os "join",4),(os "split",5),(os "splitroot",7),(os "normpath",9),(os "abspath",10),(os "relpath",11),(os "commonprefix",12),(os "commonpath",13),(os "_law_one",14),(os "_law_takes",15),(os "_law_means",16),(os "_law_dressed",17),(os "law",35)]
noncomputable abbrev bs09 : List Str := [os "str",os "bytes",os "list",os "tuple",os "len",os "abs",os "sum",os "isinstance",os "issubclass",os "type",os "range",os "min",os "max",os "sorted",os "map",os "enumerate",os "ValueError"]
noncomputable abbrev lamPos09 : Pos := ⟨267,39,267,76⟩
noncomputable abbrev qs09 : List (Pos × Str) := [(lamPos09,(PySem.Str.ofString "_translate.<locals>.") ++ "<lambda>")]
variable {cx : XCx} (N : GN cx fs09 bs09)
include N
theorem zfQ : cx.mg (os "_get_sep") = some (.ref (cx.fa 3)) := N.fi 3 rfl
theorem zff : cx.mg (os "_law_dressed") = some (.ref (cx.fa 17)) := N.fi 15 rfl
theorem zcd : cx.mg (os "_law_means") = some (.ref (cx.fa 16)) := N.fi 14 rfl
theorem zjy : cx.mg (os "_law_one") = some (.ref (cx.fa 14)) := N.fi 12 rfl
theorem zgH : cx.mg (os "_law_takes") = some (.ref (cx.fa 15)) := N.fi 13 rfl
theorem zgG : cx.mg (os "_translate") = some (.ref (cx.fa 1)) := N.fi 1 rfl
theorem zfR : cx.mg (os "abspath") = some (.ref (cx.fa 10)) := N.fi 8 rfl
theorem zbp : cx.mg (os "commonpath") = some (.ref (cx.fa 13)) := N.fi 11 rfl
theorem zek : cx.mg (os "commonprefix") = some (.ref (cx.fa 12)) := N.fi 10 rfl
theorem zkR : cx.mg (os "escape") = some (.ref (cx.fa 0)) := N.fi 0 rfl
theorem za8 : cx.mg (os "fspath") = some (.ref (cx.fa 2)) := N.fi 2 rfl
theorem f_join : cx.mg (os "join") = some (.ref (cx.fa 4)) := N.fi 4 rfl
theorem zeG : cx.mg (os "normpath") = some (.ref (cx.fa 9)) := N.fi 7 rfl
theorem zjx : cx.mg (os "relpath") = some (.ref (cx.fa 11)) := N.fi 9 rfl
theorem f_split : cx.mg (os "split") = some (.ref (cx.fa 5)) := N.fi 5 rfl
theorem zdS : cx.mg (os "splitroot") = some (.ref (cx.fa 7)) := N.fi 6 rfl
theorem zf8 : cx.mg (os "ValueError") = none := N.bi 16 rfl
theorem b_abs : cx.mg (os "abs") = none := N.bi 5 rfl
theorem zcg : cx.mg (os "bytes") = none := N.bi 1 rfl
theorem zd2 : cx.mg (os "enumerate") = none := N.bi 15 rfl
theorem zaP : cx.mg (os "isinstance") = none := N.bi 7 rfl
theorem zf7 : cx.mg (os "issubclass") = none := N.bi 8 rfl
theorem b_len : cx.mg (os "len") = none := N.bi 4 rfl
theorem zlp : cx.mg (os "list") = none := N.bi 2 rfl
theorem b_map : cx.mg (os "map") = none := N.bi 14 rfl
theorem b_max : cx.mg (os "max") = none := N.bi 12 rfl
theorem b_min : cx.mg (os "min") = none := N.bi 11 rfl
theorem zd1 : cx.mg (os "range") = none := N.bi 10 rfl
theorem b_str : cx.mg (os "str") = none := N.bi 0 rfl
theorem b_sum : cx.mg (os "sum") = none := N.bi 6 rfl
theorem zgT : cx.mg (os "tuple") = none := N.bi 3 rfl
theorem b_type : cx.mg (os "type") = none := N.bi 9 rfl
omit N
noncomputable def sc_escape : Sc := { kinds := [(os "pattern",.local),(os "isinstance",.globalImplicit),(os "str",.globalImplicit),(os "_special_chars_map",.globalImplicit)],vars := [(os "pattern",0)] }
theorem zhR {cx : XCx} (N : GN cx fs09 bs09) (TG : TabG cx) (sp : cx.mg (PySem.Str.ofString "_special_chars_map") = some (.ref TG.d)) : SoundSs cx sc_escape (nthBody PySem.Challenge.pw_dn0069_09 26) s_escape := by
 unfold s_escape
 exact (zaa (zaf (zak rfl (zaP N) (by decide) rfl (.builtin _) rfl (.cons (sVar rfl zeE) rfl (.cons (zaG rfl (b_str N) (by decide) rfl rfl) rfl .nil)) zba) (zaa (zam (zdy TG rfl rfl (sVar rfl zeE) rfl sp rfl))
 zac) zax)
 zac)
noncomputable def sc_translate9 (c : Addr) : Sc := { kinds := [(os "pat",.local),(os "STAR",.local),(os "QUESTION_MARK",.local),(os "res",.local),(os "add",.local),(os "i",.local),(os "n",.local),(os "c",.local),(os "j",.local),(os "stuff",.local),(os "chunks",.local),(os "k",.local),(os "chunk",.local),(os "len",.globalImplicit),(os "range",.globalImplicit),(os "_twin_re_1",.globalImplicit),(os "escape",.globalImplicit)],vars := [(os "pat",0),(os "STAR",1),(os "QUESTION_MARK",2),(os "res",3),(os "add",4),(os "i",5),(os "n",6),(os "c",7),(os "j",8),(os "stuff",9),(os "chunks",10),(os "k",11),(os "chunk",12)],code := some (c,PySem.Str.ofString "_translate.<locals>.") }
theorem zed {cx : XCx} (N : GN cx fs09 bs09) (G : LamG cx) (PG : PatG cx) (tw : cx.mg (PySem.Str.ofString "_twin_re_1") = some (.ref PG.P)) (hq : G.qs = qs09) : SoundSs cx (sc_translate9 G.c) (nthBody PySem.Challenge.pw_dn0069_09 28) s_translate9 := by
 unfold s_translate9
 exact (zaa (zaX rfl (nLoc rfl) (zao .nil) (fun _ _ _ => rfl))
 (zaa (zfy rfl (nLoc rfl) rfl nn_res.1 nn_res.2)
 (zaa (zcU rfl rfl (nLoc rfl) (nLoc rfl) (by decide) (zar (.cons (zab rfl) rfl (.cons (zak rfl (b_len N) (by decide) rfl (.builtin _) rfl (.cons (sVar rfl zb3) rfl .nil) za2) rfl .nil))) (fun _ => rfl) (zg1 rfl rfl rfl rfl rfl rfl rfl rfl))
 (zaa (za9 (zae (sVar rfl nn_i) (sVar rfl nn_n) op_lt rfl) (zaa (zad rfl (nLoc rfl) (zag (sVar rfl zb3) (sVar rfl nn_i)) (fun _ _ _ => rfl))
 (zaa (zad rfl (nLoc rfl) (zah (sVar rfl nn_i) (zab rfl) zaA) (fun _ _ _ => rfl))
 (zaa (zaf (zae (sVar rfl nn_c) (zab rfl) op_eq rfl) (zaa (zaf (zat (.or (zaJ (sVar rfl nn_res)) (.one (zae (zag (sVar rfl nn_res) (zaS (zab rfl) zbn (fun h => nomatch h))) (sVar rfl zi6) zkm rfl)))) (zaa (zaI rfl (show VL _ "res" 3 from rfl) nn_add.1 nn_add.2 (sVar rfl zi6) rfl)
 zac) zac)
 zac) (zaa (zaf (zae (sVar rfl nn_c) (zab rfl) op_eq rfl) (zaa (zaI rfl (show VL _ "res" 3 from rfl) nn_add.1 nn_add.2 (sVar rfl zdb) rfl)
 zac) (zaa (zaf (zae (sVar rfl nn_c) (zab rfl) op_eq rfl) (zaa (zad rfl (nLoc rfl) (sVar rfl nn_i) (fun _ _ _ => rfl))
 (zaa (zaf (zat (.and (zae (sVar rfl nn_j) (sVar rfl nn_n) op_lt rfl) (.one (zae (zag (sVar rfl zb3) (sVar rfl nn_j)) (zab rfl) op_eq rfl)))) (zaa (zad rfl (nLoc rfl) (zah (sVar rfl nn_j) (zab rfl) zaA) (fun _ _ _ => rfl))
 zac) zac)
 (zaa (zaf (zat (.and (zae (sVar rfl nn_j) (sVar rfl nn_n) op_lt rfl) (.one (zae (zag (sVar rfl zb3) (sVar rfl nn_j)) (zab rfl) op_eq rfl)))) (zaa (zad rfl (nLoc rfl) (zah (sVar rfl nn_j) (zab rfl) zaA) (fun _ _ _ => rfl))
 zac) zac)
 (zaa (za9 (zat (.and (zae (sVar rfl nn_j) (sVar rfl nn_n) op_lt rfl) (.one (zae (zag (sVar rfl zb3) (sVar rfl nn_j)) (zab rfl) op_ne rfl)))) (zaa (zad rfl (nLoc rfl) (zah (sVar rfl nn_j) (zab rfl) zaA) (fun _ _ _ => rfl))
 zac))
 (zaa (zaf (zae (sVar rfl nn_j) (sVar rfl nn_n) op_ge rfl) (zaa (zaI rfl (show VL _ "res" 3 from rfl) nn_add.1 nn_add.2 (zab rfl) rfl)
 zac) (zaa (zad rfl (nLoc rfl) (zal (sVar rfl zb3) (.yes (sVar rfl nn_i)) (.yes (sVar rfl nn_j))) (fun _ _ _ => rfl))
 (zaa (zaf (zae (zab rfl) (sVar rfl za7) zkl rfl) (zaa (zad rfl (nLoc rfl) (zjc rfl rfl (by decide) (sVar rfl za7) (.cons (zab rfl) rfl (.cons (zab rfl) rfl .nil))) (fun _ _ _ => rfl))
 zac) (zaa (zaX rfl (nLoc rfl) (zao .nil) (fun _ _ _ => rfl))
 (zaa (zad rfl (nLoc rfl) (za1 (zae (zag (sVar rfl zb3) (sVar rfl nn_i)) (zab rfl) op_eq rfl) (zah (sVar rfl nn_i) (zab rfl) zaA) (zah (sVar rfl nn_i) (zab rfl) zaA)) (fun _ _ _ => rfl))
 (zaa (za9 (zab rfl) (zaa (zad rfl (nLoc rfl) (m_find rfl rfl (by decide) (sVar rfl zb3) (.cons (zab rfl) rfl (.cons (sVar rfl nn_k) rfl (.cons (sVar rfl nn_j) rfl .nil)))) (fun _ _ _ => rfl))
 (zaa (zaf (zae (sVar rfl nn_k) (zab rfl) op_lt rfl) (zaa zcV
 zac) zac)
 (zaa (zbe rfl nn_chunks.1 nn_chunks.2 rfl (zal (sVar rfl zb3) (.yes (sVar rfl nn_i)) (.yes (sVar rfl nn_k))) rfl)
 (zaa (zad rfl (nLoc rfl) (zah (sVar rfl nn_k) (zab rfl) zaA) (fun _ _ _ => rfl))
 (zaa (zad rfl (nLoc rfl) (zah (sVar rfl nn_k) (zab rfl) zaA) (fun _ _ _ => rfl))
 zac))))))
 (zaa (zad rfl (nLoc rfl) (zal (sVar rfl zb3) (.yes (sVar rfl nn_i)) (.yes (sVar rfl nn_j))) (fun _ _ _ => rfl))
 (zaa (zaf (sVar rfl zhg) (zaa (zbe rfl nn_chunks.1 nn_chunks.2 rfl (sVar rfl zhg) rfl)
 zac) zax)
 (zaa (za6 rfl (nLoc rfl) (zbm rfl (zd1 N) (.cons (zah (zak rfl (b_len N) (by decide) rfl (.builtin _) rfl (.cons (sVar rfl nn_chunks) rfl .nil) za2) (zab rfl) zeC) rfl (.cons (zab rfl) rfl (.cons (zaS (zab rfl) zbn (fun h => nomatch h)) rfl .nil)))) (zaa (zaf (zae (zag (zag (sVar rfl nn_chunks) (zah (sVar rfl nn_k) (zab rfl) zeC)) (zaS (zab rfl) zbn (fun h => nomatch h))) (zag (zag (sVar rfl nn_chunks) (sVar rfl nn_k)) (zab rfl)) op_gt rfl) (zaa (zea rfl nn_chunks.1 nn_chunks.2 (zah (sVar rfl nn_k) (zab rfl) zeC) (zah (zal (zag (sVar rfl nn_chunks) (zah (sVar rfl nn_k) (zab rfl) zeC)) .no (.yes (zaS (zab rfl) zbn (fun h => nomatch h)))) (zal (zag (sVar rfl nn_chunks) (sVar rfl nn_k)) (.yes (zab rfl)) .no) zaA) (fun _ => rfl))
 (zaa (zeb rfl nn_chunks.1 nn_chunks.2 (sVar rfl nn_k))
 zac)) zac)
 zac) (fun _ _ => rfl))
 (zaa (zcn ⟨os "chunks",rfl⟩ (zad rfl (nLoc rfl) (zeT G rfl rfl rfl rfl rfl rfl (by decide) (by decide) rfl (apart1 hq rfl) (zay (sVar rfl nn_chunks)) (fun _ _ => rfl) rfl (by decide) (by decide) rfl rfl rfl rfl) (fun _ _ _ => rfl)))
 zac))))))))
 (zaa (zad rfl (nLoc rfl) (zfx G PG rfl tw rfl rfl (by rw [hq]; exact .head _) rfl rfl rfl (sVar rfl za7)) (fun _ _ _ => rfl))
 (zaa (zad rfl (nLoc rfl) (zah (sVar rfl nn_j) (zab rfl) zaA) (fun _ _ _ => rfl))
 (zaa (zaf (zaJ (sVar rfl za7)) (zaa (zaI rfl (show VL _ "res" 3 from rfl) nn_add.1 nn_add.2 (zab (by kernel_rfl)) rfl)
 zac) (zaa (zaf (zae (sVar rfl za7) (zab rfl) op_eq rfl) (zaa (zaI rfl (show VL _ "res" 3 from rfl) nn_add.1 nn_add.2 (zab rfl) rfl)
 zac) (zaa (zaf (zae (zag (sVar rfl za7) (zab rfl)) (zab rfl) op_eq rfl) (zaa (zad rfl (nLoc rfl) (zah (zab rfl) (zal (sVar rfl za7) (.yes (zab rfl)) .no) zaA) (fun _ _ _ => rfl))
 zac) (zaa (zaf (zae (zag (sVar rfl za7) (zab rfl)) (zar (.cons (zab rfl) rfl (.cons (zab rfl) rfl .nil))) op_in rfl) (zaa (zad rfl (nLoc rfl) (zah (zab rfl) (sVar rfl za7) zaA) (fun _ _ _ => rfl))
 zac) zac)
 zac))
 (zaa (zaI rfl (show VL _ "res" 3 from rfl) nn_add.1 nn_add.2 (ziz (sVar rfl za7) rfl rfl) rfl)
 zac)))
 zac))
 zac))))))
 zac))))) (zaa (zaI rfl (show VL _ "res" 3 from rfl) nn_add.1 nn_add.2 (zan rfl (zkR N) rfl (.cons (sVar rfl nn_c) rfl .nil)) rfl)
 zac))
 zac))
 zac))
 zac))))
 (zaa (zeU (zae (sVar rfl nn_i) (sVar rfl nn_n) op_eq rfl))
 (zaa (zcn ⟨os "res",rfl⟩ (zam (sVar rfl nn_res)))
 zac))))))
noncomputable def sc_fspath : Sc := { kinds := [(os "path",.local),(os "kind",.local),(os "hook",.local),(os "given",.local),(os "type",.globalImplicit),(os "issubclass",.globalImplicit),(os "str",.globalImplicit),(os "bytes",.globalImplicit),(os "_abc_plain_meta",.globalImplicit),(os "getattr",.globalImplicit),(os "TypeError",.globalImplicit),(os "_plain_name",.globalImplicit),(os "_wall",.globalImplicit),(os "len",.globalImplicit)],vars := [(os "path",0),(os "kind",1),(os "hook",2),(os "given",3)] }
theorem zhQ {cx : XCx} (N : GN cx fs09 bs09) : SoundSs cx sc_fspath (nthBody PySem.Challenge.pw_dn0069_09 10) s_fspath := by
 unfold s_fspath
 exact (zaa (zad rfl (nLoc rfl) (zak rfl (b_type N) (by decide) rfl (.type _) rfl (.cons (sVar rfl nn_path) rfl .nil) op_tyOf) (fun _ _ _ => rfl))
 (zaa (zaf (zak rfl (zf7 N) (by decide) rfl (.builtin _) rfl (.cons (sVar rfl nn_kind) rfl (.cons (zar (.cons (zaG rfl (b_str N) (by decide) rfl rfl) rfl (.cons (zaG rfl (zcg N) (by decide) rfl rfl) rfl .nil))) rfl .nil)) zkn) (zaa (zam (sVar rfl nn_path))
 zac) zac)
 zax))
noncomputable def sc_get_sep : Sc := { kinds := [(os "path",.local),(os "isinstance",.globalImplicit),(os "bytes",.globalImplicit)],vars := [(os "path",0)] }
theorem zgn {cx : XCx} (N : GN cx fs09 bs09) : SoundSs cx sc_get_sep (nthBody PySem.Challenge.pw_dn0069_09 15) s_get_sep := by
 unfold s_get_sep
 exact (zaa (zaf (zak rfl (zaP N) (by decide) rfl (.builtin _) rfl (.cons (sVar rfl nn_path) rfl (.cons (zaG rfl (zcg N) (by decide) rfl rfl) rfl .nil)) zba) zax (zaa (zam (zab rfl))
 zac))
 zac)
noncomputable def sc_join : Sc := { kinds := [(os "a",.local),(os "p",.local),(os "sep",.local),(os "path",.local),(os "b",.local),(os "fspath",.globalImplicit),(os "_get_sep",.globalImplicit),(os "TypeError",.globalImplicit),(os "AttributeError",.globalImplicit),(os "BytesWarning",.globalImplicit),(os "_check_arg_types",.globalImplicit)],vars := [(os "a",0),(os "p",1),(os "sep",2),(os "path",3),(os "b",4)] }
theorem zkb {cx : XCx} (N : GN cx fs09 bs09) : SoundSs cx sc_join (nthBody PySem.Challenge.pw_dn0069_09 16) s_join := by
 unfold s_join
 exact (zaa (zad rfl (nLoc rfl) (zan rfl (za8 N) rfl (.cons (sVar rfl nn_a) rfl .nil)) (fun _ _ _ => rfl))
 (zaa (zad rfl (nLoc rfl) (zan rfl (zfQ N) rfl (.cons (sVar rfl nn_a) rfl .nil)) (fun _ _ _ => rfl))
 (zaa (zad rfl (nLoc rfl) (sVar rfl nn_a) (fun _ _ _ => rfl))
 (zaa (zbR (zaa (za6 rfl (nLoc rfl) (zay (sVar rfl nn_p)) (zaa (zad rfl (nLoc rfl) (zan rfl (za8 N) rfl (.cons (sVar rfl nn_b) rfl .nil)) (fun _ _ _ => rfl))
 (zaa (zaf (zat (.or (zbL rfl rfl (by decide) (sVar rfl nn_b) (.cons (sVar rfl zaV) rfl .nil)) (.one (zaJ (sVar rfl nn_path))))) (zaa (zad rfl (nLoc rfl) (sVar rfl nn_b) (fun _ _ _ => rfl))
 zac) (zaa (zaf (zh1 rfl rfl (by decide) (sVar rfl nn_path) (.cons (sVar rfl zaV) rfl .nil)) (zaa (zew rfl (nLoc rfl) nn_path.1 (sVar rfl nn_b))
 zac) (zaa (zew rfl (nLoc rfl) nn_path.1 (zah (sVar rfl zaV) (sVar rfl nn_b) zaA))
 zac))
 zac))
 zac)) (fun _ _ => rfl))
 zac))
 (zaa (zam (sVar rfl nn_path))
 zac)))))
noncomputable def sc_split : Sc := { kinds := [(os "p",.local),(os "sep",.local),(os "i",.local),(os "head",.local),(os "tail",.local),(os "fspath",.globalImplicit),(os "_get_sep",.globalImplicit),(os "len",.globalImplicit)],vars := [(os "p",0),(os "sep",1),(os "i",2),(os "head",3),(os "tail",4)] }
theorem ziA {cx : XCx} (N : GN cx fs09 bs09) : SoundSs cx sc_split (nthBody PySem.Challenge.pw_dn0069_09 17) s_split := by
 unfold s_split
 exact (zaa (zad rfl (nLoc rfl) (zan rfl (za8 N) rfl (.cons (sVar rfl nn_p) rfl .nil)) (fun _ _ _ => rfl))
 (zaa (zad rfl (nLoc rfl) (zan rfl (zfQ N) rfl (.cons (sVar rfl nn_p) rfl .nil)) (fun _ _ _ => rfl))
 (zaa (zad rfl (nLoc rfl) (zah (m_rfind rfl rfl (by decide) (sVar rfl nn_p) (.cons (sVar rfl zaV) rfl .nil)) (zab rfl) zaA) (fun _ _ _ => rfl))
 (zaa (zcU rfl rfl (nLoc rfl) (nLoc rfl) (by decide) (zar (.cons (zal (sVar rfl nn_p) .no (.yes (sVar rfl nn_i))) rfl (.cons (zal (sVar rfl nn_p) (.yes (sVar rfl nn_i)) .no) rfl .nil))) (fun _ => rfl) (zg1 rfl rfl rfl rfl rfl rfl rfl rfl))
 (zaa (zaf (zat (.and (sVar rfl zdM) (.one (zae (sVar rfl zdM) (zah (sVar rfl zaV) (zak rfl (b_len N) (by decide) rfl (.builtin _) rfl (.cons (sVar rfl zdM) rfl .nil) za2) zg9) op_ne rfl)))) (zaa (zad rfl (nLoc rfl) (zkE rfl rfl (by decide) (sVar rfl zdM) (.cons (sVar rfl zaV) rfl .nil)) (fun _ _ _ => rfl))
 zac) zac)
 (zaa (zam (zar (.cons (sVar rfl zdM) rfl (.cons (sVar rfl nn_tail) rfl .nil))))
 zac))))))
noncomputable def sc_splitroot : Sc := { kinds := [(os "p",.local),(os "sep",.local),(os "empty",.local),(os "fspath",.globalImplicit),(os "isinstance",.globalImplicit),(os "bytes",.globalImplicit)],vars := [(os "p",0),(os "sep",1),(os "empty",2)] }
theorem zeV {cx : XCx} (N : GN cx fs09 bs09) : SoundSs cx sc_splitroot (nthBody PySem.Challenge.pw_dn0069_09 18) s_splitroot := by
 unfold s_splitroot
 exact (zaa (zad rfl (nLoc rfl) (zan rfl (za8 N) rfl (.cons (sVar rfl nn_p) rfl .nil)) (fun _ _ _ => rfl))
 (zaa (zaf (zak rfl (zaP N) (by decide) rfl (.builtin _) rfl (.cons (sVar rfl nn_p) rfl (.cons (zaG rfl (zcg N) (by decide) rfl rfl) rfl .nil)) zba) zax (zaa (zad rfl (nLoc rfl) (zab rfl) (fun _ _ _ => rfl))
 (zaa (zad rfl (nLoc rfl) (zab rfl) (fun _ _ _ => rfl))
 zac)))
 (zaa (zaf (zae (zal (sVar rfl nn_p) .no (.yes (zab rfl))) (sVar rfl zaV) op_ne rfl) (zaa (zam (zar (.cons (sVar rfl zdl) rfl (.cons (sVar rfl zdl) rfl (.cons (sVar rfl nn_p) rfl .nil)))))
 zac) (zaa (zaf (zat (.or (zae (zal (sVar rfl nn_p) (.yes (zab rfl)) (.yes (zab rfl))) (sVar rfl zaV) op_ne rfl) (.one (zae (zal (sVar rfl nn_p) (.yes (zab rfl)) (.yes (zab rfl))) (sVar rfl zaV) op_eq rfl)))) (zaa (zam (zar (.cons (sVar rfl zdl) rfl (.cons (sVar rfl zaV) rfl (.cons (zal (sVar rfl nn_p) (.yes (zab rfl)) .no) rfl .nil)))))
 zac) (zaa (zam (zar (.cons (sVar rfl zdl) rfl (.cons (zal (sVar rfl nn_p) .no (.yes (zab rfl))) rfl (.cons (zal (sVar rfl nn_p) (.yes (zab rfl)) .no) rfl .nil)))))
 zac))
 zac))
 zac)))
noncomputable def sc_normpath : Sc := { kinds := [(os "path",.local),(os "sep",.local),(os "dot",.local),(os "dotdot",.local),(os "_",.local),(os "initial_slashes",.local),(os "comps",.local),(os "new_comps",.local),(os "comp",.local),(os "fspath",.globalImplicit),(os "isinstance",.globalImplicit),(os "bytes",.globalImplicit),(os "splitroot",.globalImplicit)],vars := [(os "path",0),(os "sep",1),(os "dot",2),(os "dotdot",3),(os "_",4),(os "initial_slashes",5),(os "comps",6),(os "new_comps",7),(os "comp",8)] }
theorem zfz {cx : XCx} (N : GN cx fs09 bs09) : SoundSs cx sc_normpath (nthBody PySem.Challenge.pw_dn0069_09 19) s_normpath := by
 unfold s_normpath
 exact (zaa (zad rfl (nLoc rfl) (zan rfl (za8 N) rfl (.cons (sVar rfl nn_path) rfl .nil)) (fun _ _ _ => rfl))
 (zaa (zaf (zak rfl (zaP N) (by decide) rfl (.builtin _) rfl (.cons (sVar rfl nn_path) rfl (.cons (zaG rfl (zcg N) (by decide) rfl rfl) rfl .nil)) zba) zax (zaa (zad rfl (nLoc rfl) (zab rfl) (fun _ _ _ => rfl))
 (zaa (zad rfl (nLoc rfl) (zab rfl) (fun _ _ _ => rfl))
 (zaa (zad rfl (nLoc rfl) (zab rfl) (fun _ _ _ => rfl))
 zac))))
 (zaa (zaf (zaJ (sVar rfl nn_path)) (zaa (zam (sVar rfl zi4))
 zac) zac)
 (zaa (zec rfl rfl rfl (nLoc rfl) (nLoc rfl) (nLoc rfl) (zan rfl (zdS N) rfl (.cons (sVar rfl nn_path) rfl .nil)) (fun _ => rfl) (fun _ => rfl))
 (zaa (zad rfl (nLoc rfl) (zcb rfl rfl (by decide) (sVar rfl nn_path) (.cons (sVar rfl zaV) rfl .nil)) (fun _ _ _ => rfl))
 (zaa (zaX rfl (nLoc rfl) (zao .nil) (fun _ _ _ => rfl))
 (zaa (za6 rfl (nLoc rfl) (zay (sVar rfl zhf)) (zaa (zaf (zat (.or (zaJ (sVar rfl ze7)) (.one (zae (sVar rfl ze7) (sVar rfl zi4) op_eq rfl)))) (zaa zdB
 zac) zac)
 (zaa (zaf (zat (.or (zae (sVar rfl ze7) (sVar rfl zfD) op_ne rfl) (.or (zat (.and (zaJ (sVar rfl zbo)) (.one (zaJ (sVar rfl nn_new_comps))))) (.one (zat (.and (sVar rfl nn_new_comps) (.one (zae (zag (sVar rfl nn_new_comps) (zaS (zab rfl) zbn (fun h => nomatch h))) (sVar rfl zfD) op_eq rfl)))))))) (zaa (zbe rfl nn_new_comps.1 nn_new_comps.2 rfl (sVar rfl ze7) rfl)
 zac) (zaa (zaf (sVar rfl nn_new_comps) (zaa (zhP rfl nn_new_comps.1 nn_new_comps.2 rfl)
 zac) zac)
 zac))
 zac)) (fun _ _ => rfl))
 (zaa (zcn ⟨os "new_comps",rfl⟩ (zad rfl (nLoc rfl) (sVar rfl nn_new_comps) (fun _ _ _ => rfl)))
 (zaa (zad rfl (nLoc rfl) (zah (sVar rfl zbo) (zb4 rfl rfl (by decide) (sVar rfl zaV) (.cons (sVar rfl zhf) rfl .nil)) zaA) (fun _ _ _ => rfl))
 (zaa (zam (zat (.or (sVar rfl nn_path) (.one (sVar rfl zi4)))))
 zac))))))))))
noncomputable def sc_abspath : Sc := { kinds := [(os "path",.local),(os "fspath",.globalImplicit),(os "isinstance",.globalImplicit),(os "bytes",.globalImplicit),(os "join",.globalImplicit),(os "_wall",.globalImplicit),(os "normpath",.globalImplicit)],vars := [(os "path",0)] }
theorem zgo {cx : XCx} (N : GN cx fs09 bs09) : SoundSs cx sc_abspath (nthBody PySem.Challenge.pw_dn0069_09 20) s_abspath := by
 unfold s_abspath
 exact (zaa (zad rfl (nLoc rfl) (zan rfl (za8 N) rfl (.cons (sVar rfl nn_path) rfl .nil)) (fun _ _ _ => rfl))
 (zaa (zaf (zak rfl (zaP N) (by decide) rfl (.builtin _) rfl (.cons (sVar rfl nn_path) rfl (.cons (zaG rfl (zcg N) (by decide) rfl rfl) rfl .nil)) zba) zax (zaa (zaf (zaJ (zbL rfl rfl (by decide) (sVar rfl nn_path) (.cons (zab rfl) rfl .nil))) zax zac)
 zac))
 (zaa (zam (zan rfl (zeG N) rfl (.cons (sVar rfl nn_path) rfl .nil)))
 zac)))
noncomputable def sc_relpath : Sc := { kinds := [(os "path",.local),(os "start",.local),(os "curdir",.local),(os "sep",.local),(os "pardir",.local),(os "start_tail",.local),(os "path_tail",.local),(os "start_list",.local),(os "path_list",.local),(os "i",.local),(os "rel_list",.local),(os "fspath",.globalImplicit),(os "ValueError",.globalImplicit),(os "isinstance",.globalImplicit),(os "bytes",.globalImplicit),(os "abspath",.globalImplicit),(os "len",.globalImplicit),(os "commonprefix",.globalImplicit),(os "TypeError",.globalImplicit),(os "AttributeError",.globalImplicit),(os "BytesWarning",.globalImplicit),(os "DeprecationWarning",.globalImplicit),(os "_check_arg_types",.globalImplicit)],vars := [(os "path",0),(os "start",1),(os "curdir",2),(os "sep",3),(os "pardir",4),(os "start_tail",5),(os "path_tail",6),(os "start_list",7),(os "path_list",8),(os "i",9),(os "rel_list",10)] }
theorem zgl {cx : XCx} (N : GN cx fs09 bs09) : SoundSs cx sc_relpath (nthBody PySem.Challenge.pw_dn0069_09 21) s_relpath := by
 unfold s_relpath
 exact (zaa (zad rfl (nLoc rfl) (zan rfl (za8 N) rfl (.cons (sVar rfl nn_path) rfl .nil)) (fun _ _ _ => rfl))
 (zaa (zaf (zaJ (sVar rfl nn_path)) zax zac)
 (zaa (zaf (zak rfl (zaP N) (by decide) rfl (.builtin _) rfl (.cons (sVar rfl nn_path) rfl (.cons (zaG rfl (zcg N) (by decide) rfl rfl) rfl .nil)) zba) zax (zaa (zad rfl (nLoc rfl) (zab rfl) (fun _ _ _ => rfl))
 (zaa (zad rfl (nLoc rfl) (zab rfl) (fun _ _ _ => rfl))
 (zaa (zad rfl (nLoc rfl) (zab rfl) (fun _ _ _ => rfl))
 zac))))
 (zaa (zaf (zae (sVar rfl ze4) (zab rfl) op_is rfl) (zaa (zad rfl (nLoc rfl) (sVar rfl zdN) (fun _ _ _ => rfl))
 zac) (zaa (zad rfl (nLoc rfl) (zan rfl (za8 N) rfl (.cons (sVar rfl ze4) rfl .nil)) (fun _ _ _ => rfl))
 zac))
 (zaa (zbR (zaa (zad rfl (nLoc rfl) (zhj rfl rfl (by decide) (zan rfl (zfR N) rfl (.cons (sVar rfl ze4) rfl .nil)) (.cons (sVar rfl zaV) rfl .nil)) (fun _ _ _ => rfl))
 (zaa (zad rfl (nLoc rfl) (zhj rfl rfl (by decide) (zan rfl (zfR N) rfl (.cons (sVar rfl nn_path) rfl .nil)) (.cons (sVar rfl zaV) rfl .nil)) (fun _ _ _ => rfl))
 (zaa (zad rfl (nLoc rfl) (za1 (sVar rfl zct) (zcb rfl rfl (by decide) (sVar rfl zct) (.cons (sVar rfl zaV) rfl .nil)) (zao .nil)) (fun _ _ _ => rfl))
 (zaa (zad rfl (nLoc rfl) (za1 (sVar rfl zc3) (zcb rfl rfl (by decide) (sVar rfl zc3) (.cons (sVar rfl zaV) rfl .nil)) (zao .nil)) (fun _ _ _ => rfl))
 (zaa (zad rfl (nLoc rfl) (zak rfl (b_len N) (by decide) rfl (.builtin _) rfl (.cons (zan rfl (zek N) rfl (.cons (zao (.cons (sVar rfl zcu) rfl (.cons (sVar rfl zc4) rfl .nil))) rfl .nil)) rfl .nil) za2) (fun _ _ _ => rfl))
 (zaa (zad rfl (nLoc rfl) (zah (zah (zao (.cons (sVar rfl zi3) rfl .nil)) (zah (zak rfl (b_len N) (by decide) rfl (.builtin _) rfl (.cons (sVar rfl zcu) rfl .nil) za2) (sVar rfl nn_i) zeC) zg9) (zal (sVar rfl zc4) (.yes (sVar rfl nn_i)) .no) zaA) (fun _ _ _ => rfl))
 (zaa (zaf (zaJ (sVar rfl zdK)) (zaa (zam (sVar rfl zdN))
 zac) zac)
 (zaa (zam (zb4 rfl rfl (by decide) (sVar rfl zaV) (.cons (sVar rfl zdK) rfl .nil)))
 zac)))))))))
 zac)))))
noncomputable def sc_commonprefix : Sc := { kinds := [(os "m",.local),(os "s1",.local),(os "s2",.local),(os "i",.local),(os "c",.local),(os "isinstance",.globalImplicit),(os "list",.globalImplicit),(os "tuple",.globalImplicit),(os "map",.globalImplicit),(os "fspath",.globalImplicit),(os "min",.globalImplicit),(os "max",.globalImplicit),(os "enumerate",.globalImplicit)],vars := [(os "m",0),(os "s1",1),(os "s2",2),(os "i",3),(os "c",4)] }
theorem zda {cx : XCx} (N : GN cx fs09 bs09) : SoundSs cx sc_commonprefix (nthBody PySem.Challenge.pw_dn0069_09 12) s_commonprefix := by
 unfold s_commonprefix
 exact (zaa (zaf (zaJ (sVar rfl nn_m)) (zaa (zam (zab rfl))
 zac) zac)
 (zaa (zaf (zaJ (zak rfl (zaP N) (by decide) rfl (.builtin _) rfl (.cons (zag (sVar rfl nn_m) (zab rfl)) rfl (.cons (zar (.cons (zaG rfl (zlp N) (by decide) rfl rfl) rfl (.cons (zaG rfl (zgT N) (by decide) rfl rfl) rfl .nil))) rfl .nil)) zba)) zax zac)
 (zaa (zad rfl (nLoc rfl) (zak rfl (b_min N) (by decide) rfl (.builtin _) rfl (.cons (sVar rfl nn_m) rfl .nil) zlb) (fun _ _ _ => rfl))
 (zaa (zad rfl (nLoc rfl) (zak rfl (b_max N) (by decide) rfl (.builtin _) rfl (.cons (sVar rfl nn_m) rfl .nil) zlc) (fun _ _ _ => rfl))
 (zaa (zb1 rfl (zd2 N) rfl rfl (nLoc rfl) (nLoc rfl) (sVar rfl nn_s1) rfl (zaa (zaf (zae (sVar rfl nn_c) (zag (sVar rfl nn_s2) (sVar rfl nn_i)) op_ne rfl) (zaa (zam (zal (sVar rfl nn_s1) .no (.yes (sVar rfl nn_i))))
 zac) zac)
 zac) (fun _ _ => rfl))
 (zaa (zam (sVar rfl nn_s1))
 zac))))))
noncomputable def sc_commonpath : Sc := { kinds := [(os "paths",.local),(os "sep",.cell),(os "curdir",.cell),(os "split_paths",.local),(os "isabs",.local),(os "c",.local),(os "s1",.local),(os "s2",.local),(os "common",.local),(os "i",.local),(os "prefix",.local),(os "tuple",.globalImplicit),(os "map",.globalImplicit),(os "fspath",.globalImplicit),(os "ValueError",.globalImplicit),(os "isinstance",.globalImplicit),(os "bytes",.globalImplicit),(os "min",.globalImplicit),(os "max",.globalImplicit),(os "enumerate",.globalImplicit),(os "TypeError",.globalImplicit),(os "AttributeError",.globalImplicit),(os "_check_arg_types",.globalImplicit)],vars := [(os "paths",0),(os "sep",1),(os "curdir",2),(os "split_paths",3),(os "isabs",4),(os "c",5),(os "s1",6),(os "s2",7),(os "common",8),(os "i",9),(os "prefix",10)] }
theorem zee {cx : XCx} (N : GN cx fs09 bs09) : SoundSs cx sc_commonpath (nthBody PySem.Challenge.pw_dn0069_09 22) s_commonpath := by
 unfold s_commonpath
 exact (zaa (zad rfl (nLoc rfl) (zev rfl (zgT N) rfl (b_map N) rfl (za8 N) rfl (sVar rfl zaH) rfl) (fun _ _ _ => rfl))
 (zaa (zaf (zaJ (sVar rfl zaH)) zax zac)
 (zaa (zaf (zak rfl (zaP N) (by decide) rfl (.builtin _) rfl (.cons (zag (sVar rfl zaH) (zab rfl)) rfl (.cons (zaG rfl (zcg N) (by decide) rfl rfl) rfl .nil)) zba) zax (zaa (zad rfl (nfree rfl) (zab rfl) (fun _ _ _ => rfl))
 (zaa (zad rfl (nfree rfl) (zab rfl) (fun _ _ _ => rfl))
 zac)))
 (zaa (zbR (zaa (zaY ⟨zaF,zbB,(zay (sVar rfl zaH)),zaZ rfl,zcl,(zcb rfl rfl (by decide) (sVar rfl nn_path) (.cons (sVar rfl zaV) rfl .nil)),fun _ _ => rfl⟩ rfl (nLoc rfl) (swapC rfl rfl rfl))
 (zaa (zbR (zaa (zc9 rfl (nLoc rfl) ⟨zaF,zbB,(zay (sVar rfl zaH)),zaZ rfl,zcl,(zbL rfl rfl (by decide) (sVar rfl nn_p) (.cons (sVar rfl zaV) rfl .nil)),fun _ _ => rfl⟩ (fun _ => rfl))
 zac))
 (zaa (zaY ⟨zaF,zbB,(zay (sVar rfl zbs)),zaZ rfl,zcl,(zcF ⟨zaF,zbB,(zay (sVar rfl nn_s)),zaZ rfl,(zbH (zat (.and (sVar rfl nn_c) (.one (zae (sVar rfl nn_c) (sVar rfl zdN) op_ne rfl))))),(sVar rfl nn_c),fun _ _ => rfl⟩),fun _ _ => rfl⟩ rfl (nLoc rfl) (swapC rfl rfl rfl))
 (zaa (zad rfl (nLoc rfl) (zak rfl (b_min N) (by decide) rfl (.builtin _) rfl (.cons (sVar rfl zbs) rfl .nil) zlb) (fun _ _ _ => rfl))
 (zaa (zad rfl (nLoc rfl) (zak rfl (b_max N) (by decide) rfl (.builtin _) rfl (.cons (sVar rfl zbs) rfl .nil) zlc) (fun _ _ _ => rfl))
 (zaa (zad rfl (nLoc rfl) (sVar rfl nn_s1) (fun _ _ _ => rfl))
 (zaa (zb1 rfl (zd2 N) rfl rfl (nLoc rfl) (nLoc rfl) (sVar rfl nn_s1) rfl (zaa (zaf (zae (sVar rfl nn_c) (zag (sVar rfl nn_s2) (sVar rfl nn_i)) op_ne rfl) (zaa (zad rfl (nLoc rfl) (zal (sVar rfl nn_s1) .no (.yes (sVar rfl nn_i))) (fun _ _ _ => rfl))
 (zaa zcV
 zac)) zac)
 zac) (fun _ _ => rfl))
 (zaa (zad rfl (nLoc rfl) (za1 (sVar rfl zkz) (sVar rfl zaV) (zal (sVar rfl zaV) .no (.yes (zab rfl)))) (fun _ _ _ => rfl))
 (zaa (zam (zah (sVar rfl zi1) (zb4 rfl rfl (by decide) (sVar rfl zaV) (.cons (sVar rfl zi5) rfl .nil)) zaA))
 zac))))))))))
 zac))))
noncomputable def sc_law_one : Sc := { kinds := [(os "part",.local),(os "sign",.local),(os "body",.local),(os "barred",.local),(os "k",.local),(os "found",.local),(os "low",.local),(os "high",.local),(os "len",.globalImplicit)],vars := [(os "part",0),(os "sign",1),(os "body",2),(os "barred",3),(os "k",4),(os "found",5),(os "low",6),(os "high",7)] }
theorem zgm {cx : XCx} (N : GN cx fs09 bs09) : SoundSs cx sc_law_one (nthBody PySem.Challenge.pw_dn0069_09 30) s_law_one := by
 unfold s_law_one
 exact (zaa (zaf (zat (.or (zae (sVar rfl zbJ) (zab rfl) op_eq rfl) (.one (zae (sVar rfl zbJ) (zab (by kernel_rfl)) op_eq rfl)))) (zaa (zam (zae (sVar rfl zbJ) (zab rfl) op_eq rfl))
 zac) zac)
 (zaa (zaf (zae (zag (sVar rfl zbJ) (zab rfl)) (zab rfl) op_ne rfl) (zaa (zam (zae (zag (sVar rfl zbJ) (zaS (zab rfl) zbn (fun h => nomatch h))) (sVar rfl zgA) op_eq rfl))
 zac) zac)
 (zaa (zad rfl (nLoc rfl) (zal (sVar rfl zbJ) (.yes (zab rfl)) (.yes (zaS (zab rfl) zbn (fun h => nomatch h)))) (fun _ _ _ => rfl))
 (zaa (zad rfl (nLoc rfl) (zae (zag (sVar rfl zbK) (zab rfl)) (zab rfl) op_eq rfl) (fun _ _ _ => rfl))
 (zaa (zad rfl (nLoc rfl) (za1 (sVar rfl zfE) (zab rfl) (zab rfl)) (fun _ _ _ => rfl))
 (zaa (zad rfl (nLoc rfl) (zab rfl) (fun _ _ _ => rfl))
 (zaa (za9 (zae (sVar rfl nn_k) (zak rfl (b_len N) (by decide) rfl (.builtin _) rfl (.cons (sVar rfl zbK) rfl .nil) za2) op_lt rfl) (zaa (zaf (zae (zag (sVar rfl zbK) (sVar rfl nn_k)) (zab rfl) op_eq rfl) (zaa (zad rfl (nLoc rfl) (zah (sVar rfl nn_k) (zab rfl) zaA) (fun _ _ _ => rfl))
 zac) zac)
 (zaa (zad rfl (nLoc rfl) (zag (sVar rfl zbK) (sVar rfl nn_k)) (fun _ _ _ => rfl))
 (zaa (zad rfl (nLoc rfl) (sVar rfl zlh) (fun _ _ _ => rfl))
 (zaa (zad rfl (nLoc rfl) (zah (sVar rfl nn_k) (zab rfl) zaA) (fun _ _ _ => rfl))
 (zaa (zaf (zat (.and (zae (zah (sVar rfl nn_k) (zab rfl) zaA) (zak rfl (b_len N) (by decide) rfl (.builtin _) rfl (.cons (sVar rfl zbK) rfl .nil) za2) op_lt rfl) (.one (zae (zag (sVar rfl zbK) (sVar rfl nn_k)) (zab rfl) op_eq rfl)))) (zaa (zad rfl (nLoc rfl) (zah (sVar rfl nn_k) (zab rfl) zaA) (fun _ _ _ => rfl))
 (zaa (zaf (zae (zag (sVar rfl zbK) (sVar rfl nn_k)) (zab rfl) op_eq rfl) (zaa (zad rfl (nLoc rfl) (zah (sVar rfl nn_k) (zab rfl) zaA) (fun _ _ _ => rfl))
 zac) zac)
 (zaa (zad rfl (nLoc rfl) (zag (sVar rfl zbK) (sVar rfl nn_k)) (fun _ _ _ => rfl))
 (zaa (zad rfl (nLoc rfl) (zah (sVar rfl nn_k) (zab rfl) zaA) (fun _ _ _ => rfl))
 zac)))) zac)
 (zaa (zaf (zat (.and (zae (sVar rfl zlh) (sVar rfl zgA) op_le rfl) (.one (zae (sVar rfl zgA) (sVar rfl nn_high) op_le rfl)))) (zaa (zad rfl (nLoc rfl) (zab rfl) (fun _ _ _ => rfl))
 zac) zac)
 zac)))))))
 (zaa (zam (zae (sVar rfl zhe) (sVar rfl zfE) op_ne rfl))
 zac))))))))
noncomputable def sc_law_takes : Sc := { kinds := [(os "parts",.local),(os "star",.local),(os "name",.cell),(os "at",.local),(os "part",.cell),(os "list",.globalImplicit),(os "range",.globalImplicit),(os "len",.globalImplicit)],vars := [(os "parts",0),(os "star",1),(os "name",2),(os "at",3),(os "part",4)] }
theorem zeW {cx : XCx} (N : GN cx fs09 bs09) : SoundSs cx sc_law_takes (nthBody PySem.Challenge.pw_dn0069_09 31) s_law_takes := by
 unfold s_law_takes
 exact (zaa (zad rfl (nLoc rfl) (zao (.cons (zab rfl) rfl .nil)) (fun _ _ _ => rfl))
 (zaa (za6 rfl (nfree rfl) (zay (sVar rfl zhc)) (zaa (zaf (zae (sVar rfl zbJ) (sVar rfl zgz) op_is rfl) (zaa (zad rfl (nLoc rfl) (za1 (sVar rfl nn_at) (zdz rfl (zlp N) rfl (zd1 N) (.cons (zag (sVar rfl nn_at) (zab rfl)) rfl (.cons (zah (zak rfl (b_len N) (by decide) rfl (.builtin _) rfl (.cons (sVar rfl zbt) rfl .nil) za2) (zab rfl) zaA) rfl .nil))) (zao .nil)) (fun _ _ _ => rfl))
 zac) (zaa (zaY ⟨zaF,zbB,(zay (sVar rfl nn_at)),zaZ rfl,(zbH (zat (.and (zae (sVar rfl nn_p) (zak rfl (b_len N) (by decide) rfl (.builtin _) rfl (.cons (sVar rfl zbt) rfl .nil) za2) op_lt rfl) (.one (zan rfl (zjy N) rfl (.cons (sVar rfl zbJ) rfl (.cons (zag (sVar rfl zbt) (sVar rfl nn_p)) rfl .nil))))))),(zah (sVar rfl nn_p) (zab rfl) zaA),fun _ _ => rfl⟩ rfl (nLoc rfl) (swapC rfl rfl rfl))
 zac))
 zac) (fun _ _ => rfl))
 (zaa (zam (zae (zak rfl (b_len N) (by decide) rfl (.builtin _) rfl (.cons (sVar rfl zbt) rfl .nil) za2) (sVar rfl nn_at) op_in rfl))
 zac)))
noncomputable def sc_law_means : Sc := { kinds := [(os "items",.cell),(os "name",.cell),(os "range",.globalImplicit),(os "len",.globalImplicit),(os "_law_means",.globalImplicit)],vars := [(os "items",0),(os "name",1)] }
theorem zeX {cx : XCx} (N : GN cx fs09 bs09) : SoundSs cx sc_law_means (nthBody PySem.Challenge.pw_dn0069_09 32) s_law_means := by
 unfold s_law_means
 exact (zaa (zaf (zaJ (sVar rfl zcv)) (zaa (zam (zae (sVar rfl zbt) (zab rfl) op_eq rfl))
 zac) zac)
 (zaa (zaf (zae (zag (sVar rfl zcv) (zab rfl)) (zab rfl) op_is rfl) (zaa (zam (zae (zcF ⟨zaF,zbB,(zbm rfl (zd1 N) (.cons (zah (zak rfl (b_len N) (by decide) rfl (.builtin _) rfl (.cons (sVar rfl zbt) rfl .nil) za2) (zab rfl) zaA) rfl .nil)),zaZ rfl,(zbH (zan rfl (zcd N) rfl (.cons (zal (sVar rfl zcv) (.yes (zab rfl)) .no) rfl (.cons (zal (sVar rfl zbt) (.yes (sVar rfl nn_k)) .no) rfl .nil)))),(zab rfl),fun _ _ => rfl⟩) (zao .nil) op_ne rfl))
 zac) zac)
 (zaa (zam (zat (.and (zae (sVar rfl zbt) (zab rfl) op_ne rfl) (.and (zae (zag (sVar rfl zbt) (zab rfl)) (zag (sVar rfl zcv) (zab rfl)) op_in rfl) (.one (zan rfl (zcd N) rfl (.cons (zal (sVar rfl zcv) (.yes (zab rfl)) .no) rfl (.cons (zal (sVar rfl zbt) (.yes (zab rfl)) .no) rfl .nil))))))))
 zac)))
noncomputable def sc_law_dressed : Sc := { kinds := [(os "code",.local),(os "pieces",.local)],vars := [(os "code",0),(os "pieces",1)] }
theorem zdC {cx : XCx} (N : GN cx fs09 bs09) : SoundSs cx sc_law_dressed (nthBody PySem.Challenge.pw_dn0069_09 33) s_law_dressed := by
 unfold s_law_dressed
 refine zaa ?_ ?_
 ·refine zad ?_ ?_ ?_ ?_
  ·exact rfl
  ·exact (nLoc rfl)
  ·exact (zar (.cons (zar (.cons (zab rfl) rfl (.cons (zao (.cons (zab rfl) rfl .nil)) rfl .nil))) rfl (.cons (zar (.cons (zab rfl) rfl (.cons (zao (.cons (zab rfl) rfl .nil)) rfl .nil))) rfl (.cons (zar (.cons (zab rfl) rfl (.cons (zao (.cons (zab rfl) rfl (.cons (zab rfl) rfl .nil))) rfl .nil))) rfl (.cons (zar (.cons (zab rfl) rfl (.cons (zao (.cons (zab rfl) rfl .nil)) rfl .nil))) rfl (.cons (zar (.cons (zab (by kernel_rfl)) rfl (.cons (zao (.cons (zab rfl) rfl (.cons (zab rfl) rfl .nil))) rfl .nil))) rfl (.cons (zar (.cons (zab rfl) rfl (.cons (zao (.cons (zab rfl) rfl (.cons (zab rfl) rfl .nil))) rfl .nil))) rfl (.cons (zar (.cons (zab (by kernel_rfl)) rfl (.cons (zao (.cons (zab rfl) rfl (.cons (zab rfl) rfl .nil))) rfl .nil))) rfl (.cons (zar (.cons (zab rfl) rfl (.cons (zao (.cons (zab rfl) rfl (.cons (zab rfl) rfl .nil))) rfl .nil))) rfl (.cons (zar (.cons (zab (by kernel_rfl)) rfl (.cons (zao (.cons (zab rfl) rfl .nil)) rfl .nil))) rfl (.cons (zar (.cons (zab (by kernel_rfl)) rfl (.cons (zao (.cons (zab rfl) rfl (.cons (zab rfl) rfl .nil))) rfl .nil))) rfl (.cons (zar (.cons (zab rfl) rfl (.cons (zao (.cons (zab rfl) rfl .nil)) rfl .nil))) rfl (.cons (zar (.cons (zab (by kernel_rfl)) rfl (.cons (zao (.cons (zab rfl) rfl (.cons (zab rfl) rfl .nil))) rfl .nil))) rfl (.cons (zar (.cons (zab rfl) rfl (.cons (zao (.cons (zab rfl) rfl (.cons (zab rfl) rfl (.cons (zab rfl) rfl .nil)))) rfl .nil))) rfl .nil))))))))))))))
  ·exact (fun _ _ _ => by kernel_rfl)
 ·exact (zaa (zam (zag (sVar rfl nn_pieces) (zah (sVar rfl nn_code) (zab rfl) ziQ)))
 zac)
noncomputable def sc_law : Sc := { kinds := [(os "script",.local),(os "star",.cell),(os "words",.local),(os "turn",.local),(os "left",.local),(os "root",.cell),(os "pieces",.local),(os "step",.local),(os "paths",.cell),(os "alike",.local),(os "parted",.local),(os "count",.local),(os "text",.local),(os "means",.cell),(os "parts",.cell),(os "taken",.local),(os "path",.local),(os "meant",.local),(os "found",.local),(os "whole",.local),(os "names",.local),(os "one",.local),(os "last",.local),(os "same",.local),(os "due",.local),(os "range",.globalImplicit),(os "abs",.globalImplicit),(os "sum",.globalImplicit),(os "_law_dressed",.globalImplicit),(os "_translate",.globalImplicit),(os "len",.globalImplicit),(os "commonpath",.globalImplicit),(os "ValueError",.globalImplicit),(os "splitroot",.globalImplicit),(os "normpath",.globalImplicit),(os "split",.globalImplicit),(os "relpath",.globalImplicit)],vars := [(os "script",0),(os "star",1),(os "words",2),(os "turn",3),(os "left",4),(os "root",5),(os "pieces",6),(os "step",7),(os "paths",8),(os "alike",9),(os "parted",10),(os "count",11),(os "text",12),(os "means",13),(os "parts",14),(os "taken",15),(os "path",16),(os "meant",17),(os "found",18),(os "whole",19),(os "names",20),(os "one",21),(os "last",22),(os "same",23),(os "due",24)] }
noncomputable def sc_lawT : Sc := { sc_law with top := true }
theorem snd_law {cx : XCx} (N : GN cx fs09 bs09) {fd : FuncData} {ps : List PySem.Str} (XC : FnIs cx sc_commonpath 13 fn_commonpath fd (nthBody PySem.Challenge.pw_dn0069_09 22) ps) (hk0 : cx.cok fun _ _ => none) : SoundSs cx sc_lawT ((nthBody PySem.Challenge.pw_dn0069_09 34).drop 1) s_law := by
 unfold s_law
 exact (zaa (zad rfl (nLoc rfl) (zao (.cons (zab rfl) rfl (.cons (zab rfl) rfl (.cons (zab rfl) rfl (.cons (zab rfl) rfl .nil))))) (fun _ _ _ => rfl))
 (zaa (za6 rfl (nLoc rfl) (zbm rfl (zd1 N) (.cons (zab rfl) rfl .nil)) (zaa (zad rfl (nLoc rfl) (zah (zak rfl (b_abs N) (by decide) rfl (.builtin _) rfl (.cons (zak rfl (b_sum N) (by decide) rfl (.builtin _) rfl (.cons (zbI (sVar rfl zi0) (.yes (sVar rfl ziZ)) .no (zab rfl)) rfl .nil) op_sum) rfl .nil) op_abs) (zag (zar (.cons (zab rfl) rfl (.cons (zab rfl) rfl (.cons (zab rfl) rfl .nil)))) (sVar rfl ziZ)) zaA) (fun _ _ _ => rfl))
 (zaa (zad rfl (nfree rfl) (za1 (zae (zah (sVar rfl zdL) (zab rfl) ziQ) (zab rfl) op_eq rfl) (zab rfl) (zab rfl)) (fun _ _ _ => rfl))
 (zaa (zad rfl (nLoc rfl) (zah (sVar rfl zdL) (zab rfl) zld) (fun _ _ _ => rfl))
 (zaa (zaX rfl (nLoc rfl) (zao .nil) (fun _ _ _ => rfl))
 (zaa (za6 rfl (nLoc rfl) (zbm rfl (zd1 N) (.cons (zah (zab rfl) (zah (sVar rfl zdL) (zab rfl) ziQ) zaA) rfl .nil)) (zaa (zad rfl (nLoc rfl) (zah (sVar rfl zdL) (zab rfl) zld) (fun _ _ _ => rfl))
 (zaa (zbe rfl nn_pieces.1 nn_pieces.2 rfl (zan rfl (zff N) rfl (.cons (sVar rfl zdL) rfl .nil)) rfl)
 zac)) (fun _ _ => rfl))
 (zaa (zad rfl (nfree rfl) (zao (.cons (zab rfl) rfl .nil)) (fun _ _ _ => rfl))
 (zaa (zad rfl (nLoc rfl) (zao .nil) (fun _ _ _ => rfl))
 (zaa (zad rfl (nLoc rfl) (zab rfl) (fun _ _ _ => rfl))
 (zaa (zad rfl (nLoc rfl) (zab rfl) (fun _ _ _ => rfl))
 (zaa (zdA rfl rfl (nLoc rfl) (nfree rfl) (zay (zbI (sVar rfl nn_pieces) .no .no (zaS (zab rfl) zbn (fun h => nomatch h)))) (zaa (zad rfl (nfree rfl) (zan rfl (zgG N) rfl (.cons (sVar rfl nn_text) rfl (.cons (sVar rfl zgz) rfl (.cons (zab rfl) rfl .nil)))) (fun _ _ _ => rfl))
 (zaa (zaY ⟨zaF,zbB,(zay (sVar rfl zhb)),zaZ rfl,(zbH (zan rfl (zgH N) rfl (.cons (sVar rfl zhc) rfl (.cons (sVar rfl zgz) rfl (.cons (sVar rfl zcI) rfl .nil))))),(sVar rfl zcI),fun _ _ => rfl⟩ rfl (nLoc rfl) (swapC rfl rfl rfl))
 (zaa (zad rfl (nfree rfl) (zgh ⟨(zay (sVar rfl zkx)),zaZ rfl,(zay (sVar rfl zaH)),(za1 (zae (sVar rfl nn_path) (zab rfl) op_ne rfl) (zan rfl (f_join N) rfl (.cons (sVar rfl zcI) rfl (.cons (sVar rfl nn_path) rfl .nil))) (sVar rfl zcI)),fun _ _ => rfl,fun _ _ => rfl⟩) (zet rfl))
 zac))) (fun _ _ => rfl))
 (zaa (zcn ⟨os "pieces",rfl⟩ (zdA rfl rfl (nLoc rfl) (nfree rfl) (zay (sVar rfl nn_pieces)) (zaa (zaY ⟨zaF,zbB,(zay (sVar rfl zhb)),zaZ rfl,(zbH (zan rfl (zcd N) rfl (.cons (sVar rfl zky) rfl (.cons (sVar rfl zcI) rfl .nil)))),(sVar rfl zcI),fun _ _ => rfl⟩ rfl (nLoc rfl) (swapC rfl rfl rfl))
 (zaa (zad rfl (nLoc rfl) (zah (sVar rfl ze6) (zak rfl (b_len N) (by decide) rfl (.builtin _) rfl (.cons (sVar rfl ze5) rfl .nil) za2) zg9) (fun _ _ _ => rfl))
 (zaa (zaf (zae (zak rfl (b_len N) (by decide) rfl (.builtin _) rfl (.cons (sVar rfl ze5) rfl .nil) za2) (zab rfl) op_gt rfl) (zaa (zad rfl (nLoc rfl) (zab rfl) (fun _ _ _ => rfl))
 zac) (zaa (zaf (zaJ (sVar rfl zi2)) (zaa (zad rfl (nLoc rfl) (zah (sVar rfl zhh) (sVar rfl ze5) zaA) (fun _ _ _ => rfl))
 zac) zac)
 zac))
 zac))) (fun _ _ => rfl)))
 (zaa (zaf (zae (zak rfl (b_len N) (by decide) rfl (.builtin _) rfl (.cons (sVar rfl zaH) rfl .nil) za2) (sVar rfl ze6) op_ne rfl) (zaa (zam (zab rfl))
 zac) zac)
 (zaa (zad rfl (nfree rfl) (zcF ⟨zaF,zbB,(zay (sVar rfl zaH)),zaZ rfl,zcl,(zah (sVar rfl zca) (sVar rfl nn_path) zaA),fun _ _ => rfl⟩) (zet rfl))
 (zaa (zaf (zae (sVar rfl ze6) (zab rfl) op_eq rfl) (zaa (zad rfl (nLoc rfl) (zab rfl) (fun _ _ _ => rfl))
 (zaa (zgi XC hk0 rfl (zad rfl (nLoc rfl) (zev rfl (zgT N) rfl (b_map N) rfl (za8 N) rfl (sVar rfl zaH) rfl) (fun _ _ _ => rfl)) rfl (zaJ (sVar rfl zaH)) rfl rfl rfl (zf8 N) rfl rfl (zbp N) rfl (.cons (sVar rfl zaH) rfl .nil) rfl rfl (nLoc rfl) rfl)
 (zaa (zaf (sVar rfl zhe) (zaa (zam (zab rfl))
 zac) zac)
 zac))) (zaa (zad rfl (nLoc rfl) (zah (sVar rfl zca) (zb4 rfl rfl (by decide) (zab rfl) (.cons (sVar rfl zhh) rfl .nil)) zaA) (fun _ _ _ => rfl))
 (zaa (zaf (zat (.or (zae (zan rfl (zbp N) rfl (.cons (sVar rfl zaH) rfl .nil)) (sVar rfl ze3) op_ne rfl) (.one (zae (zan rfl (zbp N) rfl (.cons (zbI (sVar rfl zaH) .no .no (zaS (zab rfl) zbn (fun h => nomatch h))) rfl .nil)) (sVar rfl ze3) op_ne rfl)))) (zaa (zam (zab rfl))
 zac) zac)
 (zaa (zaf (zae (zan rfl (zbp N) rfl (.cons (zah (zah (zal (sVar rfl zaH) .no (.yes (zab rfl))) (sVar rfl zaH) zaA) (zao (.cons (zah (zag (sVar rfl zaH) (zaS (zab rfl) zbn (fun h => nomatch h))) (zab rfl) zaA) rfl (.cons (zah (zag (sVar rfl zaH) (zab rfl)) (zab rfl) zaA) rfl .nil))) zaA) rfl .nil)) (sVar rfl ze3) op_ne rfl) (zaa (zam (zab rfl))
 zac) zac)
 (zaa (za6 rfl (nLoc rfl) (zay (zal (sVar rfl zaH) .no (.yes (zab rfl)))) (zaa (zad rfl (nLoc rfl) (zcb rfl rfl (by decide) (zal (sVar rfl nn_path) (.yes (zak rfl (b_len N) (by decide) rfl (.builtin _) rfl (.cons (sVar rfl zca) rfl .nil) za2)) .no) (.cons (zab rfl) rfl .nil)) (fun _ _ _ => rfl))
 (zaa (zaf (zat (.or (zae (zan rfl (zdS N) rfl (.cons (sVar rfl nn_path) rfl .nil)) (zar (.cons (zab rfl) rfl (.cons (sVar rfl zca) rfl (.cons (zb4 rfl rfl (by decide) (zab rfl) (.cons (sVar rfl zdk) rfl .nil)) rfl .nil)))) op_ne rfl) (.one (zae (zan rfl (zeG N) rfl (.cons (sVar rfl nn_path) rfl .nil)) (sVar rfl nn_path) op_ne rfl)))) (zaa (zam (zab rfl))
 zac) zac)
 (zaa (zaf (zae (zan rfl (f_split N) rfl (.cons (sVar rfl nn_path) rfl .nil)) (zar (.cons (za1 (zae (sVar rfl zca) (zab rfl) op_eq rfl) (zb4 rfl rfl (by decide) (zab rfl) (.cons (zal (sVar rfl zdk) .no (.yes (zaS (zab rfl) zbn (fun h => nomatch h)))) rfl .nil)) (zah (zab rfl) (zb4 rfl rfl (by decide) (zab rfl) (.cons (zal (sVar rfl zdk) .no (.yes (zaS (zab rfl) zbn (fun h => nomatch h)))) rfl .nil)) zaA)) rfl (.cons (zag (sVar rfl zdk) (zaS (zab rfl) zbn (fun h => nomatch h))) rfl .nil))) op_ne rfl) (zaa (zam (zab rfl))
 zac) zac)
 zac))) (fun _ _ => rfl))
 (zaa (zad rfl (nLoc rfl) (zcb rfl rfl (by decide) (zal (zag (sVar rfl zaH) (zab rfl)) (.yes (zak rfl (b_len N) (by decide) rfl (.builtin _) rfl (.cons (sVar rfl zca) rfl .nil) za2)) .no) (.cons (zab rfl) rfl .nil)) (fun _ _ _ => rfl))
 (zaa (zad rfl (nLoc rfl) (zcb rfl rfl (by decide) (zal (zag (sVar rfl zaH) (zaS (zab rfl) zbn (fun h => nomatch h))) (.yes (zak rfl (b_len N) (by decide) rfl (.builtin _) rfl (.cons (sVar rfl zca) rfl .nil) za2)) .no) (.cons (zab rfl) rfl .nil)) (fun _ _ _ => rfl))
 (zaa (zad rfl (nLoc rfl) (zab rfl) (fun _ _ _ => rfl))
 (zaa (za9 (zat (.and (zae (sVar rfl zcJ) (zak rfl (b_len N) (by decide) rfl (.builtin _) rfl (.cons (sVar rfl zhd) rfl .nil) za2) op_lt rfl) (.one (zae (zag (sVar rfl zhd) (sVar rfl zcJ)) (zag (sVar rfl zgB) (sVar rfl zcJ)) op_eq rfl)))) (zaa (zad rfl (nLoc rfl) (zah (sVar rfl zcJ) (zab rfl) zaA) (fun _ _ _ => rfl))
 zac))
 (zaa (zad rfl (nLoc rfl) (zat (.or (zb4 rfl rfl (by decide) (zab rfl) (.cons (zah (zah (zao (.cons (zab rfl) rfl .nil)) (zah (zak rfl (b_len N) (by decide) rfl (.builtin _) rfl (.cons (sVar rfl zhd) rfl .nil) za2) (sVar rfl zcJ) zeC) zg9) (zal (sVar rfl zgB) (.yes (sVar rfl zcJ)) .no) zaA) rfl .nil)) (.one (zab rfl)))) (fun _ _ _ => rfl))
 (zaa (zaf (zae (zan rfl (zjx N) rfl (.cons (zah (zab rfl) (zb4 rfl rfl (by decide) (zab rfl) (.cons (sVar rfl zgB) rfl .nil)) zaA) rfl (.cons (zah (zab rfl) (zb4 rfl rfl (by decide) (zab rfl) (.cons (sVar rfl zhd) rfl .nil)) zaA) rfl .nil))) (sVar rfl nn_due) op_ne rfl) (zaa (zam (zab rfl))
 zac) zac)
 zac)))))))))))
 zac)))))))))))))) (fun _ _ => rfl))
 (zaa (zam (zab rfl))
 zac)))
end Mine
end W09x
section
open PySem
namespace Mine
noncomputable def fns09 : Nat → Option Fn := fun i => ([(0,fn_escape),(1,fn_translate9),(2,fn_fspath),(3,fn_get_sep),(4,fn_join),(5,fn_split),(7,fn_splitroot),(9,fn_normpath),(10,fn_abspath),(11,fn_relpath),(12,fn_commonprefix),(13,fn_commonpath),(14,fn_law_one),(15,fn_law_takes),(16,fn_law_means),(17,fn_law_dressed)] : List (Nat × Fn)).lookup i
noncomputable def P (p k : Nat) : D := .int ((p + k : Nat) : Int)
noncomputable def N (pat : List Nat) : D := .int (pat.length : Int)
section
variable {pat u : List Nat} {p : Nat}
end
end Mine
end
section
open PySem PySem.StrLaws PySem.Builtin PySem.Builtin.Str
namespace Mine
theorem sub1 (a : List Nat) (c i hi : Nat) : (i + (⟨#[c]⟩ : PySem.Str).length ≤ hi ∧ subAt ⟨a.toArray⟩ ⟨#[c]⟩ i = true) ↔ (i < hi ∧ a[i]? = some c) := by
 rw [subAt_eq]
 show (i + 1 ≤ hi ∧ ((a.drop i).take 1 == [c]) = true) ↔ _
 rw [take1_drop]
 exact ⟨fun h => ⟨by omega,h.2⟩,fun h => ⟨by omega,h.2⟩⟩
theorem zgg (a : List Nat) (c : Nat) : Txt.startswith ⟨a.toArray⟩ ⟨[c].toArray⟩ = decide (a.head? = some c) := by
 unfold Txt.startswith
 have h := sub1 a c 0 a.length
 rw [Bool.eq_iff_iff,Bool.and_eq_true,decide_eq_true_eq,decide_eq_true_eq]
 rw [List.head?_eq_getElem?]
 refine h.trans ⟨fun x => x.2,fun x => ⟨?_,x⟩⟩
 rcases Nat.lt_or_ge 0 a.length with q | q
 ·exact q
 ·rw [List.getElem?_eq_none q] at x; injection x
theorem lstrip1 (a : List Nat) (c : Nat) : (Txt.lstripChars ⟨a.toArray⟩ ⟨[c].toArray⟩).cps.toList = a.dropWhile fun x => x == c := by
 unfold Txt.lstripChars Txt.stripBy
 have hg : ∀ x : Nat,([c].toArray).contains x = (x == c) := fun x => by
  by_cases h : x = c
  ·subst h; simp
  ·rw [beq_eq_false_iff_ne.mpr h]; simpa using h
 have e : ([c].toArray).contains = fun x => x == c := funext hg
 have hlo : stripLo ([c].toArray).contains true ⟨a.toArray⟩ = (a.takeWhile fun x => x == c).length := by
  unfold stripLo
  rw [e]; rfl
 have hhi : ∀ k,stripHi ([c].toArray).contains false ⟨a.toArray⟩ k = a.length := fun k => rfl
 have key : a.drop (a.takeWhile fun x => x == c).length = a.dropWhile fun x => x == c := by
  have h1 := List.takeWhile_append_dropWhile (p := fun x => x == c) (l := a)
  conv => lhs; arg 2; rw [← h1]
  rw [List.drop_left']
  rfl
 show (if stripSame ([c].toArray).contains true false ⟨a.toArray⟩ = true then (PySem.Str.mk a.toArray) else stripped ([c].toArray).contains true false ⟨a.toArray⟩).cps.toList = _
 split
 ·rename_i hs
  unfold stripSame at hs
  rw [hlo] at hs
  simp only [Bool.and_eq_true,beq_iff_eq] at hs
  rw [← key,hs.1]
  simp
 ·unfold stripped
  rw [hlo,hhi,strSub_toList]
  show (a.drop _).take (a.length - _) = _
  rw [key,List.take_of_length_le]
  rw [← key,List.length_drop]
  exact Nat.le_refl _
section
variable {pat u : List Nat} {p : Nat}
end
noncomputable abbrev Res := Option (List Slot × Out)
section
variable {cf : CfT} {ρ ρ₁ ρ' : List Slot} {o : Out} {res : Res} {a b : S} {x c : X} {d : D} {i j k : Nat}
theorem zaz : ex cf .skip ρ = some (ρ,.next) := zhs _
theorem R_brk : ex cf .brk ρ = some (ρ,.brk) := zjD _
theorem R_cont : ex cf .cont ρ = some (ρ,.cont) := zhu _
noncomputable def after (cf : CfT) (b : S) (ρ : List Slot) : Out → Res
 | .next => ex cf b ρ
 | o => some (ρ,o)
theorem R_seq (h : ex cf a ρ = some (ρ₁,o)) (h2 : after cf b ρ₁ o = res) : ex cf (.seq a b) ρ = res := by
 rw [zlj,h]
 cases o <;> exact h2
theorem zai (h : ex cf b ρ = res) : after cf b ρ .next = res := h
theorem zf9 : after cf b ρ .brk = some (ρ,.brk) := rfl
theorem zeN : after cf b ρ .cont = some (ρ,.cont) := rfl
theorem zaB : after cf b ρ (.ret d) = some (ρ,.ret d) := rfl
theorem zaj (h : ev1 cf x ρ = some d) (h2 : ρ.set i (.val d) = ρ') : ex cf (.assign i x) ρ = some (ρ',.next) := by
 rw [zbX]; rw [h, ← h2]; rfl
theorem zgb (h0 : noApp i ρ = true) {l : List D} (h : ev cf x ρ = some [.own l]) (h2 : ρ.set i (.own l) = ρ') (hd : dSlot i = false := by rfl) : ex cf (.assignO i x) ρ = some (ρ',.next) := by
 rw [zce]; rw [if_pos h0,h, ← h2]; exact if_neg (by rw [hd]; exact Bool.false_ne_true)
theorem zj3 {d1 d2 d3 : D} (h : ev1 cf x ρ = some (.tup [d1,d2,d3])) (h2 : ((ρ.set i (.val d1)).set j (.val d2)).set k (.val d3) = ρ') : ex cf (.assign3 i j k x) ρ = some (ρ',.next) := by
 rw [zdU]; rw [h, ← h2]
theorem zhJ {l : List D} (h : ev1 cf x ρ = some d) (h1 : ownAt ρ i = some l) (hl : l.length < lim) (h2 : ρ.set i (.own (l ++ [d])) = ρ') : ex cf (.append i x) ρ = some (ρ',.next) := by
 rw [zeH]; rw [h,h1]; simp only [if_pos hl,h2]
theorem R_fz {l : List D} (h : ownAt ρ i = some l) (h2 : ρ.set i (.val (.list l)) = ρ') : ex cf (.fz i) ρ = some (ρ',.next) := by rw [ex_fz,h, ← h2]
noncomputable def branch (cf : CfT) (a b : S) (ρ : List Slot) : Bool → Res
 | true => ex cf a ρ
 | false => ex cf b ρ
theorem R_ite {t : Bool} (h : evT cf c ρ = some t) (h2 : branch cf a b ρ t = res) : ex cf (.ite c a b) ρ = res := by
 rw [zjC]; rw [h]; cases t <;> exact h2
theorem R_tt (h : ex cf a ρ = res) : branch cf a b ρ true = res := h
theorem R_ff (h : ex cf b ρ = res) : branch cf a b ρ false = res := h
theorem R_ret (h : ev1 cf x ρ = some d) : ex cf (.ret x) ρ = some (ρ,.ret d) := by rw [zjB]; rw [h]; rfl
theorem R_try (h : ex cf b ρ = res) : ex cf (.try_ b) ρ = res := by rw [zhr]; exact h
noncomputable def wOut (cf : CfT) (c : X) (b : S) (n : Nat) (ρ : List Slot) : Out → Res
 | .next => whileGo (evT cf c) (ex cf b) n ρ
 | .cont => whileGo (evT cf c) (ex cf b) n ρ
 | .brk => some (ρ,.next)
 | .ret d => some (ρ,.ret d)
noncomputable def wTurn (cf : CfT) (c : X) (b : S) (n : Nat) (ρ : List Slot) : Bool → Res
 | false => some (ρ,.next)
 | true => match ex cf b ρ with
  | some (ρ',o) => wOut cf c b n ρ' o
  | none => none
theorem zd5 {n : Nat} {t : Bool} (h : evT cf c ρ = some t) (h2 : wTurn cf c b n ρ t = res) : whileGo (evT cf c) (ex cf b) (n + 1) ρ = res := by
 unfold whileGo
 rw [h]
 cases t with
 | false => exact h2
 | true =>
  unfold wTurn at h2
  rw [← h2]
  simp only
  cases ex cf b ρ with
  | none => rfl
  | some y =>
   obtain ⟨ρ',o⟩ := y
   cases o <;> rfl
theorem R_while (h : whileGo (evT cf c) (ex cf b) (99999 + 1) ρ = res) : ex cf (.while c b) ρ = res := by rw [zfS]; exact h
theorem zj1 {n : Nat} : wTurn cf c b n ρ false = some (ρ,.next) := rfl
theorem R_wGo {n : Nat} (h : ex cf b ρ = some (ρ₁,o)) (h2 : wOut cf c b n ρ₁ o = res) : wTurn cf c b n ρ true = res := by
 unfold wTurn; rw [h]; exact h2
theorem R_wNext {n : Nat} (h : whileGo (evT cf c) (ex cf b) n ρ = res) : wOut cf c b n ρ .next = res := h
noncomputable def fOut (cf : CfT) (st : D → List Slot → Option (List Slot)) (b : S) (r : List D) (ρ : List Slot) : Out → Res
 | .next => forGo st (ex cf b) r ρ
 | .cont => forGo st (ex cf b) r ρ
 | .brk => some (ρ,.next)
 | .ret d => some (ρ,.ret d)
theorem zk2 {st : D → List Slot → Option (List Slot)} : forGo st (ex cf b) [] ρ = some (ρ,.next) := rfl
theorem za4 {st : D → List Slot → Option (List Slot)} {r : List D} {ρ₂ : List Slot} (h1 : st d ρ = some ρ₁) (h : ex cf b ρ₁ = some (ρ₂,o)) (h2 : fOut cf st b r ρ₂ o = res) : forGo st (ex cf b) (d :: r) ρ = res := by
 unfold forGo
 rw [h1]
 simp only [h]
 cases o <;> exact h2
theorem zci {st : D → List Slot → Option (List Slot)} {r : List D} (h : forGo st (ex cf b) r ρ = res) : fOut cf st b r ρ .next = res := h
theorem zj2 {st : D → List Slot → Option (List Slot)} {r : List D} (h : forGo st (ex cf b) r ρ = res) : fOut cf st b r ρ .cont = res := h
theorem R_fBrk {st : D → List Slot → Option (List Slot)} {r : List D} : fOut cf st b r ρ .brk = some (ρ,.next) := rfl
theorem R_fRet {st : D → List Slot → Option (List Slot)} {r : List D} : fOut cf st b r ρ (.ret d) = some (ρ,.ret d) := rfl
theorem R_for {l : List D} (h : evI cf x ρ = some l) (h2 : forGo (put1 i) (ex cf b) l ρ = res) : ex cf (.forE i x b) ρ = res := by rw [zht]; rw [h]; exact h2
theorem zga {l : List D} (h : evI cf x ρ = some l) (h2 : forGo (put2 i j) (ex cf b) l ρ = res) : ex cf (.forE2 i j x b) ρ = res := by rw [zdT]; rw [h]; exact h2
theorem zeZ {d1 d2 : D} : put2 i j (.tup [d1,d2]) ρ = some ((ρ.set i (.val d1)).set j (.val d2)) := rfl
end
noncomputable def one (o : Option (List R)) : Option D := match o with
 | some [r] => r.fz
 | _ => none
noncomputable def theItems (o : Option (List R)) : Option (List D) := match o with
 | some [.val (.list l)] => some l
 | _ => none
section
variable {cf : CfT} {ρ : List Slot} {x : X} {r : R}
theorem zjJ : ev1 cf x ρ = one (ev cf x ρ) := by
 unfold ev1
 generalize ev cf x ρ = o
 match o with
 | none => rfl
 | some [] => rfl
 | some [_] => rfl
 | some (_ :: _ :: _) => rfl
theorem zhB : evT cf x ρ = truthR (ev cf x ρ) := by
 unfold evT
 generalize ev cf x ρ = o
 match o with
 | none => rfl
 | some _ => rfl
theorem evI_eq : evI cf x ρ = theItems (ev cf x ρ) := by
 unfold evI
 generalize ev cf x ρ = o
 match o with
 | none => rfl
 | some [] => rfl
 | some [.val (.list _)] => rfl
 | some [.val .none] => rfl
 | some [.val (.bool _)] => rfl
 | some [.val (.int _)] => rfl
 | some [.val (.str _)] => rfl
 | some [.val (.tup _)] => rfl
 | some [.val (.tok _)] => rfl
 | some [.val (.ty _)] => rfl
 | some [.own _] => rfl
 | some [.bor _] => rfl
 | some (_ :: _ :: _) => rfl
end
noncomputable def appOK (i : Nat) (s : Slot) : Bool := match s with | .app j => j != i | _ => true
theorem zkw (i : Nat) (ρ : List Slot) : noApp i ρ = ρ.all (appOK i) := rfl
theorem zgW {i : Nat} : appOK i .unset = true := rfl
theorem eq_str (a b : List Nat) : opF .eq [.str a,.str b] = some (.val (.bool (decide (a = b)))) := rfl
theorem ne_str (a b : List Nat) : opF .ne [.str a,.str b] = some (.val (.bool (!decide (a = b)))) := rfl
section
variable {pat u : List Nat} {p : Nat}
end
section
variable {pat v : List Nat} {I : Nat → D} {n : D} {ρ : List Slot} {cf : CfT} {q : D} {r : List D} {j7 j8 j9 j10 j11 j12 j13 : Slot}
theorem o_last {r : List D} {d : D} : opF .index [.list (r ++ [d]),.int (-1)] = some (.val d) := by
 show (if small (-1) = true then (match place (-1) (r ++ [d]).length with | some k => ((r ++ [d])[k]?).map R.val | none => none) else none) = _
 rw [if_pos (by decide)]
 unfold place
 rw [if_neg (by decide),if_pos (by simp; omega)]
 have e : (-1 + ((r ++ [d]).length : Int)).toNat = r.length := by simp; omega
 simp only [e]
 simp
end
theorem zc8 {fns : Nat → Option Fn} {n f : Nat} {args : List D} {fn : Fn} {ρ : List Slot} {d : D} (h1 : fns f = some fn) (h2 : bindD fn args = some ρ) (h3 : ∃ ρ',ex (callF fns n) fn.body ρ = some (ρ',.ret d)) : callF fns (n + 1) f args = some d := by
 obtain ⟨ρ',h3⟩ := h3
 unfold callF
 rw [h1]
 simp only [h2,h3]
theorem zc1 {a : List Nat} {c : Nat} : opF .startswith [.str a,.str [c]] = some (.val (.bool (decide (a.head? = some c)))) := by
 show some (R.val (.bool (Txt.startswith ⟨a.toArray⟩ ⟨[c].toArray⟩))) = _
 rw [zgg]
theorem zbC {a b : List Nat} (h : a.length + b.length ≤ lim) : opF .add [.str a,.str b] = some (.val (.str (a ++ b))) := by
 show (if a.length + b.length ≤ lim then some (R.val (.str (a ++ b))) else none) = _
 rw [if_pos h]
theorem o_lens {l : List Nat} : opF .len [.str l] = some (.val (.int (l.length : Int))) := rfl
section
variable {fns : Nat → Option Fn}
theorem zbM (h2 : fns 2 = some fn_fspath) (m : Nat) (l : List Nat) : callF fns (m + 1) 2 [.str l] = some (.str l) := by
 refine zc8 h2 (ρ := [.val (.str l),.unset,.unset,.unset]) rfl ?_
 show ∃ ρ',ex (callF fns m) s_fspath _ = _
 unfold s_fspath
 exact ⟨_,R_seq (zaj (d := .ty "str") rfl rfl) (zai (R_seq (R_ite (t := true) rfl (R_tt (R_seq (R_ret (d := .str l) rfl) zaB))) zaB))⟩
end
section
variable {cf : CfT}
end
section
variable {fns : Nat → Option Fn}
end
theorem zaT {n : Nat} (h : n ≤ 1000000) : small (n : Int) = true := by
 unfold small
 simp only [Bool.and_eq_true,decide_eq_true_eq]
 omega
theorem zbY {k n : Nat} (h : k ≤ n) : clip (k : Int) n = k := by
 unfold clip
 rw [if_neg (by omega)]
 split <;> omega
theorem o_from {x y : List Nat} (h : x.length ≤ 1000000) : opF .slice [.str (x ++ y),.int (x.length : Int),.none] = some (.val (.str y)) := by
 have e : bound (.int (x.length : Int)) 0 (x ++ y).length = some x.length := by
  show (if small (x.length : Int) = true then some (clip (x.length : Int) (x ++ y).length) else none) = _
  rw [if_pos (zaT h),zbY (by simp)]
 show (match bound (.int (x.length : Int)) 0 (x ++ y).length,bound .none (x ++ y).length (x ++ y).length with
  | some lo,some hi => some (R.val (.str (cut (x ++ y) lo hi)))
  | _,_ => none) = _
 rw [e]
 show some (R.val (.str (cut (x ++ y) x.length (x ++ y).length))) = _
 congr 3
 unfold cut
 simp
theorem zkt {a : List Nat} {c : Nat} : opF .lstrip [.str a,.str [c]] = some (.val (.str (a.dropWhile fun x => x == c))) := by
 show some (R.val (.str (Txt.lstripChars ⟨a.toArray⟩ ⟨[c].toArray⟩).cps.toList)) = _
 rw [lstrip1]
section
variable {fns : Nat → Option Fn}
end
theorem o_mod {n k : Nat} (hk : k ≠ 0) : opF .mod [.int (n : Int),.int (k : Int)] = some (.val (.int ((n % k : Nat) : Int))) := by
 show (if (k : Int) = 0 then none else some (R.val (.int (Int.fmod (n : Int) (k : Int))))) = _
 rw [if_neg (by omega),Int.fmod_eq_emod_of_nonneg _ (by omega)]
 rfl
theorem o_div {n k : Nat} (hk : k ≠ 0) : opF .fdiv [.int (n : Int),.int (k : Int)] = some (.val (.int ((n / k : Nat) : Int))) := by
 show (if (k : Int) = 0 then none else some (R.val (.int (Int.fdiv (n : Int) (k : Int))))) = _
 rw [if_neg (by omega),Int.fdiv_eq_ediv_of_nonneg _ (by omega)]
 rfl
theorem ze2 {l : List D} {k : Nat} {d : D} (h : l[k]? = some d) (hk : k ≤ 1000000) : opF .index [.tup l,.int (k : Int)] = some (.val d) := by
 show (if small (k : Int) = true then (match place (k : Int) l.length with | some k => (l[k]?).map R.val | none => none) else none) = _
 rw [if_pos (zaT hk)]
 unfold place
 have : k < l.length := (List.getElem?_eq_some_iff.mp h).1
 rw [if_pos (by omega),if_pos (by omega)]
 simp only [Int.toNat_natCast,h,Option.map_some]
theorem zcs {l : List D} {k : Nat} {d : D} (h : l[k]? = some d) (hk : k ≤ 1000000) : opF .index [.list l,.int (k : Int)] = some (.val d) := by
 show (if small (k : Int) = true then (match place (k : Int) l.length with | some k => (l[k]?).map R.val | none => none) else none) = _
 rw [if_pos (zaT hk)]
 unfold place
 have : k < l.length := (List.getElem?_eq_some_iff.mp h).1
 rw [if_pos (by omega),if_pos (by omega)]
 simp only [Int.toNat_natCast,h,Option.map_some]
theorem zfP {cf : CfT} {i : Nat} {b : S} {I : Nat → List Slot → Prop} {a : Nat} : ∀ {m : Nat} {ρ : List Slot},I a ρ → (∀ k ρ,a ≤ k → k < a + m → I k ρ → ∃ ρ' o,ex cf b (ρ.set i (.val (.int (k : Int)))) = some (ρ',o) ∧ (o = .next ∨ o = .cont) ∧ I (k + 1) ρ') →
  ∃ ρ',forGo (put1 i) (ex cf b) ((List.range' a m).map fun (k : Nat) => .int (k : Int)) ρ = some (ρ',.next) ∧ I (a + m) ρ' := by
 intro m
 induction m generalizing a with
 | zero => intro ρ h0 _; exact ⟨ρ,rfl,h0⟩
 | succ m ih =>
  intro ρ h0 hs
  obtain ⟨ρ1,o,e1,ho,h1⟩ := hs a ρ (Nat.le_refl _) (by omega) h0
  obtain ⟨ρ2,e2,h2⟩ := ih (a := a + 1) h1 fun k ρ hk1 hk2 hI => hs k ρ (by omega) (by omega) hI
  refine ⟨ρ2, ?_,by rw [show a + (m + 1) = a + 1 + m by omega]; exact h2⟩
  rw [List.range'_succ,List.map_cons]
  refine za4 (st := put1 i) rfl e1 ?_
  rcases ho with rfl | rfl
  ·exact zci e2
  ·exact zj2 e2
theorem upTo_eq {n a : Nat} : (upTo n (a : Int) 1).map D.int = (List.range' a n).map fun (k : Nat) => .int (k : Int) := by
 unfold upTo
 rw [List.map_map,List.range'_eq_map_range,List.map_map]
 apply List.map_congr_left
 intro k _
 simp
theorem ziL {n : Nat} (h : n ≤ 1000000) : opRange [.int (n : Int)] = some ((List.range' 0 n).map fun (k : Nat) => .int (k : Int)) := by
 show (if (small (n : Int) && decide ((n : Int) ≤ 1000000)) = true then some (rangeL 0 (n : Int)) else none) = _
 rw [if_pos (by rw [zaT h]; exact decide_eq_true (Int.ofNat_le.mpr h))]
 unfold rangeL
 have : ((n : Int) - 0).toNat = n := by rw [Int.sub_zero]; rfl
 rw [this]
 exact congrArg some (upTo_eq (a := 0))
theorem o_take1 {t : List Nat} : opF .slice [.str t,.none,.int 1] = some (.val (.str (t.take 1))) := by
 have e : bound (.int 1) t.length t.length = some (clip 1 t.length) := rfl
 show (match bound .none 0 t.length,bound (.int 1) t.length t.length with
  | some lo,some hi => some (R.val (.str (cut t lo hi)))
  | _,_ => none) = _
 rw [e]
 show some (R.val (.str (cut t 0 (clip 1 t.length)))) = _
 congr 3
 cases t with
 | nil => rfl
 | cons c t =>
  have : clip 1 (c :: t).length = 1 := zbY (k := 1) (by simp)
  rw [this]; rfl
theorem take1_head {t : List Nat} : t.take 1 = [47] ↔ t.head? = some 47 := by
 cases t <;> simp
theorem zfC {a b : List D} (h : a.length + b.length ≤ lim) : opF .add [.list a,.list b] = some (.own (a ++ b)) := by
 show (if a.length + b.length ≤ lim then some (R.own (a ++ b)) else none) = _
 rw [if_pos h]
mutual
theorem zfV : ∀ d : D,PyData.eqv d.toPy d.toPy = true
 | .none => by unfold D.toPy; rfl
 | .bool b => by unfold D.toPy; simp [PyData.eqv]
 | .int i => by unfold D.toPy; simp [PyData.eqv]
 | .str l => by unfold D.toPy; simp [PyData.eqv]
 | .list l => by unfold D.toPy; rw [PyData.eqv]; exact zcR l
 | .tup l => by unfold D.toPy; rw [PyData.eqv]; exact zcR l
 | .tok k => by unfold D.toPy; simp [PyData.eqv,PyData.eqvAll]
 | .ty _ => by unfold D.toPy; rfl
theorem zcR : ∀ l : List D,PyData.eqvAll (D.toPys l) (D.toPys l) = true
 | [] => by unfold D.toPys; rfl
 | d :: l => by unfold D.toPys; rw [PyData.eqvAll,zfV d,zcR l]; rfl
end
theorem zgx {l : List D} {n : Nat} (h : n ≤ 1000000) (hl : n ≤ l.length) : opF .slice [.list l,.none,.int (n : Int)] = some (.own (l.take n)) := by
 have e : bound (.int (n : Int)) l.length l.length = some (clip (n : Int) l.length) := by
  show (if small (n : Int) = true then some (clip (n : Int) l.length) else none) = _
  rw [if_pos (zaT h)]
 show (match bound .none 0 l.length,bound (.int (n : Int)) l.length l.length with
  | some lo,some hi => some (R.own (cut l lo hi))
  | _,_ => none) = _
 rw [e]
 show some (R.own (cut l 0 (clip (n : Int) l.length))) = _
 rw [zbY hl]; rfl
theorem o_eqi {a b : Int} : opF .eq [.int a,.int b] = some (.val (.bool (decide (a = b)))) := rfl
theorem zkY {cf : CfT} {i : Nat} {it c e : X} {ρ : List Slot} {items l : List D} (h : ev cf it ρ = some [.val (.list items)]) (hg : compGo (fun d => turnD (ev cf c (ρ.set i (.val d))) (ev cf e (ρ.set i (.val d)))) items = some l) :
  ev cf (.comp i it c e) ρ = some [.own l] := by
 rw [zhy]
 simp only [h,hg,Option.map_some]
theorem zjw {cf : CfT} {i : Nat} {b : S} {I : List Slot → Prop} : ∀ {l : List D} {ρ : List Slot},I ρ → (∀ d ∈ l, ∀ ρ,I ρ → ∃ ρ',ex cf b (ρ.set i (.val d)) = some (ρ',.next) ∧ I ρ') →
  ∃ ρ',forGo (put1 i) (ex cf b) l ρ = some (ρ',.next) ∧ I ρ'
 | [],ρ,h,_ => ⟨ρ,rfl,h⟩
 | d :: l,ρ,h,hs => by
  obtain ⟨ρ1,e1,h1⟩ := hs d List.mem_cons_self ρ h
  obtain ⟨ρ2,e2,h2⟩ := zjw (l := l) h1 fun d hd => hs d (List.mem_cons_of_mem _ hd)
  exact ⟨ρ2,za4 (st := put1 i) rfl e1 (zci e2),h2⟩
theorem zki {α β : Type} (f : α → β) (l : List α) (lo hi st : Option Int) : pick (l.map f) lo hi st = (pick l lo hi st).map f := by
 unfold pick
 rw [List.length_map,List.map_filterMap]
 congr 1
 funext k
 rw [List.getElem?_map]
theorem zer : ∀ l : List Int,toInts (l.map D.int) = some l
 | [] => rfl
 | i :: l => by
  rw [List.map_cons]
  unfold toInts
  rw [zer l]; rfl
theorem o_sumi {l : List Int} : opF .sum [.list (l.map .int)] = some (.val (.int l.sum)) := by
 show (toInts (l.map D.int)).map (fun is => R.val (.int is.sum)) = _
 rw [zer]; rfl
theorem o_absi {i : Int} : opF .abs [.int i] = some (.val (.int (i.natAbs : Int))) := rfl
theorem zkr {ns : List Int} {k n : Nat} (hk : k ≤ 1000000) (hn : n ≤ 1000000) (h0 : n ≠ 0) : opF .slice3 [.list (ns.map .int),.int (k : Int),.none,.int (n : Int)] = some (.own ((pick ns (some (k : Int)) none (some (n : Int))).map .int)) := by
 have e : partD (.int (k : Int)) = some (some (k : Int)) := by
  show (if small (k : Int) = true then some (some (k : Int)) else none) = _
  rw [if_pos (zaT hk)]
 show (match partD (.int (k : Int)),partD .none with
  | some lo,some hi => if (n : Int) ≠ 0 ∧ small (n : Int) then some (R.own (pick (ns.map D.int) lo hi (some (n : Int)))) else none
  | _,_ => none) = _
 rw [e]
 show (if (n : Int) ≠ 0 ∧ small (n : Int) then some (R.own (pick (ns.map D.int) (some (k : Int)) none (some (n : Int)))) else none) = _
 rw [if_pos ⟨by omega,zaT hn⟩,zki]
section
variable {cf : CfT} {ρ : List Slot} {a b c : R}
theorem zap {x xs : X} {rs : List R} (h1 : ev cf x ρ = some [a]) (h2 : ev cf xs ρ = some rs) : ev cf (.cons x xs) ρ = some (a :: rs) := by rw [zdo,h1,h2]; rfl
theorem V_op {f : Op} {xs : X} {rs : List R} {r : R} (h1 : ev cf xs ρ = some rs) (h : opF f (rs.map R.ds) = some r) : ev cf (.op f xs) ρ = some [r] := by rw [zlk,h1]; simp only [h]; rfl
theorem V_op1 {f : Op} {x : X} {r : R} (h1 : ev cf x ρ = some [a]) (h : opF f [a.ds] = some r) : ev cf (.op f (.cons x .nil)) ρ = some [r] := V_op (zap h1 rfl) h
theorem V_op2 {f : Op} {x y : X} {r : R} (h1 : ev cf x ρ = some [a]) (h2 : ev cf y ρ = some [b]) (h : opF f [a.ds,b.ds] = some r) : ev cf (.op f (.cons x (.cons y .nil))) ρ = some [r] := V_op (zap h1 (zap h2 rfl)) h
theorem V_op3 {f : Op} {x y z : X} {r : R} (h1 : ev cf x ρ = some [a]) (h2 : ev cf y ρ = some [b]) (h3 : ev cf z ρ = some [c]) (h : opF f [a.ds,b.ds,c.ds] = some r) : ev cf (.op f (.cons x (.cons y (.cons z .nil)))) ρ = some [r] := V_op (zap h1 (zap h2 (zap h3 rfl))) h
theorem zaW {f : Nat} {xs : X} {rs : List R} {ds : List D} {d : D} (h1 : ev cf xs ρ = some rs) (h2 : fzAll rs = some ds) (h : cf f ds = some d) : ev cf (.call f xs) ρ = some [.val d] := by rw [zhz,h1]; simp only [h2,h]; rfl
theorem zk1 {x y : X} (h1 : ev cf x ρ = some [.val (.bool false)]) : ev cf (.and x y) ρ = some [.val (.bool false)] := by rw [zdW,h1]; rfl
theorem zk0 {x y : X} (h1 : ev cf x ρ = some [.val (.bool true)]) (h2 : ev cf y ρ = some [a]) : ev cf (.and x y) ρ = some [a] := by rw [zdW,h1]; exact h2
theorem zfo {x y z : X} (h1 : ev cf x ρ = some [.val (.bool true)]) (h2 : ev cf y ρ = some [a]) : ev cf (.ite x y z) ρ = some [a] := by rw [zdV,h1]; exact h2
theorem zfp {x y z : X} (h1 : ev cf x ρ = some [.val (.bool false)]) (h2 : ev cf z ρ = some [a]) : ev cf (.ite x y z) ρ = some [a] := by rw [zdV,h1]; exact h2
theorem zbz {x : X} {d : D} {l : List D} (h1 : ev cf x ρ = some [a]) (h2 : a.fz = some d) (h3 : itemsOf d = some l) : ev cf (.seqI x) ρ = some [.val (.list l)] := by rw [zhw,h1]; simp only [h2,h3]; rfl
theorem zhH {xs : X} {rs : List R} {l : List D} (h1 : ev cf xs ρ = some rs) (h : opRange (rs.map R.ds) = some l) : ev cf (.rangeI xs) ρ = some [.val (.list l)] := by rw [zcP,h1]; simp only [h]; rfl
theorem zj0 {x : X} {d : D} (h1 : ev cf x ρ = some [a]) (h2 : a.fz = some d) : ev cf (.list (.cons x .nil)) ρ = some [.own [d]] := by
 rw [zfh,zap h1 rfl]
 simp only [fzAll,h2]
 rfl
theorem E_of {x : X} {d : D} (h : ev cf x ρ = some [a]) (h2 : a.fz = some d) : ev1 cf x ρ = some d := by rw [zjJ,h]; exact h2
theorem T_of {x : X} {t : Bool} (h : ev cf x ρ = some [.val (.bool t)]) : evT cf x ρ = some t := by rw [zhB,h]; rfl
theorem I_of {x : X} {l : List D} (h : ev cf x ρ = some [.val (.list l)]) : evI cf x ρ = some l := by rw [evI_eq,h]; rfl
theorem V_v {ρ : List Slot} {i : Nat} {s : Slot} {d : D} (e : ρ[i]? = some s) (h : s = .val d) : ev cf (.var i) ρ = some [.val d] := by rw [zcO,e,h]
theorem V_or {x y : X} {p q : Bool} (h1 : ev cf x ρ = some [.val (.bool p)]) (h2 : ev cf y ρ = some [.val (.bool q)]) : ev cf (.or x y) ρ = some [.val (.bool (p || q))] := by
 rw [zeI,h1]
 cases p
 ·exact h2
 ·rfl
theorem V_not {x : X} {p : Bool} (h1 : ev cf x ρ = some [.val (.bool p)]) : ev cf (.not x) ρ = some [.val (.bool (!p))] := by
 rw [zcQ,h1]; rfl
theorem zjZ {x y : X} {d e : D} (h1 : ev cf x ρ = some [.val d]) (h2 : ev cf y ρ = some [.val e]) : ev cf (.list (.cons x (.cons y .nil))) ρ = some [.own [d,e]] := by
 rw [zfh,zap h1 (zap h2 rfl)]; rfl
end
section
variable {fns : Nat → Option Fn}
end
noncomputable def NameOK (w : List Nat) : Prop := w ≠ [] ∧ 47 ∉ w
section
variable {fns : Nat → Option Fn}
end
noncomputable def nD (n : List (List Nat)) : D := .list (n.map .str)
section
variable {cf : CfT} {ρ : List Slot} {a b c : R}
theorem zbf {α : Type} {f : D → Option (Option D)} {g v : α → D} {p : α → Bool} : ∀ {l : List α},(∀ a ∈ l,f (g a) = some (if p a then some (v a) else none)) → compGo f (l.map g) = some ((l.filter p).map v)
 | [],_ => rfl
 | a :: l,h => by
  rw [List.map_cons]
  unfold compGo
  rw [h a List.mem_cons_self,zbf fun b hb => h b (List.mem_cons_of_mem _ hb)]
  cases e : p a
  ·rw [List.filter_cons_of_neg (by rw [e]; exact Bool.false_ne_true)]; rfl
  ·rw [List.filter_cons_of_pos e]; rfl
theorem zdq {p : Bool} {x : Option (List R)} {y : Option (List R)} {d : D} {r : R} (h1 : x = some [.val (.bool p)]) (h2 : p = true → y = some [r]) (h3 : r.fz = some d) : turnD x y = some (if p then some d else none) := by
 rw [h1]
 cases p
 ·rfl
 ·rw [h2 rfl]
  show r.fz.map some = _
  rw [h3]; rfl
theorem zhI {α : Type} {i : Nat} {it cd e : X} {l : List α} {g v : α → D} {p : α → Bool} (h : ev cf it ρ = some [.val (.list (l.map g))])
  (hg : ∀ a ∈ l,turnD (ev cf cd (ρ.set i (.val (g a)))) (ev cf e (ρ.set i (.val (g a)))) = some (if p a then some (v a) else none)) : ev cf (.comp i it cd e) ρ = some [.own ((l.filter p).map v)] :=
 zkY h (zbf hg)
end
noncomputable abbrev Nm := List (List Nat)
noncomputable def wd4 : List (List Nat) := [[97],[98],[46,97],[97,98]]
theorem zbr {α β : Type} {l : List α} {f g : α → β} (h : l.map f = l.map g) {a : α} (ha : a ∈ l) : f a = g a := List.map_inj_left.mp h a ha
theorem zdt {α β : Type} {f : Nat → α} {t : List β} {g : β → α} {n k : Nat} {d : β} (h : (List.range n).map f = t.map g) (hk : k < n) : f k = g (t.getD k d) := by
 have h1 := congrArg (·[k]?) h
 simp only [List.getElem?_map,List.getElem?_range hk,Option.map_some] at h1
 cases q : t[k]? with
 | none => rw [q] at h1; injection h1
 | some b => rw [q] at h1; rw [List.getD_eq_getElem?_getD,q]; exact Option.some.inj h1
noncomputable def upd (f : Nat → Slot) (i : Nat) (v : Slot) : Nat → Slot := fun k => if k = i then v else f k
noncomputable def NA (f : Nat → Slot) : Prop := ∀ i k,appOK k (f i) = true
theorem NA.upd {f : Nat → Slot} (h : NA f) {i : Nat} {v : Slot} (hv : ∀ k,appOK k v = true) : NA (upd f i v) := by
 intro j k
 unfold Mine.upd
 split
 ·exact hv k
 ·exact h j k
section
variable {cf : CfT} {f : Nat → Slot}
theorem zgX {ρ : List Slot} {α : Type} {i : Nat} {it e : X} {l : List α} {g v : α → D} (h : ev cf it ρ = some [.val (.list (l.map g))])
  (hg : ∀ a ∈ l, ∃ r,ev cf e (ρ.set i (.val (g a))) = some [r] ∧ r.fz = some (v a)) : ev cf (.comp i it (.const (.bool true)) e) ρ = some [.own (l.map v)] := by
 have := zhI (cf := cf) (i := i) (cd := .const (.bool true)) (e := e) (p := fun _ => true) (v := v) h fun a ha => by
  obtain ⟨r,h1,h2⟩ := hg a ha
  exact zdq (p := true) (d := v a) rfl (fun _ => h1) h2
 rw [List.filter_eq_self.mpr fun _ _ => rfl] at this
 exact this
end
noncomputable def nI (i : Nat) : D := .int (i : Int)
theorem zdD {n : Nat} (h : n ≤ 1000000) : opRange [nI n] = some ((List.range' 0 n).map nI) := ziL h
theorem zeD {α : Type} {g : α → D} {l : List α} : opF .len [.list (l.map g)] = some (.val (nI l.length)) := by
 show some (R.val (.int ((l.map g).length : Int))) = _
 rw [List.length_map]; rfl
theorem ziV {a b : Nat} : opF .add [.int (a : Int),.int (b : Int)] = some (.val (.int ((a + b : Nat) : Int))) := by
 show some (R.val (.int ((a : Int) + (b : Int)))) = _
 congr 3
theorem tupn_at {l : List Nat} {k : Nat} (h : k < l.length) (hk : k ≤ 1000000) : opF .index [.tup (l.map fun (n : Nat) => .int (n : Int)),.int (k : Int)] = some (.val (.int (l.getD k 0 : Int))) := by
 refine ze2 ?_ hk
 rw [List.getElem?_map,List.getD_eq_getElem?_getD,List.getElem?_eq_getElem h]; rfl
noncomputable def npB : S := (.seq (.ite (.or (.not (.var 8)) (.op .eq (.cons (.var 8) (.cons (.var 2) .nil)))) (.seq .cont .skip) .skip) (.seq (.ite (.or (.op .ne (.cons (.var 8) (.cons (.var 3) .nil))) (.or (.and (.not (.var 5)) (.not (.var 7))) (.and (.var 7) (.op .eq (.cons (.op .index (.cons (.var 7) (.cons (.op .neg (.cons (.const (.int 1)) .nil)) .nil))) (.cons (.var 3) .nil)))))) (.seq (.append 7 (.var 8)) .skip) (.seq (.ite (.var 7) (.seq (.pop 7) .skip) .skip) .skip)) .skip))
noncomputable def sp (l : List Nat) : List (List Nat) := (Txt.split ⟨l.toArray⟩ ⟨[47].toArray⟩).map (·.cps.toList)
theorem sp_ne (l : List Nat) : sp l ≠ [] := by
 intro h
 have h' : Txt.split ⟨l.toArray⟩ ⟨[47].toArray⟩ = [] := List.map_eq_nil_iff.mp h
 unfold Txt.split at h'
 split at h'
 ·injection h'
 ·split at h'
  ·injection h'
  ·rw [partsBetween_eq] at h'
   obtain ⟨p,r,e⟩ := partsFrom_ne ⟨l.toArray⟩ (PySem.Str.mk [47].toArray).length 0 (occurrences ⟨l.toArray⟩ ⟨[47].toArray⟩ 0 (PySem.Str.mk l.toArray).length ((PySem.Str.mk l.toArray).length + 1))
   rw [e] at h'; injection h'
theorem sp_free {l : List Nat} : ∀ p ∈ sp l,47 ∉ p := by
 intro p hp
 obtain ⟨q,hq,rfl⟩ := List.mem_map.mp hp
 exact split_free ⟨l.toArray⟩ 47 q hq
theorem zfK : ∀ ps : List PySem.Str,(PySem.Str.join ⟨[47].toArray⟩ ps).cps.toList = joinL [47] (ps.map (·.cps.toList))
 | [] => rfl
 | [x] => rfl
 | x :: y :: r => by
  have ih := zfK (y :: r)
  show ((x ++ ⟨[47].toArray⟩ ++ PySem.Str.join ⟨[47].toArray⟩ (y :: r) : PySem.Str)).cps.toList = x.cps.toList ++ [47] ++ joinL [47] ((y :: r).map (·.cps.toList))
  rw [← ih]
  show (x.cps ++ [47].toArray ++ (PySem.Str.join ⟨[47].toArray⟩ (y :: r)).cps).toList = _
  simp
theorem zka (l : List Nat) : joinL [47] (sp l) = l := by
 have := zfK (Txt.split ⟨l.toArray⟩ ⟨[47].toArray⟩)
 rw [join_split] at this
 exact this.symm
theorem zdR {s a b : List Nat} {r : List (List Nat)} : joinL s (a :: b :: r) = a ++ s ++ joinL s (b :: r) := rfl
theorem zkO {a a' : List Nat} {u v : List Nat} (h : 47 ∉ a) (h' : 47 ∉ a') (e : a ++ 47 :: u = a' ++ 47 :: v) : a = a' ∧ u = v := by
 induction a generalizing a' with
 | nil =>
  cases a' with
  | nil => simp at e; exact ⟨rfl,e⟩
  | cons c a' => simp at e; exact absurd e.1 (by intro q; exact h' (by rw [← q]; simp))
 | cons c a ih =>
  cases a' with
  | nil => simp at e; exact absurd e.1 (by intro q; exact h (by rw [q]; simp))
  | cons d a' =>
   simp at e
   obtain ⟨x,y⟩ := ih (fun q => h (List.mem_cons_of_mem _ q)) (fun q => h' (List.mem_cons_of_mem _ q)) e.2
   exact ⟨by rw [e.1,x],y⟩
theorem zfM : ∀ {a b : List (List Nat)},a ≠ [] → b ≠ [] → (∀ w ∈ a,47 ∉ w) → (∀ w ∈ b,47 ∉ w) → joinL [47] a = joinL [47] b → a = b
 | [],_,h,_,_,_,_ => absurd rfl h
 | _ :: _,[],_,h,_,_,_ => absurd rfl h
 | [x],[y],_,_,_,_,e => by rw [show x = y from e]
 | [x],y :: z :: r,_,_,h1,_,e => by
  exfalso
  have : x = y ++ [47] ++ joinL [47] (z :: r) := e
  exact h1 x (by simp) (by rw [this]; simp)
 | x :: z :: r,[y],_,_,_,h2,e => by
  exfalso
  have : x ++ [47] ++ joinL [47] (z :: r) = y := e
  exact h2 y (by simp) (by rw [← this]; simp)
 | x :: z :: r,y :: w :: t,_,_,h1,h2,e => by
  have e' : x ++ 47 :: joinL [47] (z :: r) = y ++ 47 :: joinL [47] (w :: t) := by
   have e2 : x ++ [47] ++ joinL [47] (z :: r) = y ++ [47] ++ joinL [47] (w :: t) := e
   simpa using e2
  obtain ⟨a,b⟩ := zkO (h1 x (by simp)) (h2 y (by simp)) e'
  rw [a,zfM (by simp) (by simp) (fun w hw => h1 w (List.mem_cons_of_mem _ hw)) (fun w hw => h2 w (List.mem_cons_of_mem _ hw)) b]
theorem sp_of {ns : List (List Nat)} (h0 : ns ≠ []) (h : ∀ w ∈ ns,47 ∉ w) : sp (joinL [47] ns) = ns := zfM (sp_ne _) h0 sp_free h (zka _)
theorem zgy {l : List Nat} (h : l.length + 2 ≤ lim) : opF .split [.str l,.str [47]] = some (.own ((sp l).map .str)) := by
 show (if ([47] : List Nat).length = 1 ∧ l.length + 2 ≤ lim then some (R.own ((Txt.split ⟨l.toArray⟩ ⟨[47].toArray⟩).map fun x => .str x.cps.toList)) else none) = _
 rw [if_pos ⟨rfl,h⟩]
 unfold sp
 rw [List.map_map]; rfl
theorem zdg : ∀ ls : List (List Nat),toStrs (ls.map .str) = some ls
 | [] => rfl
 | l :: ls => by
  rw [List.map_cons]
  unfold toStrs
  rw [zdg ls]; rfl
theorem zdI {ls : List (List Nat)} (h : (joinL [47] ls).length ≤ lim) : opF .join [.str [47],.list (ls.map .str)] = some (.val (.str (joinL [47] ls))) := by
 show (match toStrs (ls.map .str) with
  | some ls => if (joinL [47] ls).length ≤ lim then some (R.val (.str (joinL [47] ls))) else none
  | none => none) = _
 rw [zdg]
 simp only
 rw [if_pos h]
set_option genInjectivity false in
structure Clean (w : List Nat) : Prop where
 ne : w ≠ []
 sl : 47 ∉ w
 d1 : w ≠ [46]
 d2 : w ≠ [46,46]
noncomputable def told (ns : List (List Nat)) : List Nat := 47 :: joinL [47] ns
theorem Clean.nm {w : List Nat} (h : Clean w) : NameOK w := ⟨h.ne,h.sl⟩
theorem zhn {ns : List (List Nat)} (h0 : ns ≠ []) (h : ∀ w ∈ ns,NameOK w) : joinL [47] ns ≠ [] := by
 match ns,h0 with
 | [x],_ => exact (h x (by simp)).1
 | x :: y :: r,_ => rw [zdR]; simp
theorem zcM {ns : List (List Nat)} (h : ∀ w ∈ ns,NameOK w) : (joinL [47] ns).head? ≠ some 47 := by
 intro q
 match ns with
 | [] => injection q
 | [x] => exact (h x (by simp)).2 (List.mem_of_head? q)
 | x :: y :: r =>
  obtain ⟨h0,h1⟩ := h x (by simp)
  cases x with
  | nil => exact h0 rfl
  | cons c x => (injection q with q; subst q); exact h1 (by simp)
theorem o_cut12 {t : List Nat} : opF .slice [.str (47 :: t),.int 1,.int 2] = some (.val (.str (t.take 1))) := by
 have e1 : bound (.int 1) 0 (47 :: t).length = some (clip 1 (47 :: t).length) := rfl
 have e2 : bound (.int 2) (47 :: t).length (47 :: t).length = some (clip 2 (47 :: t).length) := rfl
 show (match bound (.int 1) 0 (47 :: t).length,bound (.int 2) (47 :: t).length (47 :: t).length with
  | some lo,some hi => some (R.val (.str (cut (47 :: t) lo hi)))
  | _,_ => none) = _
 rw [e1,e2]
 show some (R.val (.str (cut (47 :: t) (clip 1 (47 :: t).length) (clip 2 (47 :: t).length)))) = _
 have c1 : clip 1 (47 :: t).length = 1 := zbY (k := 1) (by simp)
 rw [c1]
 cases t with
 | nil => rfl
 | cons c t =>
  have c2 : clip 2 (47 :: c :: t).length = 2 := zbY (k := 2) (by simp)
  rw [c2]; rfl
theorem o_from1 {t : List Nat} : opF .slice [.str (47 :: t),.int 1,.none] = some (.val (.str t)) := by
 have := o_from (x := [47]) (y := t) (by simp)
 exact this
theorem zkq {t : List Nat} : opF .slice [.str (47 :: t),.none,.int 1] = some (.val (.str [47])) := o_take1
theorem ne_head {t : List Nat} (h : t.head? ≠ some 47) : opF .ne [.str (t.take 1),.str [47]] = some (.val (.bool true)) := by
 rw [ne_str,decide_eq_false (fun q => h (take1_head.mp q))]; rfl
section
variable {fns : Nat → Option Fn}
theorem zd9 (h2 : fns 2 = some fn_fspath) (h7 : fns 7 = some fn_splitroot) (m : Nat) {t : List Nat} (h : t.head? ≠ some 47) : callF fns (m + 2) 7 [.str (47 :: t)] = some (.tup [.str [],.str [47],.str t]) := by
 refine zc8 h7 (ρ := [.val (.str (47 :: t)),.unset,.unset]) rfl ?_
 show ∃ ρ',ex (callF fns (m + 1)) s_splitroot _ = _
 have f1 := zbM h2 m (47 :: t)
 generalize callF fns (m + 1) = cf at *
 have c : ev cf (.or (.op .ne (.cons (.op .slice (.cons (.var 0) (.cons (.const (.int 1)) (.cons (.const (.int 2)) .nil)))) (.cons (.var 1) .nil))) (.op .eq (.cons (.op .slice (.cons (.var 0) (.cons (.const (.int 2)) (.cons (.const (.int 3)) .nil)))) (.cons (.var 1) .nil)))) [.val (.str (47 :: t)),.val (.str [47]),.val (.str [])] = some [.val (.bool true)] := by
  rw [zeI,V_op2 (V_op3 (V_v rfl rfl) rfl rfl o_cut12) (V_v rfl rfl) (ne_head h)]; rfl
 have k : ev cf (.tup (.cons (.var 2) (.cons (.var 1) (.cons (.op .slice (.cons (.var 0) (.cons (.const (.int 1)) (.cons (.const .none) .nil)))) .nil)))) [.val (.str (47 :: t)),.val (.str [47]),.val (.str [])] = some [.val (.tup [.str [],.str [47],.str t])] := by
  rw [zgL,zap (V_v rfl rfl) (zap (V_v rfl rfl) (zap (V_op3 (V_v rfl rfl) rfl rfl o_from1) rfl))]; rfl
 unfold s_splitroot
 exact ⟨_,R_seq (zaj (E_of (zaW (zap (V_v rfl rfl) rfl) rfl f1) rfl) rfl) (zai (R_seq (R_ite (t := false) (T_of (V_op2 (V_v rfl rfl) rfl rfl)) (R_ff (R_seq (zaj rfl rfl) (zai (R_seq (zaj rfl rfl) (zai zaz)))))) (zai (R_seq (R_ite (t := false) (T_of (V_op2 (V_op3 (V_v rfl rfl) rfl rfl zkq) (V_v rfl rfl) rfl)) (R_ff (R_seq (R_ite (t := true) (T_of c) (R_tt (R_seq (R_ret (E_of k rfl)) zaB))) zaB))) zaB))))⟩
theorem ziX {cf : CfT} {x0 x4 x6 : Slot} : ∀ (ns : List (List Nat)),(∀ w ∈ ns,Clean w) → ∀ (acc : List D) (x8 : Slot),acc.length + ns.length < lim →
  ∃ y8,forGo (put1 8) (ex cf npB) (ns.map .str) [x0,.val (.str [47]),.val (.str [46]),.val (.str [46,46]),x4,.val (.str [47]),x6,.own acc,x8] =
   some ([x0,.val (.str [47]),.val (.str [46]),.val (.str [46,46]),x4,.val (.str [47]),x6,.own (acc ++ ns.map .str),y8],.next) := by
 intro ns
 induction ns with
 | nil => intro _ acc x8 _; exact ⟨x8,by rw [List.map_nil,List.append_nil]; rfl⟩
 | cons w ns ih =>
  intro h acc x8 hl
  obtain ⟨h1,h2,h3,h4⟩ := h w List.mem_cons_self
  rw [List.length_cons, ← Nat.succ_add_eq_add_succ] at hl
  obtain ⟨y8,e⟩ := ih (fun v hv => h v (List.mem_cons_of_mem _ hv)) (acc ++ [.str w]) (.val (.str w)) (by rw [List.length_append]; exact hl)
  have k1 : opF .eq [.str w,.str [46]] = some (.val (.bool false)) := by rw [eq_str,decide_eq_false h3]
  have k2 : opF .ne [.str w,.str [46,46]] = some (.val (.bool true)) := by rw [ne_str,decide_eq_false h4]; rfl
  refine ⟨y8, ?_⟩
  rw [List.map_cons]
  refine za4 (st := put1 8) rfl (o := .next) (ρ₂ := [x0,.val (.str [47]),.val (.str [46]),.val (.str [46,46]),x4,.val (.str [47]),x6,.own (acc ++ [.str w]),.val (.str w)]) ?_ (zci ?_)
  ·unfold npB
   have n1 : ev cf (.not (.var 8)) [x0,.val (.str [47]),.val (.str [46]),.val (.str [46,46]),x4,.val (.str [47]),x6,.own acc,.val (.str w)] = some [.val (.bool false)] := by
    rw [zcQ,V_v rfl rfl]
    cases w with
    | nil => exact absurd rfl h1
    | cons c w => rfl
   refine R_seq (R_ite (T_of (V_or n1 (V_op2 (V_v rfl rfl) (V_v rfl rfl) k1))) (R_ff zaz)) (zai (R_seq (R_ite (t := true) ?_ (R_tt (R_seq (zhJ (E_of (V_v rfl rfl) rfl) rfl (Nat.lt_of_le_of_lt (Nat.le_trans (Nat.le_succ _) (Nat.le_add_right _ _)) hl) rfl) (zai zaz)))) (zai zaz)))
   rw [zhB,zeI,V_op2 (V_v rfl rfl) (V_v rfl rfl) k2]; rfl
  ·rw [e,List.append_assoc]; rfl
theorem ziW (h2 : fns 2 = some fn_fspath) (h7 : fns 7 = some fn_splitroot) (h9 : fns 9 = some fn_normpath) (m : Nat) {ns : List (List Nat)} (h : ∀ w ∈ ns,Clean w) (hl : (told ns).length ≤ 100000) (hn : ns.length ≤ 100000) : callF fns (m + 3) 9 [.str (told ns)] = some (.str (told ns)) := by
 refine zc8 h9 (ρ := [.val (.str (told ns)),.unset,.unset,.unset,.unset,.unset,.unset,.unset,.unset]) rfl ?_
 show ∃ ρ',ex (callF fns (m + 2)) s_normpath _ = _
 have f1 := zbM h2 (m + 1) (told ns)
 have f7 : callF fns (m + 2) 7 [.str (told ns)] = some (.tup [.str [],.str [47],.str (joinL [47] ns)]) := zd9 h2 h7 m (zcM fun w hw => (h w hw).nm)
 have hl2 : (joinL [47] ns).length + 1 ≤ 100000 := hl
 have k1 := zgy (l := joinL [47] ns) (Nat.le_trans (Nat.succ_le_succ hl2) (by decide))
 have k3 := zdI (ls := ns) (Nat.le_trans (Nat.le_of_succ_le hl2) (by decide))
 have k4 : opF .add [.str [47],.str (joinL [47] ns)] = some (.val (.str (told ns))) := zbC (by rw [Nat.add_comm]; exact Nat.le_trans hl2 (by decide))
 have lp : ∃ y8,forGo (put1 8) (ex (callF fns (m + 2)) npB) ((sp (joinL [47] ns)).map .str) [.val (.str (joinL [47] ns)),.val (.str [47]),.val (.str [46]),.val (.str [46,46]),.val (.str []),.val (.str [47]),.val (.list ((sp (joinL [47] ns)).map .str)),.own [],.unset] =
   some ([.val (.str (joinL [47] ns)),.val (.str [47]),.val (.str [46]),.val (.str [46,46]),.val (.str []),.val (.str [47]),.val (.list ((sp (joinL [47] ns)).map .str)),.own (ns.map .str),y8],.next) := by
  by_cases h0 : ns = []
  ·subst h0
   have e : sp (joinL [47] []) = [[]] := by
    exact sp_of (ns := [[]]) (by decide) (by decide)
   rw [e]
   exact ⟨_,za4 (st := put1 8) rfl (R_seq (R_ite (t := true) rfl (R_tt (R_seq R_cont zeN))) zeN) (zj2 zk2)⟩
  ·rw [sp_of h0 fun w hw => (h w hw).sl]
   obtain ⟨y8,e⟩ := ziX (cf := callF fns (m + 2)) (x0 := .val (.str (joinL [47] ns))) (x4 := .val (.str [])) (x6 := .val (.list (ns.map .str))) ns h [] .unset (by rw [List.length_nil,Nat.zero_add]; exact Nat.lt_of_le_of_lt hn (by decide))
   exact ⟨y8,e⟩
 obtain ⟨y8,lp⟩ := lp
 unfold npB at lp
 generalize callF fns (m + 2) = cf at *
 have k5 : ev1 cf (.or (.var 0) (.var 2)) [.val (.str (told ns)),.val (.str [47]),.val (.str [46]),.val (.str [46,46]),.val (.str []),.val (.str [47]),.val (.list (ns.map .str)),.val (.list (ns.map .str)),y8] = some (.str (told ns)) := rfl
 unfold s_normpath
 refine ⟨_,R_seq (zaj (E_of (zaW (zap (V_v rfl rfl) rfl) rfl f1) rfl) rfl) (zai (R_seq (R_ite (t := false) (T_of (V_op2 (V_v rfl rfl) rfl rfl)) (R_ff (R_seq (zaj rfl rfl) (zai (R_seq (zaj rfl rfl) (zai (R_seq (zaj rfl rfl) (zai zaz)))))))) (zai (R_seq (R_ite (t := false) rfl (R_ff zaz)) (zai (R_seq (zj3 (E_of (zaW (zap (V_v rfl rfl) rfl) rfl f7) rfl) rfl) (zai
  (R_seq (zaj (E_of (V_op2 (V_v rfl rfl) (V_v rfl rfl) k1) rfl) rfl) (zai (R_seq (zgb (l := []) rfl rfl rfl) (zai (R_seq (R_for (I_of (zbz (V_v rfl rfl) rfl rfl)) lp) (zai (R_seq (R_seq (R_fz rfl rfl) (zai (zaj (E_of (V_v rfl rfl) rfl) rfl))) (zai (R_seq (zaj (E_of (V_op2 (V_v rfl rfl) (V_op2 (V_v rfl rfl) (V_v rfl rfl) k3) k4) rfl) rfl) (zai (R_seq (R_ret k5) zaB))))))))))))))))))⟩
theorem zhG (h2 : fns 2 = some fn_fspath) (h7 : fns 7 = some fn_splitroot) (h9 : fns 9 = some fn_normpath) (h10 : fns 10 = some fn_abspath) (m : Nat) {ns : List (List Nat)} (h : ∀ w ∈ ns,Clean w) (hl : (told ns).length ≤ 100000) (hn : ns.length ≤ 100000) : callF fns (m + 4) 10 [.str (told ns)] = some (.str (told ns)) := by
 refine zc8 h10 (ρ := [.val (.str (told ns))]) rfl ?_
 show ∃ ρ',ex (callF fns (m + 3)) s_abspath _ = _
 have f1 := zbM h2 (m + 2) (told ns)
 have f9 := ziW h2 h7 h9 m h hl hn
 have k3 : opF .startswith [.str (told ns),.str [47]] = some (.val (.bool true)) := by rw [zc1,decide_eq_true (by rfl)]
 unfold s_abspath
 exact ⟨_,R_seq (zaj (E_of (zaW (zap (V_v rfl rfl) rfl) rfl f1) rfl) rfl) (zai (R_seq (R_ite (t := false) (T_of (V_op2 (V_v rfl rfl) rfl rfl)) (R_ff (R_seq (R_ite (t := false) (T_of (V_not (p := true) (V_op2 (V_v rfl rfl) rfl k3))) (R_ff zaz)) (zai zaz)))) (zai (R_seq (R_ret (E_of (zaW (zap (V_v rfl rfl) rfl) rfl f9) rfl)) zaB))))⟩
end
end Mine
end
section
open PySem PySem.StrLaws PySem.Builtin PySem.Builtin.Str
noncomputable section
namespace Mine
noncomputable def V9 : List Nm := wd4.map (fun a => [a]) ++ wd4.flatMap (fun a => wd4.map fun b => [a,b])
noncomputable def E9 : List Nm := V9 ++ wd4.flatMap (fun a => wd4.flatMap fun b => wd4.map fun c => [a,b,c])
noncomputable def pt (n : Nm) : List Nat := joinL [47] n
noncomputable def rt (r : Bool) : List Nat := if r then [47] else []
noncomputable def tT (k : Nat) : List Nat := [[42],[97],[97,42],[63],[91,33,97,93,42],[42,98],[91,46,45,97,93,63],[46,42],[91,98,45,97,93],[91,33,98,45,97,93,98],[98],[42,91,97,98,93],[97,63,98]].getD k []
noncomputable def mD (k : Nat) : D := [.list [.none],.list [.str [97]],.list [.str [97],.none],.list [.str [46,97,98]],.list [.str [46,98],.none],.list [.none,.str [98]],.list [.str [46,97],.str [46,97,98]],.list [.str [46],.none],.list [.str []],.list [.str [46,97,98],.str [98]],.list [.str [98]],.list [.none,.str [97,98]],.list [.str [97],.str [46,97,98],.str [98]]].getD k .none
noncomputable def pcD (k : Nat) : D := .tup [.str (tT k),mD k]
noncomputable def tabP : List (List D) := [[.tok 0],[.str [97]],[.str [97],.tok 0],[.str [46]],[.str [91,94,97,93],.tok 0],[.tok 0,.str [98]],[.str [91,46,45,97,93],.str [46]],[.str [92,46],.tok 0],[.str [40,63,33,41]],[.str [46],.str [98]],[.str [98]],[.tok 0,.str [91,97,98,93]],[.str [97],.str [46],.str [98]]]
noncomputable def tabB : List (List Bool) := [[true,true,true,true],[true,false,false,false],[true,false,false,true],[true,true,false,false],[false,true,true,false],[false,true,false,true],[false,false,true,true],[false,false,true,false],[false,false,false,false],[false,false,false,true],[false,true,false,false],[true,true,true,true],[false,false,false,false]]
noncomputable def tP (k : Nat) : List D := tabP.getD k []
noncomputable def mB (k : Nat) (t : List Nat) : Bool := (tabB.getD k []).getD (wd4.idxOf t) false
noncomputable def lst (n : Nm) : List Nat := n.getLastD []
noncomputable def pths : List (Bool × Nm) := [false,true].flatMap fun r => E9.map fun n => (r,n)
noncomputable def px (x : Bool × Nm) : List Nat := rt x.1 ++ pt x.2
theorem za3 {r : Bool} {n : Nm} (h : n ∈ E9) : (r,n) ∈ pths := List.mem_flatMap.mpr ⟨r,by cases r <;> decide,List.mem_map_of_mem h⟩
theorem join9 (m : Nat) : wd4.map (fun w => V9.map fun n => callF fns09 (m + 2) 4 [.str w,.str (pt n)]) = wd4.map (fun w => V9.map fun n => some (.str (pt (w :: n)))) := by kernel_rfl
theorem root9 (m : Nat) : pths.map (fun x => callF fns09 (m + 2) 7 [.str (px x)]) = pths.map (fun x => some (.tup [.str [],.str (rt x.1),.str (pt x.2)])) := by kernel_rfl
theorem norm9 (m : Nat) : pths.map (fun x => callF fns09 (m + 3) 9 [.str (px x)]) = pths.map (fun x => some (.str (px x))) := by kernel_rfl
theorem split9 (m : Nat) : pths.map (fun x => callF fns09 (m + 2) 5 [.str (px x)]) = pths.map (fun x => some (.tup [.str (rt x.1 ++ pt x.2.dropLast),.str (lst x.2)])) := by kernel_rfl
theorem names9 : E9.map (fun n => opF .split [.str (pt n),.str [47]]) = E9.map (fun n => some (.own (n.map .str))) := by kernel_rfl
theorem cut9 : pths.map (fun x => opF .slice [.str (px x),nI (rt x.1).length,.none]) = pths.map (fun x => some (R.val (.str (pt x.2)))) := by kernel_rfl
theorem but9 : E9.map (fun n => opF .slice [nD n,.none,.int (-1)]) = E9.map (fun n => some (.own (n.dropLast.map .str))) := by kernel_rfl
theorem last9 : E9.map (fun n => opF .index [nD n,.int (-1)]) = E9.map (fun n => some (R.val (.str (lst n)))) := by kernel_rfl
theorem tr9 (m : Nat) : (List.range 13).map (fun k => callF fns09 (m + 2) 1 [.str (tT k),.tok 0,.str [46]]) = tabP.map fun l => some (.list l) := by kernel_rfl
theorem tk9 (m : Nat) : (List.range 13).map (fun k => (List.range 4).map fun w => callF fns09 (m + 2) 15 [.list (tP k),.tok 0,.str (wd4.getD w [])]) = tabB.map fun l => l.map fun b => some (.bool b) := by kernel_rfl
theorem mn9 (m : Nat) : (List.range 13).map (fun k => (List.range 4).map fun w => callF fns09 (m + 5) 16 [mD k,.str (wd4.getD w [])]) = tabB.map fun l => l.map fun b => some (.bool b) := by kernel_rfl
theorem zio {t : List Nat} (h : t ∈ wd4) : wd4.idxOf t < 4 ∧ wd4.getD (wd4.idxOf t) [] = t := by
 have h1 : wd4.idxOf t < wd4.length := List.idxOf_lt_length_iff.mpr h
 refine ⟨h1, ?_⟩
 rw [List.getD_eq_getElem?_getD,List.getElem?_eq_getElem h1]
 exact List.getElem_idxOf h1
theorem takes9 (m : Nat) {k : Nat} {t : List Nat} (h : k < 13) (ht : t ∈ wd4) : callF fns09 (m + 2) 15 [.list (tP k),.tok 0,.str t] = some (.bool (mB k t)) := by
 obtain ⟨h1,h2⟩ := zio ht
 have e := zdt (f := fun w => callF fns09 (m + 2) 15 [.list (tP k),.tok 0,.str (wd4.getD w [])]) (g := fun b => some (D.bool b)) (d := false) (zdt (g := fun (l : List Bool) => l.map fun b => some (D.bool b)) (d := []) (tk9 m) h) h1
 simp only [h2] at e
 exact e
theorem means9 (m : Nat) {k : Nat} {t : List Nat} (h : k < 13) (ht : t ∈ wd4) : callF fns09 (m + 5) 16 [mD k,.str t] = some (.bool (mB k t)) := by
 obtain ⟨h1,h2⟩ := zio ht
 have e := zdt (f := fun w => callF fns09 (m + 5) 16 [mD k,.str (wd4.getD w [])]) (g := fun b => some (D.bool b)) (d := false) (zdt (g := fun (l : List Bool) => l.map fun b => some (D.bool b)) (d := []) (mn9 m) h) h1
 simp only [h2] at e
 exact e
theorem trans9 (m : Nat) {k : Nat} (h : k < 13) : callF fns09 (m + 2) 1 [.str (tT k),.tok 0,.str [46]] = some (.list (tP k)) := zdt (tr9 m) h
theorem zkW (m l : Nat) : callF fns09 (m + 1) 17 [nI l] = some (pcD (l % 13)) := by
 refine zc8 (fn := fn_law_dressed) rfl (ρ := [.val (nI l),.unset]) rfl ?_
 show ∃ ρ',ex (callF fns09 m) s_law_dressed _ = _
 have h : opF .index [.tup ((List.range 13).map pcD),nI (l % 13)] = some (.val (pcD (l % 13))) := by
  have hl : l % 13 < 13 := Nat.mod_lt _ (by decide)
  refine ze2 ?_ (Nat.le_trans (Nat.le_of_lt hl) (by decide))
  rw [List.getElem?_map,List.getElem?_range hl]; rfl
 unfold s_law_dressed
 exact ⟨_,R_seq (zaj (d := .tup ((List.range 13).map pcD)) rfl rfl) (zai (R_seq (R_ret (E_of (V_op2 rfl (V_op2 rfl rfl (o_mod (n := l) (k := 13) (by decide))) h) rfl)) zaB))⟩
theorem word9 : ∀ n ∈ E9, ∀ w ∈ n,w ∈ wd4 := by decide +kernel
theorem len9 : ∀ n ∈ E9,n.length ≤ 3 ∧ n ≠ [] := by decide +kernel
theorem in9 : ∀ w ∈ wd4, ∀ n ∈ [] :: V9,w :: n ∈ E9 := by decide +kernel
theorem two9 : ∀ n ∈ E9,n.length ≤ 2 → n ∈ V9 := by decide +kernel
theorem ne9 : ∀ n ∈ E9,pt n ≠ [] := by decide +kernel
theorem zhD : ∀ w ∈ wd4,Clean w := fun w hw => by
 have h := (show ∀ w ∈ wd4,(w ≠ [] ∧ 47 ∉ w) ∧ w ≠ [46] ∧ w ≠ [46,46] by decide) w hw
 exact ⟨h.1.1,h.1.2,h.2.1,h.2.2⟩
end Mine
end
section
open PySem PySem.StrLaws PySem.Builtin PySem.Builtin.Str
namespace Mine
noncomputable def cpB : S := (.seq (.ite (.op .ne (.cons (.var 4) (.cons (.op .index (.cons (.var 2) (.cons (.var 3) .nil))) .nil))) (.seq (.ret (.op .slice (.cons (.var 1) (.cons (.const .none) (.cons (.var 3) .nil))))) .skip) .skip) .skip)
noncomputable abbrev Nms := List (List Nat)
noncomputable def cp : Nms → Nms → Nms
 | x :: a,y :: b => if x = y then x :: cp a b else []
 | _,_ => []
theorem zbc {x y : List Nat} {a b : Nms} : cp (x :: a) (y :: b) = if x = y then x :: cp a b else [] := rfl
theorem cp_nil {a : Nms} : cp a [] = [] := by cases a <;> rfl
theorem zgO : ∀ a b : Nms,cp a b = cp b a
 | [],[] => rfl
 | [],_ :: _ => rfl
 | _ :: _,[] => rfl
 | x :: a,y :: b => by
  rw [zbc,zbc]
  by_cases h : x = y
  ·rw [if_pos h,if_pos h.symm,h,zgO a b]
  ·rw [if_neg h,if_neg fun e => h e.symm]
theorem zfY : ∀ a b : Nms,(cp a b).length ≤ a.length
 | [],_ => Nat.le_refl _
 | _ :: _,[] => Nat.zero_le _
 | x :: a,y :: b => by
  rw [zbc]
  split
  ·exact Nat.succ_le_succ (zfY a b)
  ·exact Nat.zero_le _
theorem ltL_irr {a : List Nat} : ltL a a = false := decide_eq_false (List.lt_irrefl a)
theorem zkF {a b : List Nat} (h : ltL a b = true) : ltL b a = false := decide_eq_false fun h2 => List.lt_asymm (of_decide_eq_true h) h2
theorem zjf {a b : List Nat} (h : ltL a b = false) (h2 : ltL b a = false) : a = b := by
 have h1 : ¬ a < b := of_decide_eq_false h
 have h2 : ¬ b < a := of_decide_eq_false h2
 exact List.le_antisymm (List.not_lt.mp h2) (List.not_lt.mp h1)
theorem zcc {x y : List Nat} {a b : Nms} : ltSs (x :: a) (y :: b) = if x = y then ltSs a b else ltL x y := by rw [ltSs]
theorem zhl : ∀ a : Nms,ltSs a a = false
 | [] => by rw [ltSs]
 | x :: a => by rw [zcc,if_pos rfl,zhl a]
theorem zjd : ∀ {a b : Nms},ltSs a b = true → ltSs b a = false
 | [],[],h => by rw [ltSs] at h; injection h
 | [],_ :: _,_ => by rw [ltSs]
 | _ :: _,[],h => by rw [ltSs] at h; injection h
 | x :: a,y :: b,h => by
  rw [zcc] at h ⊢
  by_cases e : x = y
  ·rw [if_pos e] at h
   rw [if_pos e.symm]
   exact zjd h
  ·rw [if_neg e] at h
   rw [if_neg fun q => e q.symm]
   exact zkF h
theorem zhk : ∀ {a b : Nms},ltSs a b = false → ltSs b a = false → a = b
 | [],[],_,_ => rfl
 | [],_ :: _,h,_ => by rw [ltSs] at h; injection h
 | _ :: _,[],_,h => by rw [ltSs] at h; injection h
 | x :: a,y :: b,h,h2 => by
  rw [zcc] at h h2
  by_cases e : x = y
  ·rw [if_pos e] at h
   rw [if_pos e.symm] at h2
   rw [e,zhk h h2]
  ·rw [if_neg e] at h
   rw [if_neg fun q => e q.symm] at h2
   exact absurd (zjf h h2) e
theorem zhm {a b : Nms} : ltD (nD a) (nD b) = some (ltSs a b) := by
 show (match toStrs (a.map .str),toStrs (b.map .str) with | some x,some y => some (ltSs x y) | _,_ => none) = _
 rw [zdg,zdg]
theorem o_min2 {a b : Nms} : opF .min [.list [nD a,nD b]] = some (.val (nD (if ltSs b a = true then b else a))) := by
 show (bestGo ltD (nD a) [nD b]).map R.val = _
 unfold bestGo
 rw [zhm]
 cases ltSs b a <;> rfl
theorem o_max2 {a b : Nms} : opF .max [.list [nD a,nD b]] = some (.val (nD (if ltSs a b = true then b else a))) := by
 show (bestGo gtD (nD a) [nD b]).map R.val = _
 unfold bestGo
 rw [show gtD (nD b) (nD a) = some (ltSs a b) from zhm]
 cases ltSs a b <;> rfl
theorem ziU {l : List D} {n : Nat} (h : n ≤ 1000000) (hl : n ≤ l.length) : opF .slice [.list l,.int (n : Int),.none] = some (.own (l.drop n)) := by
 have e : bound (.int (n : Int)) 0 l.length = some (clip (n : Int) l.length) := by
  show (if small (n : Int) = true then some (clip (n : Int) l.length) else none) = _
  rw [if_pos (zaT h)]
 show (match bound (.int (n : Int)) 0 l.length,bound .none l.length l.length with
  | some lo,some hi => some (R.own (cut l lo hi))
  | _,_ => none) = _
 rw [e]
 show some (R.own (cut l (clip (n : Int) l.length) l.length)) = _
 rw [zbY hl]
 unfold cut
 rw [List.take_of_length_le (by rw [List.length_drop]; exact Nat.le_refl _)]
theorem rep1 {x : D} : ∀ n : Nat,(List.replicate n [x]).flatten = List.replicate n x
 | 0 => rfl
 | n + 1 => congrArg (x :: ·) (rep1 n)
theorem zlf {x : D} {n : Nat} (h : n ≤ 1000000) : opF .mul [.list [x],.int (n : Int)] = some (.own (List.replicate n x)) := by
 show (if (small (n : Int) && decide (([x] : List D).length * (n : Int).toNat ≤ lim)) = true then some (R.own (rep [x] (n : Int))) else none) = _
 rw [if_pos]
 ·unfold rep
  rw [Int.toNat_natCast,rep1]
 ·rw [Bool.and_eq_true,decide_eq_true_eq,Int.toNat_natCast]
  exact ⟨zaT h,by rw [List.length_singleton,Nat.one_mul]; exact h⟩
inductive CpO (s1 : Nms) (p u v : Nms) (x0 : Slot) (s2 : Nms) : Option (List Slot × Out) → Prop
 | ret {ρ' : List Slot} : CpO s1 p u v x0 s2 (some (ρ',.ret (nD (p ++ cp u v))))
 | all {x3 x4 : Slot} : cp u v = u → CpO s1 p u v x0 s2 (some ([x0,.val (nD s1),.val (nD s2),x3,x4],.next))
section
variable {cf : CfT} {x0 x3 x4 : Slot}
theorem cp_loop : ∀ (u v p : Nms) (x3 x4 : Slot),(p ++ u).length ≤ 100000 → ltSs v u = false → CpO (p ++ u) p u v x0 (p ++ v) (forGo (put2 3 4) (ex cf cpB) (enumL (p.length : Int) (u.map .str)) [x0,.val (nD (p ++ u)),.val (nD (p ++ v)),x3,x4]) := by
 intro u
 induction u with
 | nil => intro v p x3 x4 _ _; exact .all rfl
 | cons c u ih =>
  intro v p x3 x4 hl hlt
  cases v with
  | nil => rw [ltSs] at hlt; injection hlt
  | cons d v =>
   have hp : p.length ≤ 1000000 := by
    rw [List.length_append] at hl
    exact Nat.le_trans (Nat.le_trans (Nat.le_add_right _ _) hl) (by decide)
   have h1 : opF .index [nD (p ++ d :: v),.int (p.length : Int)] = some (.val (.str d)) := zcs (by rw [List.map_append,List.getElem?_append_right (by rw [List.length_map]; exact Nat.le_refl _),List.length_map,Nat.sub_self]; rfl) hp
   have h2 : opF .ne [.str c,.str d] = some (.val (.bool (!decide (c = d)))) := ne_str c d
   have h3 : opF .slice [nD (p ++ c :: u),.none,.int (p.length : Int)] = some (.own (p.map .str)) := by
    have := zgx (l := (p ++ c :: u).map D.str) (n := p.length) hp (by rw [List.length_map,List.length_append]; exact Nat.le_add_right _ _)
    rw [← List.map_take,List.take_left' rfl] at this
    exact this
   have t : ∀ {ρ1 o res},ex cf cpB [x0,.val (nD (p ++ c :: u)),.val (nD (p ++ d :: v)),.val (.int (p.length : Int)),.val (.str c)] = some (ρ1,o) → fOut cf (put2 3 4) cpB (enumL ((p.length : Int) + 1) (u.map .str)) ρ1 o = res →
     forGo (put2 3 4) (ex cf cpB) (enumL (p.length : Int) ((c :: u).map .str)) [x0,.val (nD (p ++ c :: u)),.val (nD (p ++ d :: v)),x3,x4] = res := fun e1 e2 => za4 (st := put2 3 4) rfl e1 e2
   by_cases hcd : c = d
   ·subst hcd
    rw [zcc,if_pos rfl] at hlt
    have e1 : ex cf cpB [x0,.val (nD (p ++ c :: u)),.val (nD (p ++ c :: v)),.val (.int (p.length : Int)),.val (.str c)] = some ([x0,.val (nD (p ++ c :: u)),.val (nD (p ++ c :: v)),.val (.int (p.length : Int)),.val (.str c)],.next) := by
     rw [decide_eq_true rfl] at h2
     unfold cpB
     exact R_seq (R_ite (t := false) (T_of (V_op2 (V_v rfl rfl) (V_op2 (V_v rfl rfl) (V_v rfl rfl) h1) h2)) (R_ff zaz)) (zai zaz)
    have := ih v (p ++ [c]) (.val (.int (p.length : Int))) (.val (.str c)) (by rw [List.append_assoc]; exact hl) hlt
    rw [List.length_append,List.append_assoc,List.append_assoc] at this
    change CpO (p ++ c :: u) (p ++ [c]) u v x0 (p ++ c :: v) (forGo (put2 3 4) (ex cf cpB) (enumL ((p.length : Int) + 1) (u.map .str)) [x0,.val (nD (p ++ c :: u)),.val (nD (p ++ c :: v)),.val (.int (p.length : Int)),.val (.str c)]) at this
    rw [t e1 (zci rfl)]
    generalize forGo (put2 3 4) (ex cf cpB) (enumL ((p.length : Int) + 1) (u.map .str)) [x0,.val (nD (p ++ c :: u)),.val (nD (p ++ c :: v)),.val (.int (p.length : Int)),.val (.str c)] = res at this
    cases this with
    | ret =>
     rw [List.append_assoc,show [c] ++ cp u v = cp (c :: u) (c :: v) by rw [zbc,if_pos rfl]; rfl]
     exact .ret
    | all e => exact .all (by rw [zbc,if_pos rfl,e])
   ·have e1 : ex cf cpB [x0,.val (nD (p ++ c :: u)),.val (nD (p ++ d :: v)),.val (.int (p.length : Int)),.val (.str c)] = some ([x0,.val (nD (p ++ c :: u)),.val (nD (p ++ d :: v)),.val (.int (p.length : Int)),.val (.str c)],.ret (nD p)) := by
     rw [decide_eq_false hcd] at h2
     unfold cpB
     exact R_seq (R_ite (t := true) (T_of (V_op2 (V_v rfl rfl) (V_op2 (V_v rfl rfl) (V_v rfl rfl) h1) h2)) (R_tt (R_seq (R_ret (E_of (V_op3 (V_v rfl rfl) rfl (V_v rfl rfl) h3) rfl)) zaB))) zaB
    rw [t e1 R_fRet]
    have e2 : nD p = nD (p ++ cp (c :: u) (d :: v)) := by rw [zbc,if_neg hcd,List.append_nil]
    rw [e2]
    exact .ret
end
section
variable {fns : Nat → Option Fn}
theorem zdY (h12 : fns 12 = some fn_commonprefix) (m : Nat) {a b : Nms} (ha : a.length ≤ 100000) (hb : b.length ≤ 100000) : callF fns (m + 1) 12 [.list [nD a,nD b]] = some (nD (cp a b)) := by
 refine zc8 h12 (ρ := [.val (.list [nD a,nD b]),.unset,.unset,.unset,.unset]) rfl ?_
 show ∃ ρ',ex (callF fns m) s_commonprefix _ = _
 generalize callF fns m = cf
 obtain ⟨s1,s2,e1,e2,hlt,hl,hc⟩ : ∃ s1 s2,(if ltSs b a = true then b else a) = s1 ∧ (if ltSs a b = true then b else a) = s2 ∧ ltSs s2 s1 = false ∧ s1.length ≤ 100000 ∧ cp s1 s2 = cp a b := by
  refine ⟨_,_,rfl,rfl, ?_⟩
  by_cases h1 : ltSs b a = true
  ·have h2 := zjd h1
   rw [if_pos h1,if_neg (by rw [h2]; simp)]
   exact ⟨h2,hb,zgO b a⟩
  ·have h1' : ltSs b a = false := by simpa using h1
   rw [if_neg h1]
   by_cases h2 : ltSs a b = true
   ·rw [if_pos h2]
    exact ⟨h1',ha,rfl⟩
   ·have h2' : ltSs a b = false := by simpa using h2
    rw [if_neg h2]
    have := zhk h2' h1'
    subst this
    exact ⟨zhl a,ha,rfl⟩
 have k1 : opF .min [.list [nD a,nD b]] = some (.val (nD s1)) := by rw [o_min2,e1]
 have k2 : opF .max [.list [nD a,nD b]] = some (.val (nD s2)) := by rw [o_max2,e2]
 have ei : evI cf (.enumI (.var 1)) [.val (.list [nD a,nD b]),.val (nD s1),.val (nD s2),.unset,.unset] = some (enumL (0 : Int) (s1.map .str)) := rfl
 have c1 : evT cf (.not (.var 0)) [.val (.list [nD a,nD b]),.unset,.unset,.unset,.unset] = some false := rfl
 have c2 : evT cf (.not (.op .isInst (.cons (.op .index (.cons (.var 0) (.cons (.const (.int 0)) .nil))) (.cons (.tup (.cons (.const (.ty "list")) (.cons (.const (.ty "tuple")) .nil))) .nil)))) [.val (.list [nD a,nD b]),.unset,.unset,.unset,.unset] = some false := rfl
 have a1 : ev1 cf (.op .min (.cons (.var 0) .nil)) [.val (.list [nD a,nD b]),.unset,.unset,.unset,.unset] = some (nD s1) := E_of (V_op1 (V_v rfl rfl) k1) rfl
 have a2 : ev1 cf (.op .max (.cons (.var 0) .nil)) [.val (.list [nD a,nD b]),.val (nD s1),.unset,.unset,.unset] = some (nD s2) := E_of (V_op1 (V_v rfl rfl) k2) rfl
 have hgo : ∃ ρ',ex cf (.seq (.forE2 3 4 (.enumI (.var 1)) cpB) (.seq (.ret (.var 1)) .skip)) [.val (.list [nD a,nD b]),.val (nD s1),.val (nD s2),.unset,.unset] = some (ρ',.ret (nD (cp a b))) := by
  have lp : CpO s1 [] s1 s2 (.val (.list [nD a,nD b])) s2 (forGo (put2 3 4) (ex cf cpB) (enumL (0 : Int) (s1.map .str)) [.val (.list [nD a,nD b]),.val (nD s1),.val (nD s2),.unset,.unset]) := by
   exact cp_loop (cf := cf) (x0 := .val (.list [nD a,nD b])) s1 s2 [] .unset .unset hl hlt
  generalize hres : forGo (put2 3 4) (ex cf cpB) (enumL (0 : Int) (s1.map .str)) [.val (.list [nD a,nD b]),.val (nD s1),.val (nD s2),.unset,.unset] = res at lp
  cases lp with
  | ret =>
   rw [List.nil_append,hc] at hres
   exact ⟨_,R_seq (zga ei hres) zaB⟩
  | all e =>
   rw [hc] at e
   refine ⟨_,R_seq (zga ei hres) (zai (R_seq (R_ret (d := nD (cp a b)) ?_) zaB))⟩
   rw [e]; rfl
 obtain ⟨ρ',hgo⟩ := hgo
 unfold cpB at hgo
 unfold s_commonprefix
 exact ⟨ρ',R_seq (R_ite c1 (R_ff zaz)) (zai (R_seq (R_ite c2 (R_ff zaz)) (zai (R_seq (zaj a1 rfl) (zai (R_seq (zaj a2 rfl) (zai hgo)))))))⟩
end
noncomputable def relL (a b : Nms) : Nms := List.replicate (b.length - (cp b a).length) [46,46] ++ a.drop (cp b a).length
noncomputable def relT (a b : Nms) : List Nat := if relL a b = [] then [46] else joinL [47] (relL a b)
theorem zdP {ns : Nms} (h : ∀ w ∈ ns,NameOK w) : opF .lstrip [.str (told ns),.str [47]] = some (.val (.str (joinL [47] ns))) := by
 rw [zkt]
 unfold told
 rw [List.dropWhile_cons_of_pos (by rfl)]
 cases e : joinL [47] ns with
 | nil => rfl
 | cons c t =>
  rw [List.dropWhile_cons_of_neg]
  intro q
  have hc : c = 47 := by simpa using q
  exact zcM h (by rw [e,hc]; rfl)
theorem zhL {ns : Nms} (h : ∀ w ∈ ns,NameOK w) : (D.str (joinL [47] ns)).truth = some (!decide (ns = [])) := by
 show some (!(joinL [47] ns).isEmpty) = _
 by_cases h0 : ns = []
 ·subst h0; rfl
 ·rw [decide_eq_false h0]
  have := zhn h0 h
  cases e : joinL [47] ns with
  | nil => exact absurd e this
  | cons _ _ => rfl
theorem ziJ {a b : Nms} : ∀ w ∈ relL a b,w = [46,46] ∨ w ∈ a := by
 intro w hw
 rcases List.mem_append.mp hw with h | h
 ·exact .inl (List.mem_replicate.mp h).2
 ·exact .inr (List.mem_of_mem_drop h)
theorem zbk : ∀ (ns : Nms) (k : Nat),(∀ w ∈ ns,w.length ≤ k) → (joinL [47] ns).length ≤ (k + 1) * ns.length
 | [],_,_ => Nat.zero_le _
 | [x],k,h => Nat.le_trans (Nat.le_succ_of_le (h x List.mem_cons_self)) (Nat.le_of_eq (Nat.mul_one _).symm)
 | x :: y :: r,k,h => by
  have h1 := h x List.mem_cons_self
  have h2 := zbk (y :: r) k fun w hw => h w (List.mem_cons_of_mem _ hw)
  rw [zdR,List.length_cons (a := x),Nat.mul_succ,List.length_append,List.length_append,Nat.add_comm]
  exact Nat.add_le_add h2 (Nat.succ_le_succ h1)
section
variable {fns : Nat → Option Fn}
theorem zis {cf : CfT} {ρ : List Slot} {i : Nat} {ns : Nms} (h : ∀ w ∈ ns,NameOK w) (hl : (joinL [47] ns).length + 2 ≤ lim) (g : ρ[i]? = some (.val (.str (joinL [47] ns)))) (g3 : ρ[3]? = some (.val (.str [47]))) :
  ev1 cf (.ite (.var i) (.op .split (.cons (.var i) (.cons (.var 3) .nil))) (.list .nil)) ρ = some (nD ns) := by
 have t := zhL h
 rw [zjJ,zdV,zcO,g]
 show one (match (D.str (joinL [47] ns)).truth with
  | some true => _
  | some false => _
  | none => none) = _
 rw [t]
 by_cases h0 : ns = []
 ·subst h0
  rfl
 ·rw [decide_eq_false h0]
  have k := zgy (l := joinL [47] ns) hl
  rw [sp_of h0 fun w hw => (h w hw).2] at k
  exact congrArg one (V_op2 (V_v g rfl) (V_v g3 rfl) k)
theorem zhW (h2 : fns 2 = some fn_fspath) (h7 : fns 7 = some fn_splitroot) (h9 : fns 9 = some fn_normpath) (h10 : fns 10 = some fn_abspath) (h11 : fns 11 = some fn_relpath) (h12 : fns 12 = some fn_commonprefix) (m : Nat) {a b : Nms} (ha : ∀ w ∈ a,Clean w) (hb : ∀ w ∈ b,Clean w)
  (la : a.length ≤ 1000) (lb : b.length ≤ 1000) (wa : ∀ w ∈ a,w.length ≤ 90) (wb : ∀ w ∈ b,w.length ≤ 90) : callF fns (m + 5) 11 [.str (told a),.str (told b)] = some (.str (relT a b)) := by
 have na : ∀ w ∈ a,NameOK w := fun w hw => (ha w hw).nm
 have nb : ∀ w ∈ b,NameOK w := fun w hw => (hb w hw).nm
 have jl : ∀ {n : Nms},n.length ≤ 2000 → (∀ w ∈ n,w.length ≤ 90) → (joinL [47] n).length ≤ 182000 := fun {n} h1 h2 => Nat.le_trans (zbk n 90 h2) (Nat.mul_le_mul_left 91 h1)
 have tl : ∀ {n : Nms},n.length ≤ 1000 → (∀ w ∈ n,w.length ≤ 90) → (told n).length ≤ 100000 := fun {n} h1 h2 => Nat.le_trans (Nat.succ_le_succ (zbk n 90 h2)) (Nat.le_trans (Nat.succ_le_succ (Nat.mul_le_mul_left 91 h1)) (by decide))
 have ta := tl la wa
 have tb := tl lb wb
 refine zc8 h11 (ρ := [.val (.str (told a)),.val (.str (told b)),.unset,.unset,.unset,.unset,.unset,.unset,.unset,.unset,.unset]) rfl ?_
 show ∃ ρ',ex (callF fns (m + 4)) s_relpath _ = _
 have f2 := fun l => zbM h2 (m + 3) l
 have fa := zhG h2 h7 h9 h10 m ha ta (Nat.le_trans la (by decide))
 have fb := zhG h2 h7 h9 h10 m hb tb (Nat.le_trans lb (by decide))
 have fc := zdY h12 (m + 3) (a := b) (b := a) (Nat.le_trans lb (by decide)) (Nat.le_trans la (by decide))
 generalize callF fns (m + 4) = cf at *
 have hi1 : (cp b a).length ≤ b.length := zfY b a
 have hi2 : (cp b a).length ≤ a.length := by rw [zgO]; exact zfY a b
 have km : ∀ {n : Nms},opF .len [nD n] = some (.val (.int (n.length : Int))) := fun {n} => by
  show some (R.val (.int ((n.map D.str).length : Int))) = _
  rw [List.length_map]
 have k5 : opF .sub [.int (b.length : Int),.int ((cp b a).length : Int)] = some (.val (.int ((b.length - (cp b a).length : Nat) : Int))) := by
  show some (R.val (.int ((b.length : Int) - ((cp b a).length : Int)))) = _
  rw [Int.ofNat_sub hi1]
 have k6 := zlf (x := .str [46,46]) (n := b.length - (cp b a).length) (Nat.le_trans (Nat.sub_le _ _) (Nat.le_trans lb (by decide)))
 have k7 : opF .slice [nD a,.int ((cp b a).length : Int),.none] = some (.own ((a.map D.str).drop (cp b a).length)) := ziU (Nat.le_trans hi2 (Nat.le_trans la (by decide))) (by rw [List.length_map]; exact hi2)
 have lr : (relL a b).length ≤ 1000 + 1000 := by
  unfold relL
  rw [List.length_append,List.length_replicate,List.length_drop]
  exact Nat.add_le_add (Nat.le_trans (Nat.sub_le _ _) lb) (Nat.le_trans (Nat.sub_le _ _) la)
 have k8 : opF .add [.list (List.replicate (b.length - (cp b a).length) (.str [46,46])),.list ((a.map D.str).drop (cp b a).length)] = some (.own ((relL a b).map .str)) := by
  have e : (relL a b).map D.str = List.replicate (b.length - (cp b a).length) (.str [46,46]) ++ (a.map D.str).drop (cp b a).length := by
   unfold relL
   rw [List.map_append,List.map_replicate,List.map_drop]
  rw [e]
  refine zfC ?_
  rw [← List.length_append, ← e,List.length_map]
  exact Nat.le_trans lr (by decide)
 have k9 := zdI (ls := relL a b) (Nat.le_trans (jl lr fun w hw => by
  rcases ziJ w hw with rfl | h
  ·decide
  ·exact wa w h) (by decide))
 have key : ∃ ρ',ex cf (.seq (.ite (.not (.var 10)) (.seq (.ret (.var 2)) .skip) .skip) (.seq (.ret (.op .join (.cons (.var 3) (.cons (.var 10) .nil)))) .skip)) [.val (.str (told a)),.val (.str (told b)),.val (.str [46]),.val (.str [47]),.val (.str [46,46]),.val (.str (joinL [47] b)),.val (.str (joinL [47] a)),.val (nD b),.val (nD a),.val (.int ((cp b a).length : Int)),.val (.list ((relL a b).map .str))] = some (ρ',.ret (.str (relT a b))) := by
  unfold relT
  by_cases h0 : relL a b = []
  ·rw [if_pos h0,h0]
   exact ⟨_,R_seq (R_ite (t := true) rfl (R_tt (R_seq (R_ret rfl) zaB))) zaB⟩
  ·rw [if_neg h0]
   refine ⟨_,R_seq (R_ite (t := false) ?_ (R_ff zaz)) (zai (R_seq (R_ret (E_of (V_op2 (V_v rfl rfl) (V_v rfl rfl) k9) rfl)) zaB))⟩
   rw [zhB,zcQ,V_v rfl rfl]
   cases e : relL a b with
   | nil => exact absurd e h0
   | cons _ _ => rfl
 obtain ⟨ρ',key⟩ := key
 have ev7 := zis (cf := cf) (ρ := [.val (.str (told a)),.val (.str (told b)),.val (.str [46]),.val (.str [47]),.val (.str [46,46]),.val (.str (joinL [47] b)),.val (.str (joinL [47] a)),.unset,.unset,.unset,.unset]) (i := 5) nb (Nat.le_trans (Nat.succ_le_succ tb) (by decide)) rfl rfl
 have ev8 := zis (cf := cf) (ρ := [.val (.str (told a)),.val (.str (told b)),.val (.str [46]),.val (.str [47]),.val (.str [46,46]),.val (.str (joinL [47] b)),.val (.str (joinL [47] a)),.val (nD b),.unset,.unset,.unset]) (i := 6) na (Nat.le_trans (Nat.succ_le_succ ta) (by decide)) rfl rfl
 unfold s_relpath
 exact ⟨ρ',R_seq (zaj (E_of (zaW (zap (V_v rfl rfl) rfl) rfl (f2 _)) rfl) rfl) (zai (R_seq (R_ite (t := false) rfl (R_ff zaz)) (zai (R_seq (R_ite (t := false) (T_of (V_op2 (V_v rfl rfl) rfl rfl)) (R_ff (R_seq (zaj rfl rfl) (zai (R_seq (zaj rfl rfl) (zai (R_seq (zaj rfl rfl) (zai zaz)))))))) (zai (R_seq (R_ite (t := false) (T_of (V_op2 (V_v rfl rfl) rfl rfl)) (R_ff (R_seq (zaj (E_of (zaW (zap (V_v rfl rfl) rfl) rfl (f2 _)) rfl) rfl) (zai zaz)))) (zai
  (R_seq (R_try (R_seq (zaj (E_of (V_op2 (zaW (zap (V_v rfl rfl) rfl) rfl fb) (V_v rfl rfl) (zdP nb)) rfl) rfl) (zai (R_seq (zaj (E_of (V_op2 (zaW (zap (V_v rfl rfl) rfl) rfl fa) (V_v rfl rfl) (zdP na)) rfl) rfl) (zai (R_seq (zaj ev7 rfl) (zai (R_seq (zaj ev8 rfl) (zai (R_seq (zaj (E_of (V_op1 (zaW (zap (zjZ (V_v rfl rfl) (V_v rfl rfl)) rfl) rfl fc) km) rfl) rfl) (zai (R_seq (zaj (E_of (V_op2 (V_op2 (zj0 (V_v rfl rfl) rfl) (V_op2 (V_op1 (V_v rfl rfl) km) (V_v rfl rfl) k5) k6) (V_op3 (V_v rfl rfl) (V_v rfl rfl) rfl k7) k8) rfl) rfl) (zai key))))))))))))) zaB))))))))⟩
end
theorem zje {a b c : List Nat} (h : ltL a b = true) (h2 : ltL b c = true) : ltL a c = true := decide_eq_true (List.lt_trans (of_decide_eq_true h) (of_decide_eq_true h2))
theorem lt_trans : ∀ {a b c : Nms},ltSs a b = true → ltSs b c = true → ltSs a c = true
 | _,[],[],_,h => by rw [ltSs] at h; injection h
 | _,_ :: _,[],_,h => by rw [ltSs] at h; injection h
 | [],[],_,h,_ => by rw [ltSs] at h; injection h
 | _ :: _,[],_,h,_ => by rw [ltSs] at h; injection h
 | [],_,_ :: _,_,_ => by rw [ltSs]
 | x :: a,y :: b,z :: c,h,h2 => by
  rw [zcc] at h h2 ⊢
  by_cases e : x = y
  ·subst e
   rw [if_pos rfl] at h
   by_cases e2 : x = z
   ·rw [if_pos e2] at h2 ⊢
    exact lt_trans h h2
   ·rw [if_neg e2] at h2 ⊢
    exact h2
  ·rw [if_neg e] at h
   by_cases e2 : y = z
   ·subst e2
    rw [if_neg e]
    exact h
   ·rw [if_neg e2] at h2
    have := zje h h2
    rw [if_neg fun e3 => by rw [e3,ltL_irr] at this; injection this]
    exact this
set_option genInjectivity false in
structure Ord {α : Type} (f : α → D) (lt : α → α → Bool) (better : D → D → Option Bool) : Prop where
 tr : ∀ {a b c},lt a b = true → lt b c = true → lt a c = true
 tot : ∀ {a b},lt a b = false → lt b a = false → a = b
 irr : ∀ a,lt a a = false
 is : ∀ a b,better (f a) (f b) = some (lt a b)
theorem ordL : Ord nD ltSs ltD := ⟨lt_trans,zhk,zhl,fun _ _ => zhm⟩
theorem ordG : Ord nD (fun a b => ltSs b a) gtD := ⟨fun h h2 => lt_trans h2 h,fun h h2 => zhk h2 h,zhl,fun _ _ => zhm⟩
theorem zfm {α : Type} {f : α → D} {lt : α → α → Bool} {better : D → D → Option Bool} (O : Ord f lt better) : ∀ {l : List α} {a : α}, ∃ s,bestGo better (f a) (l.map f) = some (f s) ∧ s ∈ a :: l ∧ ∀ n ∈ a :: l,lt n s = false
 | [],a => ⟨a,rfl,List.mem_cons_self,fun n h => by cases List.mem_singleton.mp h; exact O.irr a⟩
 | d :: l,a => by
  have get : ∀ {x y : α},(∀ s,lt x s = false → lt y x = false → lt y s = false) := fun {x y} s h1 h2 => by
   cases e : lt y s
   ·rfl
   ·cases e2 : lt s x
    ·rw [O.tot h1 e2] at h2
     rw [h2] at e; injection e
    ·rw [O.tr e e2] at h2; injection h2
  rw [List.map_cons]
  unfold bestGo
  rw [O.is]
  cases e : lt d a
  ·obtain ⟨s,h1,h2,h3⟩ := zfm O (l := l) (a := a)
   have ha := h3 a List.mem_cons_self
   refine ⟨s,h1, ?_,fun n hn => ?_⟩
   ·rcases List.mem_cons.mp h2 with h | h
    ·rw [h]; exact List.mem_cons_self
    ·exact List.mem_cons_of_mem _ (List.mem_cons_of_mem _ h)
   ·rcases List.mem_cons.mp hn with rfl | hn
    ·exact ha
    ·rcases List.mem_cons.mp hn with rfl | hn
     ·exact get s ha e
     ·exact h3 n (List.mem_cons_of_mem _ hn)
  ·obtain ⟨s,h1,h2,h3⟩ := zfm O (l := l) (a := d)
   refine ⟨s,h1,List.mem_cons_of_mem _ h2,fun n hn => ?_⟩
   rcases List.mem_cons.mp hn with rfl | hn
   ·refine get s (h3 d List.mem_cons_self) ?_
    cases e2 : lt n d
    ·rfl
    ·rw [← O.irr n]; exact (O.tr e2 e).symm
   ·exact h3 n hn
set_option genInjectivity false in
structure IsCp (L : List Nms) (p : Nms) : Prop where
 pre : ∀ n ∈ L,p <+: n
 top : ∀ q,(∀ n ∈ L,q <+: n) → q <+: p
theorem zll : ∀ {q a b : Nms},q <+: a → q <+: b → q <+: cp a b
 | [],_,_,_,_ => List.nil_prefix
 | c :: q,[],_,h,_ => absurd (List.prefix_nil.mp h) (List.cons_ne_nil _ _)
 | c :: q,_,[],_,h => absurd (List.prefix_nil.mp h) (List.cons_ne_nil _ _)
 | c :: q,x :: a,y :: b,h1,h2 => by
  obtain ⟨e1,h1⟩ := List.cons_prefix_cons.mp h1
  obtain ⟨e2,h2⟩ := List.cons_prefix_cons.mp h2
  rw [zbc,if_pos (e1 ▸ e2),e1]
  exact List.cons_prefix_cons.mpr ⟨rfl,zll h1 h2⟩
theorem IsCp.eq {L : List Nms} {p q : Nms} (h : IsCp L p) (h2 : IsCp L q) : p = q :=
 (h2.top p h.pre).eq_of_length (Nat.le_antisymm (h2.top p h.pre).length_le (h.top q h2.pre).length_le)
theorem zln : ∀ {a b n : Nms},ltSs n a = false → ltSs b n = false → cp a b <+: n
 | [],_,_,_,_ => List.nil_prefix
 | _ :: _,[],_,_,_ => by rw [cp_nil]; exact List.nil_prefix
 | x :: a,y :: b,[],h,_ => by rw [ltSs] at h; injection h
 | x :: a,y :: b,z :: n,h1,h2 => by
  rw [zbc]
  by_cases e : x = y
  ·subst e
   rw [if_pos rfl]
   rw [zcc] at h1 h2
   by_cases e : x = z
   ·subst e
    rw [if_pos rfl] at h1 h2
    exact List.cons_prefix_cons.mpr ⟨rfl,zln h1 h2⟩
   ·rw [if_neg fun q => e q.symm] at h1
    rw [if_neg e] at h2
    exact absurd (zjf h2 h1) e
  ·rw [if_neg e]; exact List.nil_prefix
theorem zlm : ∀ a b : Nms,cp a b <+: a
 | [],_ => List.nil_prefix
 | _ :: _,[] => List.nil_prefix
 | x :: a,y :: b => by
  rw [zbc]
  split
  ·exact List.cons_prefix_cons.mpr ⟨rfl,zlm a b⟩
  ·exact List.nil_prefix
noncomputable def pth (r : Bool) (n : Nms) : List Nat := if r then told n else joinL [47] n
theorem spf {r : Bool} {n : Nms} (h : ∀ w ∈ n,Clean w) : ((sp (pth r n)).filter fun w => !decide (w = []) && !decide (w = [46])) = n := by
 have h0 : (n.filter fun w => !decide (w = []) && !decide (w = [46])) = n := List.filter_eq_self.mpr fun w hw => by
  rw [decide_eq_false (h w hw).ne,decide_eq_false (h w hw).d1]; rfl
 have hs : ∀ w ∈ n,47 ∉ w := fun w hw => (h w hw).sl
 cases r with
 | true =>
  show ((sp (told n)).filter _) = _
  cases n with
  | nil => rw [show told [] = joinL [47] [[],[]] from rfl,sp_of (by decide) (by decide)]; rfl
  | cons w n =>
   rw [show told (w :: n) = joinL [47] ([] :: w :: n) from rfl,sp_of (List.cons_ne_nil _ _) (List.forall_mem_cons.mpr ⟨List.not_mem_nil,hs⟩)]
   exact h0
 | false =>
  show ((sp (joinL [47] n)).filter _) = _
  cases n with
  | nil => rw [show joinL [47] [] = joinL [47] [[]] from rfl,sp_of (by decide) (by decide)]; rfl
  | cons w n =>
   rw [sp_of (List.cons_ne_nil _ _) hs]
   exact h0
theorem ziw {r : Bool} {n : Nms} (h : ∀ w ∈ n,Clean w) : opF .startswith [.str (pth r n),.str [47]] = some (.val (.bool r)) := by
 rw [zc1]
 cases r with
 | true => rfl
 | false =>
  show some (R.val (.bool (decide ((joinL [47] n).head? = some 47)))) = _
  rw [decide_eq_false (zcM fun w hw => (h w hw).nm)]
theorem zd4 {α β : Type} {f : α → Option β} {g : α → β} : ∀ {l : List α},(∀ a ∈ l,f a = some (g a)) → allSome (l.map f) = some (l.map g)
 | [],_ => rfl
 | a :: l,h => by
  rw [List.map_cons,h a List.mem_cons_self]
  unfold allSome
  rw [zd4 fun b hb => h b (List.mem_cons_of_mem _ hb)]; rfl
section
variable {cf : CfT} {ρ : List Slot}
theorem V_mapF {α : Type} {f : Nat} {x : X} {a : R} {l : List α} {g v : α → D} (h : ev cf x ρ = some [a]) (h2 : a.ds = .list (l.map g)) (hv : ∀ a ∈ l,cf f [g a] = some (v a)) : ev cf (.mapF f x) ρ = some [.val (.tup (l.map v))] := by
 rw [zhx,h]
 simp only [h2]
 rw [List.map_map]
 exact congrArg (Option.map _) (zd4 hv)
theorem V_setI {α : Type} {i : Nat} {it e : X} {l : List α} {g : α → D} {b : Bool} (h : ev cf it ρ = some [.val (.list (l.map g))]) (h0 : l ≠ []) (hv : ∀ a ∈ l,ev cf e (ρ.set i (.val (g a))) = some [.val (.bool b)]) : ev cf (.setI i it e) ρ = some [.val (.bool b)] := by
 rw [zhv,h]
 simp only
 rw [zbf (p := fun _ => true) (v := fun _ => .bool b) fun a ha => zdq (p := true) rfl (fun _ => hv a ha) rfl,List.filter_eq_self.mpr fun _ _ => rfl]
 cases l with
 | nil => exact absurd rfl h0
 | cons a l =>
  show (if ((l.map fun _ => D.bool b).all fun d => match d with | .bool b' => b' == b | _ => false) = true then some [R.val (.bool b)] else none) = _
  rw [if_pos (by rw [List.all_eq_true]; intro d hd; obtain ⟨_,_,rfl⟩ := List.mem_map.mp hd; exact beq_self_eq_true b)]
theorem keep_ev {i j : Nat} {w : List Nat} (g : ρ[i]? = some (.val (.str w))) (g2 : ρ[j]? = some (.val (.str [46]))) : turnD (ev cf (.and (.var i) (.op .ne (.cons (.var i) (.cons (.var j) .nil)))) ρ) (ev cf (.var i) ρ) = some (if (!decide (w = []) && !decide (w = [46])) = true then some (.str w) else none) := by
 rw [zdW,V_v g rfl]
 cases w with
 | nil => rfl
 | cons c w =>
  show turnD (ev cf _ ρ) _ = _
  rw [V_op2 (V_v g rfl) (V_v g2 rfl) (ne_str _ _)]
  show (match (some (!decide (c :: w = [46])) : Option Bool) with | some true => some (some (D.str (c :: w))) | some false => some none | none => none) = _
  rw [decide_eq_false (List.cons_ne_nil c w)]
  cases decide (c :: w = [46]) <;> rfl
theorem zkK {i j k : Nat} {t : List Nat} {n : Nms} (hn : ((sp t).filter fun w => !decide (w = []) && !decide (w = [46])) = n) (g : ρ[i]? = some (.val (nD (sp t)))) (g2 : ∀ d,(ρ.set k d)[k]? = some d) (g3 : ∀ d,(ρ.set k d)[j]? = some (.val (.str [46]))) :
  ev cf (.comp k (.seqI (.var i)) (.and (.var k) (.op .ne (.cons (.var k) (.cons (.var j) .nil)))) (.var k)) ρ = some [.own (n.map .str)] := by
 have := zhI (cf := cf) (ρ := ρ) (i := k) (v := D.str) (g := D.str) (zbz (V_v g rfl) rfl rfl) fun w hw => keep_ev (g2 (.val (.str w))) (g3 (.val (.str w)))
 rw [hn] at this
 exact this
end
noncomputable def cmB : S := (.seq (.ite (.op .ne (.cons (.var 5) (.cons (.op .index (.cons (.var 7) (.cons (.var 9) .nil))) .nil))) (.seq (.assign 8 (.op .slice (.cons (.var 6) (.cons (.const .none) (.cons (.var 9) .nil))))) (.seq .brk .skip)) .skip) .skip)
theorem zjQ {cf : CfT} {x0 x1 x2 x3 x4 y0 y1 y2 y3 y4 : Slot} {x8 : D} : ∀ (u v p : Nms) (x5 x9 : Slot),(p ++ u).length ≤ 100000 → ltSs v u = false → (cp u v = u → x8 = nD (p ++ u)) →
  ∃ z5 z9,forGo (put2 9 5) (ex cf cmB) (enumL (p.length : Int) (u.map .str)) [x0,x1,x2,x3,x4,x5,.val (nD (p ++ u)),.val (nD (p ++ v)),.val x8,x9,y0,y1,y2,y3,y4] = some ([x0,x1,x2,x3,x4,z5,.val (nD (p ++ u)),.val (nD (p ++ v)),.val (nD (p ++ cp u v)),z9,y0,y1,y2,y3,y4],.next)
 | [],v,p,x5,x9,_,_,h => ⟨x5,x9,by rw [h rfl]; rfl⟩
 | c :: u,[],p,x5,x9,_,h,_ => by rw [ltSs] at h; injection h
 | c :: u,d :: v,p,x5,x9,hl,hlt,h8 => by
  have hp : p.length ≤ 1000000 := by
   rw [List.length_append] at hl
   exact Nat.le_trans (Nat.le_trans (Nat.le_add_right _ _) hl) (by decide)
  have h1 : opF .index [nD (p ++ d :: v),.int (p.length : Int)] = some (.val (.str d)) := zcs (by rw [List.map_append,List.getElem?_append_right (by rw [List.length_map]; exact Nat.le_refl _),List.length_map,Nat.sub_self]; rfl) hp
  by_cases hcd : c = d
  ·subst hcd
   rw [zcc,if_pos rfl] at hlt
   obtain ⟨z5,z9,e⟩ := zjQ (cf := cf) (x0 := x0) (x1 := x1) (x2 := x2) (x3 := x3) (x4 := x4) (y0 := y0) (y1 := y1) (y2 := y2) (y3 := y3) (y4 := y4) (x8 := x8) u v (p ++ [c]) (.val (.str c)) (.val (.int (p.length : Int))) (by rw [List.append_assoc]; exact hl) hlt fun e => by rw [List.append_assoc]; exact h8 (by rw [zbc,if_pos rfl,e])
   have e2 : cp (c :: u) (c :: v) = c :: cp u v := if_pos rfl
   rw [e2]
   refine ⟨z5,z9,za4 (st := put2 9 5) (o := .next) (ρ₂ := [x0,x1,x2,x3,x4,.val (.str c),.val (nD (p ++ c :: u)),.val (nD (p ++ c :: v)),.val x8,.val (.int (p.length : Int)),y0,y1,y2,y3,y4]) zeZ ?_ (zci ?_)⟩
   ·unfold cmB
    refine R_seq (R_ite (t := false) (T_of (V_op2 (V_v rfl rfl) (V_op2 (V_v rfl rfl) (V_v rfl rfl) h1) ?_)) (R_ff zaz)) (zai zaz)
    exact (ne_str c c).trans (by rw [decide_eq_true rfl]; rfl)
   ·rw [List.append_assoc,List.append_assoc,List.append_assoc,List.length_append] at e
    exact e
  ·have e2 : cp (c :: u) (d :: v) = [] := if_neg hcd
   rw [e2,List.append_nil]
   have h3 : opF .slice [nD (p ++ c :: u),.none,.int (p.length : Int)] = some (.own (p.map .str)) := by
    have := zgx (l := (p ++ c :: u).map D.str) (n := p.length) hp (by rw [List.length_map,List.length_append]; exact Nat.le_add_right _ _)
    rw [← List.map_take,List.take_left' rfl] at this
    exact this
   refine ⟨.val (.str c),.val (.int (p.length : Int)),za4 (st := put2 9 5) (o := .brk) zeZ ?_ R_fBrk⟩
   unfold cmB
   refine R_seq (R_ite (t := true) (T_of (V_op2 (V_v rfl rfl) (V_op2 (V_v rfl rfl) (V_v rfl rfl) h1) ?_)) (R_tt (R_seq (zaj (E_of (V_op3 (V_v rfl rfl) rfl (V_v rfl rfl) h3) rfl) rfl) (zai (R_seq R_brk zf9))))) zf9
   exact (ne_str c d).trans (by rw [decide_eq_false hcd]; rfl)
theorem zks {α : Type} {l : List α} {v : α → D} (d : α) (h : l ≠ []) : opF .index [.tup (l.map v),.int 0] = some (.val (v (l.head h))) := by
 cases l with
 | nil => exact absurd rfl h
 | cons a l => exact ze2 (k := 0) rfl (by decide)
theorem min_of {l : List Nms} (h : l ≠ []) : ∃ s,opF .min [.list (l.map nD)] = some (.val (nD s)) ∧ s ∈ l ∧ ∀ n ∈ l,ltSs n s = false := by
 cases l with
 | nil => exact absurd rfl h
 | cons a l =>
  obtain ⟨s,e,h⟩ := zfm ordL (l := l) (a := a)
  exact ⟨s,by show (bestGo ltD (nD a) (l.map nD)).map R.val = _; rw [e]; rfl,h⟩
theorem max_of {l : List Nms} (h : l ≠ []) : ∃ s,opF .max [.list (l.map nD)] = some (.val (nD s)) ∧ s ∈ l ∧ ∀ n ∈ l,ltSs s n = false := by
 cases l with
 | nil => exact absurd rfl h
 | cons a l =>
  obtain ⟨s,e,h⟩ := zfm ordG (l := l) (a := a)
  exact ⟨s,by show (bestGo gtD (nD a) (l.map nD)).map R.val = _; rw [e]; rfl,h⟩
set_option genInjectivity false in
structure Pa (r : Bool) (x : List Nat × Nms) : Prop where
 f : ((sp x.1).filter fun w => !decide (w = []) && !decide (w = [46])) = x.2
 s : opF .startswith [.str x.1,.str [47]] = some (.val (.bool r))
 l : x.1.length + 2 ≤ lim
 nl : x.2.length ≤ 1000
 wl : ∀ w ∈ x.2,w.length ≤ 90
theorem zeo {fns : Nat → Option Fn} (h2 : fns 2 = some fn_fspath) (h13 : fns 13 = some fn_commonpath) (m : Nat) {r : Bool} {P : List (List Nat × Nms)} (hP : P ≠ []) (hc : ∀ x ∈ P,Pa r x) {L : List Nms} (hL : P.map (·.2) = L) :
  ∃ p,callF fns (m + 2) 13 [.list (P.map fun x => .str x.1)] = some (.str (pth r p)) ∧ IsCp L p := by
 have h0 : L ≠ [] := fun e => hP (List.map_eq_nil_iff.mp (hL.trans e))
 have nl : ∀ n ∈ L,n.length ≤ 1000 ∧ ∀ w ∈ n,w.length ≤ 90 := fun n hn => by
  subst hL
  obtain ⟨x,hx,rfl⟩ := List.mem_map.mp hn
  exact ⟨(hc x hx).nl,(hc x hx).wl⟩
 have tD_ : P.map (fun x => nD x.2) = L.map nD := by rw [← hL,List.map_map]; rfl
 obtain ⟨s,e1,m1,f1⟩ := min_of h0
 obtain ⟨t,e2,m2,f2⟩ := max_of h0
 have hp : IsCp L (cp s t) := ⟨fun n hn => zln (f1 n hn) (f2 n hn),fun q hq => zll (hq s m1) (hq t m2)⟩
 refine ⟨cp s t,zc8 h13 (ρ := [.val (.list (P.map fun x => .str x.1)),.unset,.unset,.unset,.unset,.unset,.unset,.unset,.unset,.unset,.unset,.unset,.unset,.unset,.unset]) rfl ?_,hp⟩
 show ∃ ρ',ex (callF fns (m + 1)) s_commonpath _ = _
 have f0 := fun l => zbM h2 m l
 obtain ⟨z5,z9,lp⟩ := zjQ (cf := callF fns (m + 1)) (x0 := .val (.tup (P.map fun x => .str x.1))) (x1 := .val (.str [47])) (x2 := .val (.str [46])) (x3 := .val (.list (L.map nD))) (x4 := .val (.bool r)) (y0 := .unset) (y1 := .unset) (y2 := .unset) (y3 := .unset) (y4 := .unset) (x8 := nD s) s t [] .unset .unset (Nat.le_trans (nl s m1).1 (by decide)) (f1 t m2) fun _ => rfl
 generalize callF fns (m + 1) = cf at *
 have jl : ∀ {n : Nms},n.length ≤ 1000 → (∀ w ∈ n,w.length ≤ 90) → (joinL [47] n).length ≤ 91000 := fun {n} h1 h2 => Nat.le_trans (zbk n 90 h2) (Nat.mul_le_mul_left 91 h1)
 have jp : (joinL [47] (cp s t)).length ≤ 91000 := jl (Nat.le_trans (zfY s t) (nl s m1).1) fun w h => (nl s m1).2 w ((zlm s t).subset h)
 unfold cmB at lp
 unfold s_commonpath
 have tail : ∃ ρ',ex cf (.seq (.assign 10 (.ite (.var 4) (.var 1) (.op .slice (.cons (.var 1) (.cons (.const .none) (.cons (.const (.int 0)) .nil)))))) (.seq (.ret (.op .add (.cons (.var 10) (.cons (.op .join (.cons (.var 1) (.cons (.var 8) .nil))) .nil)))) .skip)) [.val (.tup (P.map fun x => .str x.1)),.val (.str [47]),.val (.str [46]),.val (.list (L.map nD)),.val (.bool r),z5,.val (nD ([] ++ s)),.val (nD ([] ++ t)),.val (nD ([] ++ cp s t)),z9,.unset,.unset,.unset,.unset,.unset] = some (ρ',.ret (.str (pth r (cp s t)))) :=
  have k : opF .add [.str (if r then [47] else []),.str (joinL [47] (cp s t))] = some (.val (.str (pth r (cp s t)))) := by
   cases r
   ·exact zbC (Nat.le_trans (Nat.add_le_add_left jp 0) (by decide))
   ·exact zbC (Nat.le_trans (Nat.add_le_add_left jp 1) (by decide))
  ⟨_,R_seq (zaj (d := .str (if r then [47] else [])) (by cases r <;> rfl) rfl) (zai (R_seq (R_ret (E_of (V_op2 (V_v rfl rfl) (V_op2 (V_v rfl rfl) (V_v rfl rfl) (zdI (ls := cp s t) (Nat.le_trans jp (by decide)))) k) rfl)) zaB))⟩
 obtain ⟨ρ',tail⟩ := tail
 refine ⟨ρ',R_seq (zaj (E_of (V_mapF (V_v rfl rfl) rfl fun n _ => f0 _) rfl) rfl) (zai (R_seq (R_ite (t := false) ?c1 (R_ff zaz)) (zai (R_seq (R_ite (t := false) (T_of (V_op2 (V_op2 (V_v rfl rfl) rfl (zks ([],[]) hP)) rfl rfl)) (R_ff (R_seq (zaj rfl rfl) (zai (R_seq (zaj rfl rfl) (zai zaz)))))) (zai ?rest)))))⟩
 case rest =>
  refine R_seq (o := .ret (.str (pth r (cp s t)))) (R_try (R_seq (zaj (E_of (zgX (g := fun x => .str x.1) (v := fun x => nD (sp x.1)) (zbz (V_v rfl rfl) rfl rfl) fun x hx => ⟨_,V_op2 (V_v rfl rfl) (V_v rfl rfl) (zgy (hc x hx).l),rfl⟩) rfl) rfl) (zai ?r2))) zaB
  refine R_seq (R_try (R_seq (zaj (E_of (V_setI (zbz (V_v rfl rfl) rfl rfl) hP fun x hx => V_op2 (V_v rfl rfl) (V_v rfl rfl) (hc x hx).s) rfl) rfl) (zai zaz))) (zai ?_)
  refine R_seq (zaj (d := .list (L.map nD)) (by rw [← tD_]; exact E_of (zgX (g := fun x => nD (sp x.1)) (v := fun x => nD x.2) (zbz (V_v rfl rfl) rfl rfl) fun x hx => ⟨_,zkK (hc x hx).f rfl (fun _ => rfl) fun _ => rfl,rfl⟩) rfl) rfl) (zai ?_)
  exact R_seq (zaj (E_of (V_op1 (V_v rfl rfl) e1) rfl) rfl) (zai (R_seq (zaj (E_of (V_op1 (V_v rfl rfl) e2) rfl) rfl) (zai (R_seq (zaj (E_of (V_v rfl rfl) rfl) rfl) (zai (R_seq (zga (I_of rfl) lp) (zai tail)))))))
 case c1 =>
  rw [zhB,zcQ,V_v rfl rfl]
  show truthR (Option.map _ (D.tup _).truth) = _
  cases P with
  | nil => exact absurd rfl hP
  | cons a P => rfl
theorem pth_pa {r : Bool} {n : Nms} (hc : ∀ w ∈ n,Clean w) (hl : n.length ≤ 1000) (hw : ∀ w ∈ n,w.length ≤ 90) : Pa r (pth r n,n) := by
 refine ⟨spf hc,ziw hc, ?_,hl,hw⟩
 have := Nat.le_trans (zbk n 90 hw) (Nat.mul_le_mul_left 91 hl)
 refine Nat.le_trans (Nat.add_le_add_right (?_ : _ ≤ 91001) 2) (by decide)
 cases r
 ·exact Nat.le_succ_of_le this
 ·exact Nat.succ_le_succ this
end Mine
end
section
open PySem PySem.StrLaws PySem.Builtin PySem.Builtin.Str PySem.W
noncomputable section
namespace Mine
noncomputable def tk (k : Nat) : List (List Nat) := wd4.filter (mB k)
noncomputable def PX : List Nat → List Nm
 | [] => [[]]
 | k :: P => (tk k).flatMap fun w => (PX P).map (w :: ·)
noncomputable def cnt : List Nat → Nat
 | [] => 1
 | k :: P => (tk k).length * cnt P
noncomputable def al : List Nat → Nm
 | [] => []
 | k :: P => if 1 < (tk k).length then [] else tk k ++ al P
theorem zk4 {k : Nat} {w : List Nat} (h : w ∈ tk k) : w ∈ wd4 := (List.mem_filter.mp h).1
theorem zeA : ∀ P : List Nat,(PX P).length = cnt P
 | [] => rfl
 | k :: P => by
  show ((tk k).flatMap fun w => (PX P).map (w :: ·)).length = (tk k).length * cnt P
  rw [List.length_flatMap]
  simp only [List.length_map,zeA P]
  rw [List.map_const',List.sum_replicate_nat]
theorem zfB : ∀ {P : List Nat} {n : Nm},n ∈ PX P → n.length = P.length ∧ ∀ w ∈ n,w ∈ wd4
 | [],n,h => by cases List.mem_singleton.mp h; exact ⟨rfl,fun _ h => nomatch h⟩
 | k :: P,n,h => by
  obtain ⟨w,hw,h⟩ := List.mem_flatMap.mp h
  obtain ⟨n',h',rfl⟩ := List.mem_map.mp h
  obtain ⟨h1,h2⟩ := zfB h'
  exact ⟨congrArg (· + 1) h1,List.forall_mem_cons.mpr ⟨zk4 hw,h2⟩⟩
theorem e9_of {n : Nm} (h : ∀ w ∈ n,w ∈ wd4) (h0 : n ≠ []) (h3 : n.length ≤ 3) : n ∈ E9 := by
 rcases n with _ | ⟨a,_ | ⟨b,_ | ⟨c,_ | ⟨d,n⟩⟩⟩⟩
 ·exact absurd rfl h0
 ·exact in9 a (h a List.mem_cons_self) [] List.mem_cons_self
 ·have hb : b ∈ wd4 := h b (List.mem_cons_of_mem _ List.mem_cons_self)
  exact in9 a (h a List.mem_cons_self) [b] (List.mem_cons_of_mem _ (two9 _ (in9 b hb [] List.mem_cons_self) (by show 1 ≤ 2; decide)))
 ·have hb : b ∈ wd4 := h b (List.mem_cons_of_mem _ List.mem_cons_self)
  have hc : c ∈ wd4 := h c (List.mem_cons_of_mem _ (List.mem_cons_of_mem _ List.mem_cons_self))
  exact in9 a (h a List.mem_cons_self) [b,c] (List.mem_cons_of_mem _ (two9 _ (in9 b hb [c] (List.mem_cons_of_mem _ (two9 _ (in9 c hc [] List.mem_cons_self) (by show 1 ≤ 2; decide)))) (by show 2 ≤ 2; decide)))
 ·exact absurd h3 (by simp)
theorem px_e9 {P : List Nat} (h0 : P ≠ []) (h3 : P.length ≤ 3) {n : Nm} (h : n ∈ PX P) : n ∈ E9 := by
 obtain ⟨h1,h2⟩ := zfB h
 exact e9_of h2 (fun e => h0 (List.length_eq_zero_iff.mp (by rw [← h1,e]; rfl))) (h1 ▸ h3)
theorem zla {P : List Nat} (h : cnt P ≠ 0) : PX P ≠ [] := fun e => h (by rw [← zeA,e]; rfl)
theorem al_cp : ∀ {P : List Nat},cnt P ≠ 0 → IsCp (PX P) (al P)
 | [],_ => ⟨fun n _ => List.nil_prefix,fun q hq => hq [] List.mem_cons_self⟩
 | k :: P,h => by
  have hk : (tk k).length ≠ 0 := fun e => h (by show (tk k).length * cnt P = 0; rw [e,Nat.zero_mul])
  have hP : cnt P ≠ 0 := fun e => h (by show (tk k).length * cnt P = 0; rw [e,Nat.mul_zero])
  obtain ⟨p1,p2⟩ := al_cp hP
  have mem : ∀ {w n},w ∈ tk k → n ∈ PX P → w :: n ∈ PX (k :: P) := fun hw hn => List.mem_flatMap.mpr ⟨_,hw,List.mem_map_of_mem hn⟩
  have inv : ∀ n ∈ PX (k :: P), ∃ w n',w ∈ tk k ∧ n' ∈ PX P ∧ w :: n' = n := fun n hn => by
   obtain ⟨w,hw,h⟩ := List.mem_flatMap.mp hn
   obtain ⟨n',h',e⟩ := List.mem_map.mp h
   exact ⟨w,n',hw,h',e⟩
  obtain ⟨n1,hn1⟩ := List.exists_mem_of_ne_nil _ (zla hP)
  have nd : (tk k).Nodup := (show wd4.Nodup by decide).filter _
  show IsCp _ (if 1 < (tk k).length then [] else tk k ++ al P)
  generalize tk k = t at hk mem nd inv
  rcases t with _ | ⟨a,_ | ⟨b,t⟩⟩
  ·exact absurd rfl hk
  ·rw [if_neg (by show ¬ 1 < 1; decide)]
   refine ⟨fun n hn => ?_,fun q hq => ?_⟩
   ·obtain ⟨w,n',hw,hn',rfl⟩ := inv n hn
    rw [List.mem_singleton.mp hw]
    exact List.cons_prefix_cons.mpr ⟨rfl,p1 n' hn'⟩
   ·cases q with
    | nil => exact List.nil_prefix
    | cons c q => exact List.cons_prefix_cons.mpr ⟨(List.cons_prefix_cons.mp (hq _ (mem List.mem_cons_self hn1))).1,p2 q fun n hn => (List.cons_prefix_cons.mp (hq _ (mem List.mem_cons_self hn))).2⟩
  ·rw [if_pos (by show 1 < t.length + 1 + 1; exact Nat.succ_lt_succ (Nat.succ_pos _))]
   refine ⟨fun n _ => List.nil_prefix,fun q hq => ?_⟩
   cases q with
   | nil => exact List.nil_prefix
   | cons c q =>
    have h1 := (List.cons_prefix_cons.mp (hq _ (mem List.mem_cons_self hn1))).1
    have h2 := (List.cons_prefix_cons.mp (hq _ (mem (List.mem_cons_of_mem _ List.mem_cons_self) hn1))).1
    exact absurd (h1.symm.trans h2) fun e => (List.nodup_cons.mp nd).1 (e ▸ List.mem_cons_self)
theorem zkh {α : Type} (l : List α) : pick l none none (some (-1)) = l.reverse := by
 unfold pick
 rw [krv_bounds]
 show (sliceRange ((l.length : Int) - 1) (-1) (-1)).filterMap (l[·]?) = _
 rw [krv_sliceRange,krv_range,List.filterMap_reverse]
 have := krv_all l.toArray
 simp only [List.size_toArray,List.getElem?_toArray] at this
 rw [this]
theorem zle {l : List D} : opF .slice3 [.list l,.none,.none,.int (-1)] = some (.own l.reverse) := by
 rw [← zkh]; rfl
end Mine
end
section
open PySem PySem.StrLaws PySem.Builtin PySem.Builtin.Str
noncomputable section
namespace Mine
noncomputable def pcB : S := (.seq (.assign 4 (.op .fdiv (.cons (.var 4) (.cons (.const (.int 3)) .nil)))) (.seq (.append 6 (.call 17 (.cons (.var 4) .nil))) .skip))
noncomputable def exB : S := (.seq (.assign 14 (.call 1 (.cons (.var 12) (.cons (.var 1) (.cons (.const (.str [46])) .nil))))) (.seq (.assign 15 (.comp 25 (.seqI (.var 2)) (.call 15 (.cons (.var 14) (.cons (.var 1) (.cons (.var 25) .nil)))) (.var 25))) (.seq (.assign 8 (.comp3 26 (.seqI (.var 15)) 27 (.seqI (.var 8)) (.ite (.op .ne (.cons (.var 27) (.cons (.const (.str [])) .nil))) (.call 4 (.cons (.var 26) (.cons (.var 27) .nil))) (.var 26)))) .skip)))
noncomputable def LL (f : Nat → Slot) : List Slot := [f 0,f 1,f 2,f 3,f 4,f 5,f 6,f 7,f 8,f 9,f 10,f 11,f 12,f 13,f 14,f 15,f 16,f 17,f 18,f 19,f 20,f 21,f 22,f 23,f 24,.unset,.unset,.unset,.unset,.unset]
noncomputable def tp (L : List Nm) : List D := L.map fun n => .str (pt n)
set_option genInjectivity false in
structure CF09 (cf : CfT) : Prop where
 dress : ∀ l,cf 17 [nI l] = some (pcD (l % 13))
 trans : ∀ {k : Nat},k < 13 → cf 1 [.str (tT k),.tok 0,.str [46]] = some (.list (tP k))
 takes : ∀ {k : Nat} {w : List Nat},k < 13 → w ∈ wd4 → cf 15 [.list (tP k),.tok 0,.str w] = some (.bool (mB k w))
 means : ∀ {k : Nat} {w : List Nat},k < 13 → w ∈ wd4 → cf 16 [mD k,.str w] = some (.bool (mB k w))
 join : ∀ {w : List Nat} {n : Nm},w ∈ wd4 → n ∈ V9 → cf 4 [.str w,.str (pt n)] = some (.str (pt (w :: n)))
 root : ∀ (r : Bool) {n : Nm},n ∈ E9 → cf 7 [.str (px (r,n))] = some (.tup [.str [],.str (rt r),.str (pt n)])
 norm : ∀ (r : Bool) {n : Nm},n ∈ E9 → cf 9 [.str (px (r,n))] = some (.str (px (r,n)))
 split : ∀ (r : Bool) {n : Nm},n ∈ E9 → cf 5 [.str (px (r,n))] = some (.tup [.str (rt r ++ pt n.dropLast),.str (lst n)])
 cp : ∀ {r : Bool} {P : List (List Nat × Nms)},P ≠ [] → (∀ x ∈ P,Pa r x) → ∃ p,cf 13 [.list (P.map fun x => .str x.1)] = some (.str (pth r p)) ∧ IsCp (P.map (·.2)) p
 rel : ∀ {a b : Nm},a ∈ E9 → b ∈ E9 → cf 11 [.str (told a),.str (told b)] = some (.str (relT a b))
set_option genInjectivity false in
structure B9 (ns : List Int) (f : Nat → Slot) : Prop where
 g0 : f 0 = .val (.list (ns.map .int))
 g1 : f 1 = .val (.tok 0)
 g2 : f 2 = .val (.list (wd4.map .str))
 na : NA f
theorem B9.upd {ns : List Int} {f : Nat → Slot} (B : B9 ns f) {i : Nat} {v : Slot} (hv : ∀ k,appOK k v = true) (h0 : i ≠ 0 := by decide) (h1 : i ≠ 1 := by decide) (h2 : i ≠ 2 := by decide) : B9 ns (upd f i v) :=
 ⟨(if_neg fun e => h0 e.symm).trans B.g0,(if_neg fun e => h1 e.symm).trans B.g1,(if_neg fun e => h2 e.symm).trans B.g2,B.na.upd hv⟩
section
variable {cf : CfT} {f : Nat → Slot} {ns : List Int}
theorem no_app {i : Nat} (na : NA f) : noApp i (LL f) = true := by
 rw [zkw]
 unfold LL
 simp only [List.all_cons,List.all_nil,na _ i,zgW,Bool.and_true]
theorem ow {i : Nat} {l : List D} {s : Slot} {ρ : List Slot} (e : ρ[i]? = some s) (g : s = .own l) (hd : dSlot i = false := by rfl) : ownAt ρ i = some l := by
 unfold ownAt
 rw [e,g]
 exact if_neg (by rw [hd]; exact Bool.false_ne_true)
theorem V_o {ρ : List Slot} {i : Nat} {x : Slot} {l : List D} (e : ρ[i]? = some x) (h : x = .own l) (hd : dSlot i = false) : ev cf (.var i) ρ = some [.bor l] := by
 rw [zcO,e,h]
 exact if_neg (by rw [hd]; exact Bool.false_ne_true)
theorem V_comp3 {ρ : List Slot} {i j : Nat} {it jt e : X} {items l : List D} (h : ev cf it ρ = some [.val (.list items)]) (hf : flatGo (innerL cf i jt j e ρ) items = some l) (hl : l.length ≤ lim) : ev cf (.comp3 i it j jt e) ρ = some [.own l] := by
 rw [zfT,h]
 show (match flatGo (innerL cf i jt j e ρ) items with | some l => if l.length ≤ lim then some [R.own l] else none | none => none) = _
 rw [hf]
 exact if_pos hl
theorem zkN {ρ : List Slot} {i j : Nat} {jt e : X} {d : D} {its : List D} (h : ev cf jt (ρ.set i (.val d)) = some [.val (.list its)]) : innerL cf i jt j e ρ d = compGo (fun d' => turnD (some [.val (.bool true)]) (ev cf e ((ρ.set i (.val d)).set j (.val d')))) its := by
 unfold innerL
 rw [I_of h]
theorem zhq {α : Type} {f : D → Option (List D)} {g : α → D} {h : α → List D} : ∀ {ks : List α},(∀ k ∈ ks,f (g k) = some (h k)) → flatGo f (ks.map g) = some (ks.flatMap h)
 | [],_ => rfl
 | k :: ks,H => by
  show (match f (g k) with | some a => (flatGo f (ks.map g)).map (a ++ ·) | none => none) = _
  rw [H k List.mem_cons_self,zhq fun j hj => H j (List.mem_cons_of_mem _ hj)]
  rfl
set_option genInjectivity false in
structure PC (ns : List Int) (r : Bool) (c : Nat) (f : Nat → Slot) : Prop where
 b : B9 ns f
 g5 : f 5 = .val (.str (rt r))
 q : ∃ q : Nat,f 4 = .val (nI q)
 l : ∃ P : List Nat,f 6 = .own (P.map pcD) ∧ (∀ k ∈ P,k < 13) ∧ P.length = c
theorem pc_turn (C : CF09 cf) {r : Bool} {c : Nat} (hc : c < 3) (I : PC ns r c f) : ∃ f',ex cf pcB (LL f) = some (LL f',.next) ∧ PC ns r (c + 1) f' := by
 obtain ⟨B,g5,⟨q,g4⟩,P,g6,hP,rfl⟩ := I
 let f1 := upd f 4 (.val (nI (q / 3)))
 have a4 : ev1 cf (.op .fdiv (.cons (.var 4) (.cons (.const (.int 3)) .nil))) (LL f) = some (nI (q / 3)) := E_of (V_op2 (V_v rfl g4) rfl (o_div (k := 3) (by decide))) rfl
 have a6 : ev1 cf (.call 17 (.cons (.var 4) .nil)) (LL f1) = some (pcD (q / 3 % 13)) := E_of (zaW (zap (V_v rfl rfl) rfl) rfl (C.dress _)) rfl
 refine ⟨upd f1 6 (.own ((P ++ [q / 3 % 13]).map pcD)), ?_,(B.upd fun _ => rfl).upd fun _ => rfl,g5,⟨_,rfl⟩,P ++ [q / 3 % 13],rfl,fun j hj => ?_,List.length_append⟩
 ·unfold pcB
  refine R_seq (zaj (ρ' := LL f1) a4 rfl) (zai (R_seq (zhJ a6 (ow (s := f1 6) rfl g6) ?_ ?_) (zai zaz)))
  ·rw [List.length_map]; exact Nat.lt_trans hc (by decide)
  ·rw [List.map_append]; rfl
 ·rcases List.mem_append.mp hj with hj | hj
  ·exact hP j hj
  ·rw [List.mem_singleton.mp hj]; exact Nat.mod_lt _ (by decide)
theorem pc_loop (C : CF09 cf) {r : Bool} {m : Nat} (hm : m ≤ 3) (I : PC ns r 0 f) : ∃ f',forGo (put1 7) (ex cf pcB) ((List.range' 0 m).map nI) (LL f) = some (LL f',.next) ∧ PC ns r m f' := by
 obtain ⟨_,e,f',rfl,I'⟩ := zfP (cf := cf) (i := 7) (b := pcB) (I := fun k ρ => ∃ f : Nat → Slot,ρ = LL f ∧ PC ns r k f) (a := 0) (m := m) (ρ := LL f) ⟨f,rfl,I⟩ fun k ρ _ hk J => by
  obtain ⟨f,rfl,B,g5,q,l⟩ := J
  rw [Nat.zero_add] at hk
  obtain ⟨f',e,I'⟩ := pc_turn C (f := upd f 7 (.val (nI k))) (Nat.lt_of_lt_of_le hk hm) ⟨B.upd fun _ => rfl,g5,q,l⟩
  exact ⟨LL f',.next,e,.inl rfl,f',rfl,I'⟩
 rw [Nat.zero_add] at I'
 exact ⟨f',e,I'⟩
set_option genInjectivity false in
structure EX (ns : List Int) (r : Bool) (P Pd : List Nat) (a : Nm) (b : Bool) (c : Nat) (f : Nat → Slot) : Prop where
 B : B9 ns f
 g5 : f 5 = .val (.str (rt r))
 g6 : f 6 = .own (P.map pcD)
 g8 : f 8 = .val (.list (tp (PX Pd)))
 g9 : f 9 = .val (.list (a.map .str))
 g10 : f 10 = .val (.bool b)
 g11 : f 11 = .val (nI c)
theorem zg0 (k : Nat) : (tk k).length ≤ 4 := Nat.le_trans (List.length_filter_le _ _) (by decide)
theorem zjP : ∀ P : List Nat,cnt P ≤ 4 ^ P.length
 | [] => Nat.le_refl _
 | k :: P => by
  show (tk k).length * cnt P ≤ 4 ^ (P.length + 1)
  rw [Nat.pow_succ,Nat.mul_comm (4 ^ P.length)]
  exact Nat.mul_le_mul (zg0 k) (zjP P)
theorem ex_turn (C : CF09 cf) {r : Bool} {P Pd : List Nat} {a : Nm} {b : Bool} {c k : Nat} (hk : k < 13) (hl : Pd.length ≤ 2) (I : EX ns r P Pd a b c f) :
  ∃ f',ex cf exB (LL (upd (upd f 12 (.val (.str (tT k)))) 13 (.val (mD k)))) = some (LL f',.next) ∧ EX ns r P (k :: Pd) a b c f' := by
 obtain ⟨B,g5,g6,g8,g9,g10,g11⟩ := I
 let f0 := upd (upd f 12 (.val (.str (tT k)))) 13 (.val (mD k))
 let f1 := upd f0 14 (.val (.list (tP k)))
 let f2 := upd f1 15 (.val (.list ((tk k).map .str)))
 let f3 := upd f2 8 (.val (.list (tp (PX (k :: Pd)))))
 have a14 : ev1 cf (.call 1 (.cons (.var 12) (.cons (.var 1) (.cons (.const (.str [46])) .nil)))) (LL f0) = some (.list (tP k)) :=
  E_of (zaW (zap (V_v rfl rfl) (zap (V_v rfl (show f0 1 = _ from B.g1)) (zap rfl rfl))) rfl (C.trans hk)) rfl
 have a15 : ev1 cf (.comp 25 (.seqI (.var 2)) (.call 15 (.cons (.var 14) (.cons (.var 1) (.cons (.var 25) .nil)))) (.var 25)) (LL f1) = some (.list ((tk k).map .str)) :=
  E_of (zhI (g := D.str) (v := D.str) (p := mB k) (zbz (V_v rfl (show f1 2 = _ from B.g2)) rfl rfl) fun w hw => zdq (zaW (zap (V_v rfl rfl) (zap (V_v rfl (show f1 1 = _ from B.g1)) (zap rfl rfl))) rfl (C.takes hk hw)) (fun _ => rfl) rfl) rfl
 have el : ∀ w ∈ tk k, ∀ n ∈ PX Pd,turnD (some [.val (.bool true)]) (ev cf (.ite (.op .ne (.cons (.var 27) (.cons (.const (.str [])) .nil))) (.call 4 (.cons (.var 26) (.cons (.var 27) .nil))) (.var 26)) (((LL f2).set 26 (.val (.str w))).set 27 (.val (.str (pt n))))) = some (some (.str (pt (w :: n)))) := fun w hw n hn => by
  obtain ⟨h1,h2⟩ := zfB hn
  have hw := zk4 hw
  refine zdq (p := true) (r := .val (.str (pt (w :: n)))) rfl (fun _ => ?_) rfl
  by_cases h : n = []
  ·subst h
   exact zfp (V_op2 rfl rfl (ne_str _ _)) rfl
  ·have he := e9_of h2 h (Nat.le_trans (h1 ▸ hl) (by decide))
   exact zfo (V_op2 (V_v rfl rfl) rfl ((ne_str _ _).trans (by rw [decide_eq_false (ne9 n he)]; rfl))) (zaW (zap (V_v rfl rfl) (zap (V_v rfl rfl) rfl)) rfl (C.join hw (two9 n he (h1 ▸ hl))))
 have e8 : (tk k).flatMap (fun w => tp ((PX Pd).map (w :: ·))) = tp (PX (k :: Pd)) := by
  unfold tp
  show _ = ((tk k).flatMap fun w => (PX Pd).map (w :: ·)).map _
  rw [List.map_flatMap]
 have a8 : ev1 cf (.comp3 26 (.seqI (.var 15)) 27 (.seqI (.var 8)) (.ite (.op .ne (.cons (.var 27) (.cons (.const (.str [])) .nil))) (.call 4 (.cons (.var 26) (.cons (.var 27) .nil))) (.var 26))) (LL f2) = some (.list (tp (PX (k :: Pd)))) := by
  refine E_of (V_comp3 (zbz (V_v rfl rfl) rfl rfl) ((zhq (h := fun w => tp ((PX Pd).map (w :: ·))) fun w hw => ?_).trans (congrArg some e8)) ?_) rfl
  ·rw [zkN (its := tp (PX Pd)) (zbz (V_v rfl (show f2 8 = _ from g8)) rfl rfl)]
   have := zbf (f := fun d' => turnD (some [.val (.bool true)]) (ev cf (.ite (.op .ne (.cons (.var 27) (.cons (.const (.str [])) .nil))) (.call 4 (.cons (.var 26) (.cons (.var 27) .nil))) (.var 26)) (((LL f2).set 26 (.val (.str w))).set 27 (.val d')))) (p := fun _ => true) (v := fun n : Nm => .str (pt (w :: n))) (el w hw)
   rw [List.filter_eq_self.mpr fun _ _ => rfl] at this
   unfold tp
   rw [List.map_map]
   exact this
  ·unfold tp
   rw [List.length_map,zeA]
   exact Nat.le_trans (zjP _) (Nat.le_trans (Nat.pow_le_pow_right (by decide) (Nat.succ_le_succ hl)) (by decide))
 refine ⟨f3, ?_,((((B.upd fun _ => rfl).upd fun _ => rfl).upd fun _ => rfl).upd fun _ => rfl).upd fun _ => rfl,g5,g6,rfl,g9,g10,g11⟩
 unfold exB
 exact R_seq (zaj (ρ' := LL f1) a14 rfl) (zai (R_seq (zaj (ρ' := LL f2) a15 rfl) (zai (R_seq (zaj (ρ' := LL f3) a8 rfl) (zai zaz)))))
theorem zjG (C : CF09 cf) {r : Bool} {P : List Nat} {a : Nm} {b : Bool} {c : Nat} : ∀ {Q Pd : List Nat} {f : Nat → Slot},(∀ k ∈ Q,k < 13) → Q.length + Pd.length ≤ 3 → EX ns r P Pd a b c f →
  ∃ f',forGo (put2 12 13) (ex cf exB) (Q.map pcD) (LL f) = some (LL f',.next) ∧ EX ns r P (Q.reverse ++ Pd) a b c f'
 | [],Pd,f,_,_,I => ⟨f,rfl,I⟩
 | k :: Q,Pd,f,hQ,hl,I => by
  have hl : Q.length + Pd.length + 1 ≤ 3 := by rw [List.length_cons,Nat.succ_add] at hl; exact hl
  obtain ⟨f1,e1,I1⟩ := ex_turn C (hQ k List.mem_cons_self) (Nat.le_trans (Nat.le_add_left _ _) (Nat.le_of_succ_le_succ hl)) I
  obtain ⟨f2,e2,I2⟩ := zjG C (Pd := k :: Pd) (fun j hj => hQ j (List.mem_cons_of_mem _ hj)) hl I1
  rw [List.reverse_cons,List.append_assoc]
  exact ⟨f2,za4 (st := put2 12 13) zeZ e1 (zci e2),I2⟩
end
noncomputable def mnB : S := (.seq (.assign 17 (.comp 28 (.seqI (.var 2)) (.call 16 (.cons (.var 13) (.cons (.var 28) .nil))) (.var 28))) (.seq (.assign 11 (.op .mul (.cons (.var 11) (.cons (.op .len (.cons (.var 17) .nil)) .nil)))) (.seq (.ite (.op .gt (.cons (.op .len (.cons (.var 17) .nil)) (.cons (.const (.int 1)) .nil))) (.seq (.assign 10 (.const (.bool true))) .skip) (.seq (.ite (.not (.var 10)) (.seq (.assign 9 (.op .add (.cons (.var 9) (.cons (.var 17) .nil)))) .skip) .skip) .skip)) .skip)))
theorem o_muln {a b : Nat} (h : b ≤ 1000000) : opF .mul [nI a,nI b] = some (.val (nI (a * b))) := by
 show (if (small (a : Int) || small (b : Int)) = true then some (R.val (.int ((a : Int) * (b : Int)))) else none) = _
 rw [if_pos (by rw [zaT h,Bool.or_true]), ← Int.natCast_mul]; rfl
theorem o_gtn {a b : Nat} : opF .gt [nI a,nI b] = some (.val (.bool (decide (b < a)))) := by
 show some (R.val (.bool (decide ((b : Int) < (a : Int))))) = _
 rw [decide_eq_decide.mpr Int.ofNat_lt]
section
variable {cf : CfT} {f : Nat → Slot} {ns : List Int}
set_option genInjectivity false in
structure MN (ns : List Int) (r : Bool) (P : List Nat) (a : Nm) (b : Bool) (c : Nat) (f : Nat → Slot) : Prop where
 B : B9 ns f
 g5 : f 5 = .val (.str (rt r))
 g8 : f 8 = .val (.list (tp (PX P)))
 g9 : f 9 = .val (.list (a.map .str))
 g10 : f 10 = .val (.bool b)
 g11 : f 11 = .val (nI c)
theorem mn_turn (C : CF09 cf) {r : Bool} {P : List Nat} {a : Nm} {b : Bool} {c k : Nat} (hk : k < 13) (ha : a.length ≤ 100) (I : MN ns r P a b c f) :
  ∃ f' b' a',ex cf mnB (LL (upd (upd f 12 (.val (.str (tT k)))) 13 (.val (mD k)))) = some (LL f',.next) ∧ MN ns r P a' b' (c * (tk k).length) f' ∧ ((1 < (tk k).length ∧ b' = true ∧ a' = a) ∨ (¬ 1 < (tk k).length ∧ b' = b ∧ a' = if b = true then a else a ++ tk k)) := by
 obtain ⟨B,g5,g8,g9,g10,g11⟩ := I
 let f0 := upd (upd f 12 (.val (.str (tT k)))) 13 (.val (mD k))
 let f1 := upd f0 17 (.val (.list ((tk k).map .str)))
 let f2 := upd f1 11 (.val (nI (c * (tk k).length)))
 have a17 : ev1 cf (.comp 28 (.seqI (.var 2)) (.call 16 (.cons (.var 13) (.cons (.var 28) .nil))) (.var 28)) (LL f0) = some (.list ((tk k).map .str)) :=
  E_of (zhI (g := D.str) (v := D.str) (p := mB k) (zbz (V_v rfl (show f0 2 = _ from B.g2)) rfl rfl) fun w hw => zdq (zaW (zap (V_v rfl rfl) (zap rfl rfl)) rfl (C.means hk hw)) (fun _ => rfl) rfl) rfl
 have a11 : ev1 cf (.op .mul (.cons (.var 11) (.cons (.op .len (.cons (.var 17) .nil)) .nil))) (LL f1) = some (nI (c * (tk k).length)) :=
  E_of (V_op2 (V_v rfl (show f1 11 = _ from g11)) (V_op1 (V_v rfl rfl) zeD) (o_muln (Nat.le_trans (zg0 k) (by decide)))) rfl
 have c1 : evT cf (.op .gt (.cons (.op .len (.cons (.var 17) .nil)) (.cons (.const (.int 1)) .nil))) (LL f2) = some (decide (1 < (tk k).length)) := T_of (V_op2 (V_op1 (V_v rfl rfl) zeD) rfl (o_gtn (b := 1)))
 have c2 : evT cf (.not (.var 10)) (LL f2) = some (!b) := T_of (V_not (V_v rfl (show f2 10 = _ from g10)))
 have B2 : B9 ns f2 := (((B.upd fun _ => rfl).upd fun _ => rfl).upd fun _ => rfl).upd fun _ => rfl
 have go : ∀ {f' : Nat → Slot} {s : S},ex cf s (LL f2) = some (LL f',.next) → ex cf (.seq (.assign 17 (.comp 28 (.seqI (.var 2)) (.call 16 (.cons (.var 13) (.cons (.var 28) .nil))) (.var 28))) (.seq (.assign 11 (.op .mul (.cons (.var 11) (.cons (.op .len (.cons (.var 17) .nil)) .nil)))) (.seq s .skip))) (LL f0) = some (LL f',.next) := fun h =>
  R_seq (zaj (ρ' := LL f1) a17 rfl) (zai (R_seq (zaj (ρ' := LL f2) a11 rfl) (zai (R_seq h (zai zaz)))))
 unfold mnB
 by_cases h : 1 < (tk k).length
 ·rw [decide_eq_true h] at c1
  exact ⟨upd f2 10 (.val (.bool true)),true,a,go (R_ite c1 (R_tt (R_seq (zaj (ρ' := LL (upd f2 10 (.val (.bool true)))) rfl rfl) (zai zaz)))),⟨B2.upd fun _ => rfl,g5,g8,g9,rfl,rfl⟩,.inl ⟨h,rfl,rfl⟩⟩
 ·rw [decide_eq_false h] at c1
  cases b with
  | true => exact ⟨f2,true,a,go (R_ite c1 (R_ff (R_seq (R_ite c2 (R_ff zaz)) (zai zaz)))),⟨B2,g5,g8,g9,g10,rfl⟩,.inr ⟨h,rfl,rfl⟩⟩
  | false =>
   have a9 : ev1 cf (.op .add (.cons (.var 9) (.cons (.var 17) .nil))) (LL f2) = some (.list ((a ++ tk k).map .str)) := by
    rw [List.map_append]
    exact E_of (V_op2 (V_v rfl (show f2 9 = _ from g9)) (V_v rfl rfl) (zfC (by rw [List.length_map,List.length_map]; exact Nat.le_trans (Nat.add_le_add ha (zg0 k)) (by decide)))) rfl
   exact ⟨upd f2 9 (.val (.list ((a ++ tk k).map .str))),false,a ++ tk k,go (R_ite c1 (R_ff (R_seq (R_ite c2 (R_tt (R_seq (zaj (ρ' := LL (upd f2 9 (.val (.list ((a ++ tk k).map .str))))) a9 rfl) (zai zaz)))) (zai zaz)))),⟨B2.upd fun _ => rfl,g5,g8,rfl,g10,rfl⟩,.inr ⟨h,rfl,rfl⟩⟩
theorem zi8 (C : CF09 cf) {r : Bool} {P : List Nat} : ∀ {Q : List Nat} {a : Nm} {b : Bool} {c : Nat} {f : Nat → Slot},(∀ k ∈ Q,k < 13) → a.length + 4 * Q.length ≤ 100 → MN ns r P a b c f →
  ∃ f' b',forGo (put2 12 13) (ex cf mnB) (Q.map pcD) (LL f) = some (LL f',.next) ∧ MN ns r P (if b = true then a else a ++ al Q) b' (c * cnt Q) f'
 | [],a,b,c,f,_,_,I => by
  refine ⟨f,b,rfl, ?_⟩
  have e : (if b = true then a else a ++ al []) = a := by
   cases b
   ·exact List.append_nil a
   ·rfl
  rw [e,show c * cnt [] = c from Nat.mul_one c]
  exact I
 | k :: Q,a,b,c,f,hQ,hl,I => by
  have hl : a.length + (4 * Q.length + 4) ≤ 100 := hl
  obtain ⟨f1,b1,a1,e1,I1,h⟩ := mn_turn C (hQ k List.mem_cons_self) (Nat.le_trans (Nat.le_add_right _ _) hl) I
  have la : a1.length + 4 * Q.length ≤ 100 := by
   have h1 : a1.length ≤ a.length + 4 := by
    rcases h with ⟨_,_,e⟩ | ⟨_,_,e⟩
    ·rw [e]; exact Nat.le_add_right _ _
    ·rw [e]
     split
     ·exact Nat.le_add_right _ _
     ·rw [List.length_append]; exact Nat.add_le_add_left (zg0 k) _
   refine Nat.le_trans (Nat.add_le_add_right h1 _) ?_
   rw [Nat.add_assoc,Nat.add_comm 4]; exact hl
  obtain ⟨f2,b2,e2,I2⟩ := zi8 C (fun j hj => hQ j (List.mem_cons_of_mem _ hj)) la I1
  refine ⟨f2,b2,za4 (st := put2 12 13) zeZ e1 (zci e2), ?_⟩
  have e : (if b1 = true then a1 else a1 ++ al Q) = if b = true then a else a ++ al (k :: Q) := by
   show _ = if b = true then a else a ++ (if 1 < (tk k).length then [] else tk k ++ al Q)
   rcases h with ⟨h,rfl,rfl⟩ | ⟨h,rfl,rfl⟩
   ·rw [if_pos h,List.append_nil,if_pos rfl]
    cases b <;> rfl
   ·rw [if_neg h]
    cases b1
    ·exact List.append_assoc _ _ _
    ·rfl
  rw [← e,show c * cnt (k :: Q) = c * (tk k).length * cnt Q from (Nat.mul_assoc _ _ _).symm]
  exact I2
end
noncomputable def e1X : X := (.or (.op .ne (.cons (.call 13 (.cons (.var 8) .nil)) (.cons (.var 19) .nil))) (.op .ne (.cons (.call 13 (.cons (.op .slice3 (.cons (.var 8) (.cons (.const .none) (.cons (.const .none) (.cons (.op .neg (.cons (.const (.int 1)) .nil)) .nil))))) .nil)) (.cons (.var 19) .nil))))
noncomputable def e2X : X := (.op .ne (.cons (.call 13 (.cons (.op .add (.cons (.op .add (.cons (.op .slice (.cons (.var 8) (.cons (.const .none) (.cons (.const (.int 2)) .nil)))) (.cons (.var 8) .nil))) (.cons (.list (.cons (.op .add (.cons (.op .index (.cons (.var 8) (.cons (.op .neg (.cons (.const (.int 1)) .nil)) .nil))) (.cons (.const (.str [47])) .nil))) (.cons (.op .add (.cons (.op .index (.cons (.var 8) (.cons (.const (.int 0)) .nil))) (.cons (.const (.str [47,46])) .nil))) .nil))) .nil))) .nil)) (.cons (.var 19) .nil)))
noncomputable def pr (r : Bool) (N : List Nm) : List D := N.map fun n => .str (px (r,n))
theorem zk8 {r : Bool} {n : Nm} : px (r,n) = pth r n := by cases r <;> rfl
theorem zk6 : ∀ x ∈ pths,(px x).length ≤ 20 := by decide +kernel
theorem fs9 : pths.map (fun x => (sp (px x ++ [47])).filter fun w => !decide (w = []) && !decide (w = [46])) = pths.map (·.2) := by kernel_rfl
theorem fd9 : pths.map (fun x => (sp (px x ++ [47,46])).filter fun w => !decide (w = []) && !decide (w = [46])) = pths.map (·.2) := by kernel_rfl
theorem ss9 : pths.map (fun x => opF .startswith [.str (px x ++ [47]),.str [47]]) = pths.map (fun x => some (R.val (.bool x.1))) := by kernel_rfl
theorem sd9 : pths.map (fun x => opF .startswith [.str (px x ++ [47,46]),.str [47]]) = pths.map (fun x => some (R.val (.bool x.1))) := by kernel_rfl
theorem wl9 {n : Nm} (h : n ∈ E9) : ∀ w ∈ n,w.length ≤ 90 := fun w hw => (show ∀ w ∈ wd4,w.length ≤ 90 by decide) w (word9 n h w hw)
theorem nl9 {n : Nm} (h : n ∈ E9) : n.length ≤ 1000 := Nat.le_trans (len9 n h).1 (by decide)
theorem pa9 (r : Bool) {n : Nm} (h : n ∈ E9) : Pa r (px (r,n),n) := zk8 ▸ pth_pa (fun w hw => zhD w (word9 n h w hw)) (nl9 h) (wl9 h)
theorem lim9 (r : Bool) {n : Nm} (h : n ∈ E9) {t : List Nat} (ht : t.length ≤ 10) : (px (r,n) ++ t).length + 2 ≤ lim := by
 rw [List.length_append]
 exact Nat.le_trans (Nat.add_le_add_right (Nat.add_le_add (zk6 _ (za3 h)) ht) 2) (by decide)
theorem pas9 (r : Bool) {n : Nm} (h : n ∈ E9) : Pa r (px (r,n) ++ [47],n) := ⟨zbr fs9 (za3 h),zbr ss9 (za3 h),lim9 r h (by decide),nl9 h,wl9 h⟩
theorem pad9 (r : Bool) {n : Nm} (h : n ∈ E9) : Pa r (px (r,n) ++ [47,46],n) := ⟨zbr fd9 (za3 h),zbr sd9 (za3 h),lim9 r h (by decide),nl9 h,wl9 h⟩
theorem zdO {t : List Nat} : opF .ne [.str t,.str t] = some (.val (.bool false)) := (ne_str t t).trans (by rw [decide_eq_true rfl]; rfl)
theorem clip_ge {k n : Nat} (h : n ≤ k) : clip (k : Int) n = n := by
 unfold clip
 rw [if_neg (Int.not_lt.mpr (Int.natCast_nonneg k)),if_neg (Int.not_lt.mpr (Int.ofNat_le.mpr h))]
theorem ziT {l : List D} {n : Nat} (h : n ≤ 1000000) : opF .slice [.list l,.none,.int (n : Int)] = some (.own (l.take n)) := by
 rcases Nat.le_total n l.length with hl | hl
 ·exact zgx h hl
 ·show (match bound .none 0 l.length,bound (.int (n : Int)) l.length l.length with
   | some lo,some hi => some (R.own (cut l lo hi))
   | _,_ => none) = _
  rw [show bound (.int (n : Int)) l.length l.length = some (clip (n : Int) l.length) from if_pos (zaT h),clip_ge hl,List.take_of_length_le hl]
  exact congrArg (fun l => some (R.own l)) (List.take_of_length_le (Nat.le_refl _))
section
variable {cf : CfT} {f : Nat → Slot} {ns : List Int}
theorem cp_is (C : CF09 cf) {r : Bool} {X : List (List Nat × Nms)} {l : List D} {N : List Nm} {a : Nm} (hl : X.map (fun x => D.str x.1) = l) (hX : X ≠ []) (hp : ∀ x ∈ X,Pa r x) (hN : ∀ n,n ∈ X.map (·.2) ↔ n ∈ N) (ha : IsCp N a) : cf 13 [.list l] = some (.str (px (r,a))) := by
 obtain ⟨p,e,h⟩ := C.cp hX hp
 have : IsCp N p := ⟨fun n hn => h.pre n ((hN n).mpr hn),fun q hq => h.top q fun n hn => hq n ((hN n).mp hn)⟩
 rw [← hl,e,zk8,ha.eq this]
set_option genInjectivity false in
structure EL (ns : List Int) (r : Bool) (N : List Nm) (a : Nm) (f : Nat → Slot) : Prop where
 B : B9 ns f
 g5 : f 5 = .val (.str (rt r))
 g8 : f 8 = .val (.list (pr r N))
 g19 : f 19 = .val (.str (px (r,a)))
noncomputable def xs (r : Bool) (N : List Nm) : List (List Nat × Nms) := N.map fun n => (px (r,n),n)
theorem xs_pr {r : Bool} {N : List Nm} : (xs r N).map (fun x => D.str x.1) = pr r N := List.map_map
theorem xs_nm {r : Bool} {N : List Nm} : (xs r N).map (·.2) = N := List.map_map.trans (List.map_id N)
theorem xs_pa {r : Bool} {N : List Nm} (hN : ∀ n ∈ N,n ∈ E9) : ∀ x ∈ xs r N,Pa r x := fun x hx => by
 obtain ⟨n,hn,rfl⟩ := List.mem_map.mp hx
 exact pa9 r (hN n hn)
theorem xs_ne {r : Bool} {N : List Nm} (h : N ≠ []) : xs r N ≠ [] := fun e => h (List.map_eq_nil_iff.mp e)
theorem chk1 (C : CF09 cf) {r : Bool} {N : List Nm} {a : Nm} (h0 : N ≠ []) (hN : ∀ n ∈ N,n ∈ E9) (ha : IsCp N a) (I : EL ns r N a f) : evT cf e1X (LL f) = some false := by
 have c1 := cp_is C xs_pr (xs_ne (r := r) h0) (xs_pa hN) (fun n => by rw [xs_nm]) ha
 have c2 := cp_is C (X := (xs r N).reverse) (l := (pr r N).reverse) (by rw [List.map_reverse,xs_pr]) (fun e => xs_ne (r := r) h0 (List.reverse_eq_nil_iff.mp e)) (fun x hx => xs_pa hN x (List.mem_reverse.mp hx)) (fun n => by rw [List.map_reverse,List.mem_reverse,xs_nm]) ha
 unfold e1X
 exact T_of (V_or (V_op2 (zaW (zap (V_v rfl I.g8) rfl) rfl c1) (V_v rfl I.g19) zdO) (V_op2 (zaW (zap (V_op (zap (V_v rfl I.g8) (zap rfl (zap rfl (zap rfl rfl)))) zle) rfl) rfl c2) (V_v rfl I.g19) zdO))
theorem o_pr0 {r : Bool} {n : Nm} {N : List Nm} : opF .index [.list (pr r (n :: N)),.int 0] = some (.val (.str (px (r,n)))) := zcs (k := 0) rfl (by decide)
theorem o_prl {r : Bool} {n : Nm} {N : List Nm} : opF .index [.list (pr r (N ++ [n])),.int (-1)] = some (.val (.str (px (r,n)))) := by
 unfold pr
 rw [List.map_append]
 exact o_last
theorem zlg {r : Bool} {n : Nm} (h : n ∈ E9) {t : List Nat} (ht : t.length ≤ 10) : opF .add [.str (px (r,n)),.str t] = some (.val (.str (px (r,n) ++ t))) :=
 zbC (by rw [← List.length_append]; exact Nat.le_trans (Nat.le_add_right _ 2) (lim9 r h ht))
theorem chk2 (C : CF09 cf) {r : Bool} {N N1 N2 : List Nm} {a n1 n2 : Nm} (e1 : N = n1 :: N1) (e2 : N = N2 ++ [n2]) (hl : N.length ≤ 64) (hN : ∀ n ∈ N,n ∈ E9) (ha : IsCp N a) (I : EL ns r N a f) : evT cf e2X (LL f) = some false := by
 have m1 : n1 ∈ N := by rw [e1]; exact List.mem_cons_self
 have m2 : n2 ∈ N := by rw [e2]; exact List.mem_append_right _ List.mem_cons_self
 have i0 : opF .index [.list (pr r N),.int 0] = some (.val (.str (px (r,n1)))) := by rw [e1]; exact o_pr0
 have il : opF .index [.list (pr r N),.int (-1)] = some (.val (.str (px (r,n2)))) := by rw [e2]; exact o_prl
 have len : (pr r N).length ≤ 64 := by unfold pr; rw [List.length_map]; exact hl
 have c := cp_is C (X := (xs r N).take 2 ++ xs r N ++ [(px (r,n2) ++ [47],n2),(px (r,n1) ++ [47,46],n1)]) (l := (pr r N).take 2 ++ pr r N ++ [.str (px (r,n2) ++ [47]),.str (px (r,n1) ++ [47,46])])
  (by rw [List.map_append,List.map_append,List.map_take,xs_pr]; rfl) (fun e => xs_ne (r := r) (fun e => by rw [e] at m1; cases m1) (List.append_eq_nil_iff.mp (List.append_eq_nil_iff.mp e).1).2)
  (fun x hx => by
   rcases List.mem_append.mp hx with hx | hx
   ·rcases List.mem_append.mp hx with hx | hx
    ·exact xs_pa hN x (List.mem_of_mem_take hx)
    ·exact xs_pa hN x hx
   ·rcases List.mem_cons.mp hx with rfl | hx
    ·exact pas9 r (hN n2 m2)
    ·rw [List.mem_singleton.mp hx]; exact pad9 r (hN n1 m1))
  (fun n => by
   rw [List.map_append,List.map_append,List.map_take,xs_nm]
   constructor
   ·intro h
    rcases List.mem_append.mp h with h | h
    ·rcases List.mem_append.mp h with h | h
     ·exact List.mem_of_mem_take h
     ·exact h
    ·rcases List.mem_cons.mp h with rfl | h
     ·exact m2
     ·rw [List.mem_singleton.mp h]; exact m1
   ·exact fun h => List.mem_append_left _ (List.mem_append_right _ h)) ha
 have lim3 : ∀ {x : Nat},x ≤ 200 → x ≤ lim := fun h => Nat.le_trans h (by decide)
 have l2 : ((pr r N).take 2).length ≤ 2 := by rw [List.length_take]; exact Nat.min_le_left _ _
 unfold e2X
 exact T_of (V_op2 (zaW (zap (V_op2 (V_op2 (V_op3 (V_v rfl I.g8) rfl rfl (ziT (n := 2) (by decide))) (V_v rfl I.g8) (zfC (lim3 (Nat.le_trans (Nat.add_le_add l2 len) (by decide))))) (zjZ (V_op2 (V_op2 (V_v rfl I.g8) rfl il) rfl (zlg (hN n2 m2) (by decide))) (V_op2 (V_op2 (V_v rfl I.g8) rfl i0) rfl (zlg (hN n1 m1) (by decide)))) (zfC (lim3 (by rw [List.length_append]; exact Nat.le_trans (Nat.add_le_add_right (Nat.add_le_add l2 len) 2) (by decide))))) rfl) rfl c) (V_v rfl I.g19) zdO)
end
noncomputable def pbB : S := (.seq (.assign 20 (.op .split (.cons (.op .slice (.cons (.var 16) (.cons (.op .len (.cons (.var 5) .nil)) (.cons (.const .none) .nil)))) (.cons (.const (.str [47])) .nil)))) (.seq (.ite (.or (.op .ne (.cons (.call 7 (.cons (.var 16) .nil)) (.cons (.tup (.cons (.const (.str [])) (.cons (.var 5) (.cons (.op .join (.cons (.const (.str [47])) (.cons (.var 20) .nil))) .nil)))) .nil))) (.op .ne (.cons (.call 9 (.cons (.var 16) .nil)) (.cons (.var 16) .nil)))) (.seq (.ret (.const (.bool false))) .skip) .skip) (.seq (.ite (.op .ne (.cons (.call 5 (.cons (.var 16) .nil)) (.cons (.tup (.cons (.ite (.op .eq (.cons (.var 5) (.cons (.const (.str [])) .nil))) (.op .join (.cons (.const (.str [47])) (.cons (.op .slice (.cons (.var 20) (.cons (.const .none) (.cons (.op .neg (.cons (.const (.int 1)) .nil)) .nil)))) .nil))) (.op .add (.cons (.const (.str [47])) (.cons (.op .join (.cons (.const (.str [47])) (.cons (.op .slice (.cons (.var 20) (.cons (.const .none) (.cons (.op .neg (.cons (.const (.int 1)) .nil)) .nil)))) .nil))) .nil)))) (.cons (.op .index (.cons (.var 20) (.cons (.op .neg (.cons (.const (.int 1)) .nil)) .nil))) .nil))) .nil))) (.seq (.ret (.const (.bool false))) .skip) .skip) .skip)))
noncomputable def whC : X := (.and (.op .lt (.cons (.var 23) (.cons (.op .len (.cons (.var 21) .nil)) .nil))) (.op .eq (.cons (.op .index (.cons (.var 21) (.cons (.var 23) .nil))) (.cons (.op .index (.cons (.var 22) (.cons (.var 23) .nil))) .nil))))
noncomputable def whB : S := (.seq (.assign 23 (.op .add (.cons (.var 23) (.cons (.const (.int 1)) .nil)))) .skip)
theorem o_ltn {a b : Nat} : opF .lt [nI a,nI b] = some (.val (.bool (decide (a < b)))) := by
 show some (R.val (.bool (decide ((a : Int) < (b : Int))))) = _
 rw [decide_eq_decide.mpr Int.ofNat_lt]
theorem o_subn {a b : Nat} (h : b ≤ a) : opF .sub [nI a,nI b] = some (.val (nI (a - b))) := by
 show some (R.val (.int ((a : Int) - (b : Int)))) = _
 rw [← Int.ofNat_sub h]; rfl
theorem zhi {ds : List D} (h : (D.tup ds).ok 9 = true) : opF .ne [.tup ds,.tup ds] = some (.val (.bool false)) := by
 have e : eqD (.tup ds) (.tup ds) = some true := by
  show (if ((D.tup ds).ok 9 && (D.tup ds).ok 9) = true then some (PyData.eqv (D.tup ds).toPy (D.tup ds).toPy) else none) = _
  rw [h,zfV]; rfl
 show ((eqD (.tup ds) (.tup ds)).map (!·)).map (fun x => R.val (.bool x)) = _
 rw [e]; rfl
theorem ziM {n : Nm} (h : n ∈ E9) : (pt n).length ≤ 20 := zk6 (false,n) (za3 h)
theorem o_jn {n : Nm} (h : (pt n).length ≤ 20) : opF .join [.str [47],nD n] = some (.val (.str (pt n))) := zdI (Nat.le_trans h (by decide))
theorem zjU : ∀ n ∈ E9,(pt n.dropLast).length ≤ 20 := by decide +kernel
section
variable {cf : CfT} {f : Nat → Slot} {ns : List Int}
theorem V_tup {ρ : List Slot} {xs : X} {rs : List R} {ds : List D} (h1 : ev cf xs ρ = some rs) (h2 : fzAll rs = some ds) (hl : ds.length ≤ lim := by exact Nat.le_of_ble_eq_true rfl) : ev cf (.tup xs) ρ = some [.val (.tup ds)] := by
 rw [zgL,h1]
 simp only [h2]
 exact if_pos hl
theorem zjL {r : Bool} {n : Nm} (hn : n ∈ E9) {x : X} {ρ : List Slot} {s : Slot} (hx : ev cf x ρ = some [.val (.str (px (r,n)))]) (e : ρ[5]? = some s) (g : s = .val (.str (rt r))) :
  ev1 cf (.op .split (.cons (.op .slice (.cons x (.cons (.op .len (.cons (.var 5) .nil)) (.cons (.const .none) .nil)))) (.cons (.const (.str [47])) .nil))) ρ = some (nD n) :=
 E_of (V_op2 (V_op3 hx (V_op1 (V_v e g) o_lens) rfl (zbr cut9 (za3 (r := r) hn))) rfl (zbr names9 hn)) rfl
set_option genInjectivity false in
structure PB (ns : List Int) (r : Bool) (N : List Nm) (f : Nat → Slot) : Prop where
 B : B9 ns f
 g5 : f 5 = .val (.str (rt r))
 g8 : f 8 = .val (.list (pr r N))
theorem pb_turn (C : CF09 cf) {r : Bool} {N : List Nm} {n : Nm} (hn : n ∈ E9) (I : PB ns r N f) : ∃ f',ex cf pbB (LL (upd f 16 (.val (.str (px (r,n)))))) = some (LL f',.next) ∧ PB ns r N f' := by
 let f1 := upd f 16 (.val (.str (px (r,n))))
 let f2 := upd f1 20 (.val (nD n))
 have a20 := zjL (cf := cf) hn (x := .var 16) (ρ := LL f1) (V_v rfl rfl) rfl (show f1 5 = _ from I.g5)
 have c1 : evT cf (.or (.op .ne (.cons (.call 7 (.cons (.var 16) .nil)) (.cons (.tup (.cons (.const (.str [])) (.cons (.var 5) (.cons (.op .join (.cons (.const (.str [47])) (.cons (.var 20) .nil))) .nil)))) .nil))) (.op .ne (.cons (.call 9 (.cons (.var 16) .nil)) (.cons (.var 16) .nil)))) (LL f2) = some false :=
  T_of (V_or (V_op2 (zaW (zap (V_v rfl rfl) rfl) rfl (C.root r hn)) (V_tup (zap rfl (zap (V_v rfl (show f2 5 = _ from I.g5)) (zap (V_op2 rfl (V_v rfl rfl) (o_jn (ziM hn))) rfl))) rfl) (zhi rfl)) (V_op2 (zaW (zap (V_v rfl rfl) rfl) rfl (C.norm r hn)) (V_v rfl rfl) zdO))
 have jn : ev cf (.op .join (.cons (.const (.str [47])) (.cons (.op .slice (.cons (.var 20) (.cons (.const .none) (.cons (.op .neg (.cons (.const (.int 1)) .nil)) .nil)))) .nil))) (LL f2) = some [.val (.str (pt n.dropLast))] :=
  V_op2 rfl (V_op3 (V_v rfl rfl) rfl rfl (zbr but9 hn)) (o_jn (zjU n hn))
 have c2 : evT cf (.op .ne (.cons (.call 5 (.cons (.var 16) .nil)) (.cons (.tup (.cons (.ite (.op .eq (.cons (.var 5) (.cons (.const (.str [])) .nil))) (.op .join (.cons (.const (.str [47])) (.cons (.op .slice (.cons (.var 20) (.cons (.const .none) (.cons (.op .neg (.cons (.const (.int 1)) .nil)) .nil)))) .nil))) (.op .add (.cons (.const (.str [47])) (.cons (.op .join (.cons (.const (.str [47])) (.cons (.op .slice (.cons (.var 20) (.cons (.const .none) (.cons (.op .neg (.cons (.const (.int 1)) .nil)) .nil)))) .nil))) .nil)))) (.cons (.op .index (.cons (.var 20) (.cons (.op .neg (.cons (.const (.int 1)) .nil)) .nil))) .nil))) .nil))) (LL f2) = some false := by
  refine T_of (V_op2 (zaW (zap (V_v rfl rfl) rfl) rfl (C.split r hn)) (V_tup (zap (a := .val (.str (rt r ++ pt n.dropLast))) ?_ (zap (V_op2 (V_v rfl rfl) rfl (zbr last9 hn)) rfl)) rfl) (zhi rfl))
  cases r
  ·exact zfo (V_op2 (V_v rfl (show f2 5 = _ from I.g5)) rfl (eq_str _ _)) jn
  ·exact zfp (V_op2 (V_v rfl (show f2 5 = _ from I.g5)) rfl (eq_str _ _)) (V_op2 rfl jn (zbC (Nat.le_trans (Nat.add_le_add_left (zjU n hn) 1) (by decide))))
 refine ⟨f2, ?_,(I.B.upd fun _ => rfl).upd fun _ => rfl,I.g5,I.g8⟩
 unfold pbB
 exact R_seq (zaj (ρ' := LL f2) a20 rfl) (zai (R_seq (R_ite c1 (R_ff zaz)) (zai (R_seq (R_ite c2 (R_ff zaz)) (zai zaz)))))
theorem pb_loop (C : CF09 cf) {r : Bool} {N : List Nm} (hN : ∀ n ∈ N,n ∈ E9) (I : PB ns r N f) : ∃ f',forGo (put1 16) (ex cf pbB) ((pr r N).take 12) (LL f) = some (LL f',.next) ∧ PB ns r N f' := by
 obtain ⟨_,e,f',rfl,I'⟩ := zjw (cf := cf) (i := 16) (b := pbB) (I := fun ρ => ∃ f : Nat → Slot,ρ = LL f ∧ PB ns r N f) (l := (pr r N).take 12) (ρ := LL f) ⟨f,rfl,I⟩ fun d hd ρ J => by
  obtain ⟨f,rfl,I⟩ := J
  obtain ⟨n,hn,rfl⟩ := List.mem_map.mp (List.mem_of_mem_take hd)
  obtain ⟨f',e,I'⟩ := pb_turn C (hN n hn) I
  exact ⟨LL f',e,f',rfl,I'⟩
 exact ⟨f',e,I'⟩
set_option genInjectivity false in
structure WH (ns : List Int) (n1 n2 : Nm) (c : Nat) (f : Nat → Slot) : Prop where
 B : B9 ns f
 g21 : f 21 = .val (nD n1)
 g22 : f 22 = .val (nD n2)
 g23 : f 23 = .val (nI c)
theorem ziq {n1 n2 : Nm} : ∀ (u v p : Nm) (fuel : Nat) {f : Nat → Slot},n1 = p ++ u → n2 = p ++ v → u.length = v.length → u.length < fuel → n1.length ≤ 100 → WH ns n1 n2 p.length f →
  ∃ f',whileGo (evT cf whC) (ex cf whB) fuel (LL f) = some (LL f',.next) ∧ WH ns n1 n2 (p.length + (cp u v).length) f'
 | _,_,_,0,_,_,_,_,h,_,_ => absurd h (Nat.not_lt_zero _)
 | [],v,p,fuel + 1,f,e1,_,_,_,_,I => by
  have c : evT cf whC (LL f) = some false := by
   unfold whC
   refine T_of (zk1 (V_op2 (V_v rfl I.g23) (V_op1 (V_v rfl I.g21) zeD) (o_ltn.trans ?_)))
   rw [e1,List.append_nil,decide_eq_false (Nat.lt_irrefl _)]
  exact ⟨f,zd5 c zj1,I⟩
 | x :: u,[],p,fuel + 1,f,_,_,h,_,_,_ => nomatch h
 | x :: u,y :: v,p,fuel + 1,f,e1,e2,hl,hf,h100,I => by
  have hp : p.length < n1.length := by rw [e1,List.length_append]; exact Nat.lt_add_of_pos_right (Nat.succ_pos _)
  have hp6 : p.length ≤ 1000000 := Nat.le_trans (Nat.le_of_lt hp) (Nat.le_trans h100 (by decide))
  have at_ : ∀ {n : Nm} {z : List Nat} {w : Nm},n = p ++ z :: w → opF .index [nD n,nI p.length] = some (.val (.str z)) := fun {n z w} e => by
   subst e
   exact zcs (by rw [List.map_append,List.getElem?_append_right (by rw [List.length_map]; exact Nat.le_refl _),List.length_map,Nat.sub_self]; rfl) hp6
  have c : evT cf whC (LL f) = some (decide (x = y)) := by
   unfold whC
   refine T_of (zk0 (V_op2 (V_v rfl I.g23) (V_op1 (V_v rfl I.g21) zeD) (o_ltn.trans ?_)) (V_op2 (V_op2 (V_v rfl I.g21) (V_v rfl I.g23) (at_ e1)) (V_op2 (V_v rfl I.g22) (V_v rfl I.g23) (at_ e2)) (eq_str _ _)))
   rw [decide_eq_true hp]
  by_cases h : x = y
  ·subst h
   rw [decide_eq_true rfl] at c
   obtain ⟨f',e',I'⟩ := ziq u v (p ++ [x]) fuel (f := upd f 23 (.val (nI (p.length + 1)))) (by rw [List.append_assoc]; exact e1) (by rw [List.append_assoc]; exact e2) (Nat.succ.inj hl) (Nat.lt_of_succ_lt_succ hf) h100 ⟨I.B.upd fun _ => rfl,I.g21,I.g22,by rw [List.length_append]; rfl⟩
   refine ⟨f',zd5 c (R_wGo (o := .next) (ρ₁ := LL (upd f 23 (.val (nI (p.length + 1))))) ?_ (R_wNext e')), ?_⟩
   ·unfold whB
    exact R_seq (zaj (E_of (V_op2 (V_v rfl I.g23) rfl (ziV (b := 1))) rfl) rfl) (zai zaz)
   ·rw [zbc,if_pos rfl,List.length_cons,Nat.add_succ, ← Nat.succ_add]
    rw [List.length_append] at I'
    exact I'
  ·rw [decide_eq_false h] at c
   rw [zbc,if_neg h]
   exact ⟨f,zd5 c zj1,I⟩
theorem due_ev {ρ : List Slot} {n1 n2 : Nm} {c : Nat} {s1 s2 s3 : Slot} (e1 : ρ[21]? = some s1) (g1 : s1 = .val (nD n1)) (e2 : ρ[22]? = some s2) (g2 : s2 = .val (nD n2)) (e3 : ρ[23]? = some s3) (g3 : s3 = .val (nI c))
  (h1 : n1 ∈ E9) (h2 : n2 ∈ E9) (hl : n1.length = n2.length) (hc : c = (cp n1 n2).length) :
  ev1 cf (.or (.op .join (.cons (.const (.str [47])) (.cons (.op .add (.cons (.op .mul (.cons (.list (.cons (.const (.str [46,46])) .nil)) (.cons (.op .sub (.cons (.op .len (.cons (.var 21) .nil)) (.cons (.var 23) .nil))) .nil))) (.cons (.op .slice (.cons (.var 22) (.cons (.var 23) (.cons (.const .none) .nil)))) .nil))) .nil))) (.const (.str [46]))) ρ = some (.str (relT n2 n1)) := by
 have l1 := (len9 n1 h1).1
 have hc1 : c ≤ n1.length := hc ▸ zfY n1 n2
 have hc3 : c ≤ 3 := Nat.le_trans hc1 l1
 have er : (List.replicate (n1.length - c) (D.str [46,46]) ++ (n2.map D.str).drop c) = (relL n2 n1).map D.str := by
  unfold relL
  rw [← hc,List.map_append,List.map_replicate,List.map_drop]
 have hw : ∀ w ∈ relL n2 n1,w.length ≤ 2 ∧ NameOK w := fun w hw => by
  rcases ziJ w hw with rfl | hw
  ·exact ⟨by decide,by decide,by decide⟩
  ·exact ⟨(show ∀ w ∈ wd4,w.length ≤ 2 by decide) w (word9 n2 h2 w hw),(zhD w (word9 n2 h2 w hw)).nm⟩
 have ll : (relL n2 n1).length ≤ 6 := by
  unfold relL
  rw [List.length_append,List.length_replicate,List.length_drop]
  exact Nat.add_le_add (Nat.le_trans (Nat.sub_le _ _) l1) (Nat.le_trans (Nat.sub_le _ _) (len9 n2 h2).1)
 have jl : (joinL [47] (relL n2 n1)).length ≤ lim := Nat.le_trans (zbk _ 2 fun w h => (hw w h).1) (Nat.le_trans (Nat.mul_le_mul_left 3 ll) (by decide))
 have j : ev cf (.op .join (.cons (.const (.str [47])) (.cons (.op .add (.cons (.op .mul (.cons (.list (.cons (.const (.str [46,46])) .nil)) (.cons (.op .sub (.cons (.op .len (.cons (.var 21) .nil)) (.cons (.var 23) .nil))) .nil))) (.cons (.op .slice (.cons (.var 22) (.cons (.var 23) (.cons (.const .none) .nil)))) .nil))) .nil))) ρ = some [.val (.str (joinL [47] (relL n2 n1)))] := by
  refine V_op2 rfl (V_op2 (V_op2 (zj0 (d := .str [46,46]) rfl rfl) (V_op2 (V_op1 (V_v e1 g1) zeD) (V_v e3 g3) (o_subn hc1)) (zlf (Nat.le_trans (Nat.sub_le _ _) (Nat.le_trans l1 (by decide))))) (V_op3 (V_v e2 g2) (V_v e3 g3) rfl (ziU (Nat.le_trans hc3 (by decide)) (by rw [List.length_map, ← hl]; exact hc1))) (zfC (Nat.le_trans (by rw [← List.length_append,er,List.length_map]; exact ll) (by decide)))) ?_
  show opF .join [.str [47],.list (List.replicate (n1.length - c) (D.str [46,46]) ++ (n2.map D.str).drop c)] = _
  rw [er]
  exact zdI jl
 rw [zjJ,zeI,j]
 unfold relT
 by_cases h : relL n2 n1 = []
 ·rw [h,if_pos rfl]; rfl
 ·rw [if_neg h]
  obtain ⟨z,t,e⟩ := List.exists_cons_of_ne_nil (zhn h fun w hw' => (hw w hw').2)
  rw [e]; rfl
end
noncomputable def elB : S := (.seq (.assign 19 (.op .add (.cons (.var 5) (.cons (.op .join (.cons (.const (.str [47])) (.cons (.var 9) .nil))) .nil)))) (.seq (.ite e1X (.seq (.ret (.const (.bool false))) .skip) .skip) (.seq (.ite e2X (.seq (.ret (.const (.bool false))) .skip) .skip) (.seq (.forE 16 (.seqI (.op .slice (.cons (.var 8) (.cons (.const .none) (.cons (.const (.int 12)) .nil))))) pbB) (.seq (.assign 21 (.op .split (.cons (.op .slice (.cons (.op .index (.cons (.var 8) (.cons (.const (.int 0)) .nil))) (.cons (.op .len (.cons (.var 5) .nil)) (.cons (.const .none) .nil)))) (.cons (.const (.str [47])) .nil)))) (.seq (.assign 22 (.op .split (.cons (.op .slice (.cons (.op .index (.cons (.var 8) (.cons (.op .neg (.cons (.const (.int 1)) .nil)) .nil))) (.cons (.op .len (.cons (.var 5) .nil)) (.cons (.const .none) .nil)))) (.cons (.const (.str [47])) .nil)))) (.seq (.assign 23 (.const (.int 0))) (.seq (.while whC whB) (.seq (.assign 24 (.or (.op .join (.cons (.const (.str [47])) (.cons (.op .add (.cons (.op .mul (.cons (.list (.cons (.const (.str [46,46])) .nil)) (.cons (.op .sub (.cons (.op .len (.cons (.var 21) .nil)) (.cons (.var 23) .nil))) .nil))) (.cons (.op .slice (.cons (.var 22) (.cons (.var 23) (.cons (.const .none) .nil)))) .nil))) .nil))) (.const (.str [46])))) (.seq (.ite (.op .ne (.cons (.call 11 (.cons (.op .add (.cons (.const (.str [47])) (.cons (.op .join (.cons (.const (.str [47])) (.cons (.var 22) .nil))) .nil))) (.cons (.op .add (.cons (.const (.str [47])) (.cons (.op .join (.cons (.const (.str [47])) (.cons (.var 21) .nil))) .nil))) .nil))) (.cons (.var 24) .nil))) (.seq (.ret (.const (.bool false))) .skip) .skip) .skip))))))))))
noncomputable def zeB : S := (.seq (.assign 18 (.const (.bool true))) (.seq (tryE 8 18) (.seq (.ite (.var 18) (.seq (.ret (.const (.bool false))) .skip) .skip) .skip)))
noncomputable def tuB : S := (.seq (.assign 4 (.op .add (.cons (.op .abs (.cons (.op .sum (.cons (.op .slice3 (.cons (.var 0) (.cons (.var 3) (.cons (.const .none) (.cons (.const (.int 3)) .nil))))) .nil)) .nil)) (.cons (.op .index (.cons (.tup (.cons (.const (.int 89)) (.cons (.const (.int 98)) (.cons (.const (.int 3102)) .nil)))) (.cons (.var 3) .nil))) .nil)))) (.seq (.assign 5 (.ite (.op .eq (.cons (.op .mod (.cons (.var 4) (.cons (.const (.int 2)) .nil))) (.cons (.const (.int 1)) .nil))) (.const (.str [47])) (.const (.str [])))) (.seq (.assign 4 (.op .fdiv (.cons (.var 4) (.cons (.const (.int 2)) .nil)))) (.seq (.assignO 6 (.list .nil)) (.seq (.forE 7 (.rangeI (.cons (.op .add (.cons (.const (.int 1)) (.cons (.op .mod (.cons (.var 4) (.cons (.const (.int 3)) .nil))) .nil))) .nil)) pcB) (.seq (.assign 8 (.list (.cons (.const (.str [])) .nil))) (.seq (.assign 9 (.list .nil)) (.seq (.assign 10 (.const (.bool false))) (.seq (.assign 11 (.const (.int 1))) (.seq (.forE2 12 13 (.seqI (.op .slice3 (.cons (.var 6) (.cons (.const .none) (.cons (.const .none) (.cons (.op .neg (.cons (.const (.int 1)) .nil)) .nil)))))) exB) (.seq (.seq (.fz 6) (.forE2 12 13 (.seqI (.var 6)) mnB)) (.seq (.ite (.op .ne (.cons (.op .len (.cons (.var 8) .nil)) (.cons (.var 11) .nil))) (.seq (.ret (.const (.bool false))) .skip) .skip) (.seq (.assign 8 (.comp 29 (.seqI (.var 8)) (.const (.bool true)) (.op .add (.cons (.var 5) (.cons (.var 29) .nil))))) (.seq (.ite (.op .eq (.cons (.var 11) (.cons (.const (.int 0)) .nil))) zeB elB) .skip))))))))))))))
theorem add9 : pths.map (fun x => opF .add [.str (rt x.1),.str (pt x.2)]) = pths.map (fun x => some (R.val (.str (px x)))) := by kernel_rfl
section
variable {cf : CfT} {f : Nat → Slot} {ns : List Int}
theorem el_ok (C : CF09 cf) {r : Bool} {N : List Nm} {a : Nm} (h0 : N ≠ []) (hl : N.length ≤ 64) (hN : ∀ n ∈ N,n ∈ E9) (hs : ∀ n ∈ N, ∀ n' ∈ N,n.length = n'.length) (ha : IsCp N a) (I : PB ns r N f) (g9 : f 9 = .val (.list (a.map .str))) :
  ∃ f',ex cf elB (LL f) = some (LL f',.next) ∧ B9 ns f' := by
 obtain ⟨n1,N1,e1⟩ := List.exists_cons_of_ne_nil h0
 obtain ⟨N2,n2,e2⟩ : ∃ N2 n2,N = N2 ++ [n2] := ⟨_,_,(List.dropLast_concat_getLast h0).symm⟩
 have m1 : n1 ∈ N := by rw [e1]; exact List.mem_cons_self
 have m2 : n2 ∈ N := by rw [e2]; exact List.mem_append_right _ List.mem_cons_self
 have ha1 : a <+: n1 := ha.pre n1 m1
 have la : (pt a).length ≤ 9 := by
  refine Nat.le_trans (zbk _ 2 fun w hw => (show ∀ w ∈ wd4,w.length ≤ 2 by decide) w (word9 n1 (hN n1 m1) w (ha1.subset hw))) ?_
  exact Nat.mul_le_mul_left 3 (Nat.le_trans ha1.length_le (len9 n1 (hN n1 m1)).1)
 let f1 := upd f 19 (.val (.str (px (r,a))))
 have a19 : ev1 cf (.op .add (.cons (.var 5) (.cons (.op .join (.cons (.const (.str [47])) (.cons (.var 9) .nil))) .nil))) (LL f) = some (.str (px (r,a))) :=
  E_of (V_op2 (V_v rfl I.g5) (V_op2 rfl (V_v rfl g9) (o_jn (Nat.le_trans la (by decide)))) (zbC (Nat.le_trans (Nat.add_le_add (show (rt r).length ≤ 1 by cases r <;> decide) la) (by decide)))) rfl
 have E1 : EL ns r N a f1 := ⟨I.B.upd fun _ => rfl,I.g5,I.g8,rfl⟩
 have c1 := chk1 C h0 hN ha E1
 have c2 := chk2 C e1 e2 hl hN ha E1
 obtain ⟨f2,lp,I2⟩ := pb_loop (f := f1) C hN ⟨E1.B,E1.g5,E1.g8⟩
 have it : evI cf (.seqI (.op .slice (.cons (.var 8) (.cons (.const .none) (.cons (.const (.int 12)) .nil))))) (LL f1) = some ((pr r N).take 12) := I_of (zbz (V_op3 (V_v rfl E1.g8) rfl rfl (ziT (n := 12) (by decide))) rfl rfl)
 let f3 := upd f2 21 (.val (nD n1))
 let f4 := upd f3 22 (.val (nD n2))
 let f5 := upd f4 23 (.val (nI 0))
 have a21 := zjL (cf := cf) (r := r) (hN n1 m1) (x := .op .index (.cons (.var 8) (.cons (.const (.int 0)) .nil))) (ρ := LL f2) (V_op2 (V_v rfl I2.g8) rfl (by rw [e1]; exact o_pr0)) rfl I2.g5
 have a22 := zjL (cf := cf) (r := r) (hN n2 m2) (x := .op .index (.cons (.var 8) (.cons (.op .neg (.cons (.const (.int 1)) .nil)) .nil))) (ρ := LL f3) (V_op2 (V_v rfl (show f3 8 = _ from I2.g8)) rfl (by rw [e2]; exact o_prl)) rfl (show f3 5 = _ from I2.g5)
 have l12 := hs n1 m1 n2 m2
 have l3 := (len9 n1 (hN n1 m1)).1
 obtain ⟨f6,wl,W⟩ := ziq (cf := cf) (ns := ns) (n1 := n1) (n2 := n2) n1 n2 [] 100000 (f := f5) rfl rfl l12 (Nat.lt_of_le_of_lt l3 (by decide)) (Nat.le_trans l3 (by decide)) ⟨((I2.B.upd fun _ => rfl).upd fun _ => rfl).upd fun _ => rfl,rfl,rfl,rfl⟩
 let f7 := upd f6 24 (.val (.str (relT n2 n1)))
 have a24 := due_ev (cf := cf) (ρ := LL f6) rfl W.g21 rfl W.g22 rfl W.g23 (hN n1 m1) (hN n2 m2) l12 (Nat.zero_add _)
 have tl : ∀ {i : Nat} {n : Nm} {ρ : List Slot} {s : Slot},n ∈ E9 → ρ[i]? = some s → s = .val (nD n) → ev cf (.op .add (.cons (.const (.str [47])) (.cons (.op .join (.cons (.const (.str [47])) (.cons (.var i) .nil))) .nil))) ρ = some [.val (.str (told n))] := fun {i n ρ s} hn e g =>
  V_op2 rfl (V_op2 rfl (V_v e g) (o_jn (ziM hn))) (zbC (Nat.le_trans (Nat.add_le_add_left (ziM hn) 1) (by decide)))
 have c3 : evT cf (.op .ne (.cons (.call 11 (.cons (.op .add (.cons (.const (.str [47])) (.cons (.op .join (.cons (.const (.str [47])) (.cons (.var 22) .nil))) .nil))) (.cons (.op .add (.cons (.const (.str [47])) (.cons (.op .join (.cons (.const (.str [47])) (.cons (.var 21) .nil))) .nil))) .nil))) (.cons (.var 24) .nil))) (LL f7) = some false :=
  T_of (V_op2 (zaW (zap (tl (hN n2 m2) rfl (show f7 22 = _ from W.g22)) (zap (tl (hN n1 m1) rfl (show f7 21 = _ from W.g21)) rfl)) rfl (C.rel (hN n2 m2) (hN n1 m1))) (V_v rfl rfl) zdO)
 refine ⟨f7, ?_,W.B.upd fun _ => rfl⟩
 unfold e1X at c1
 unfold e2X at c2
 unfold pbB at lp
 unfold whC whB at wl
 unfold elB
 exact R_seq (zaj (ρ' := LL f1) a19 rfl) (zai (R_seq (R_ite c1 (R_ff zaz)) (zai (R_seq (R_ite c2 (R_ff zaz)) (zai (R_seq (R_for it lp) (zai (R_seq (zaj (ρ' := LL f3) a21 rfl) (zai (R_seq (zaj (ρ' := LL f4) a22 rfl) (zai (R_seq (zaj (ρ' := LL f5) rfl rfl) (zai (R_seq (R_while wl) (zai (R_seq (zaj (ρ' := LL f7) a24 rfl) (zai (R_seq (R_ite c3 (R_ff zaz)) (zai zaz)))))))))))))))))))
theorem ze_ok (B : B9 ns f) (g8 : f 8 = .val (.list [])) : ∃ f',ex cf zeB (LL f) = some (LL f',.next) ∧ B9 ns f' := by
 let f1 := upd f 18 (.val (.bool true))
 let f2 := upd f1 18 (.val (.bool false))
 have t : ex cf (tryE 8 18) (LL f1) = some (LL f2,.next) := tryE_ok (congrArg some (show f1 8 = _ from g8))
 refine ⟨f2, ?_,(B.upd fun _ => rfl).upd fun _ => rfl⟩
 unfold zeB
 exact R_seq (zaj (ρ' := LL f1) rfl rfl) (zai (R_seq t (zai (R_seq (R_ite (t := false) (T_of (V_v rfl rfl)) (R_ff zaz)) (zai zaz)))))
noncomputable def S09 (ns : List Int) (k : Nat) : Nat := (pick ns (some (k : Int)) none (some 3)).sum.natAbs
theorem tu_turn (C : CF09 cf) {k : Nat} (hk : k < 3) (B : B9 ns f) : ∃ f',ex cf tuB (LL (upd f 3 (.val (nI k)))) = some (LL f',.next) ∧ B9 ns f' := by
 let v : Nat := S09 ns k + ([89,98,3102] : List Nat).getD k 0
 let r : Bool := decide (v % 2 = 1)
 have hk6 : k ≤ 1000000 := Nat.le_trans (Nat.le_of_lt hk) (by decide)
 have i2 := tupn_at (l := [89,98,3102]) (k := k) hk hk6
 let f0 := upd f 3 (.val (nI k))
 let f1 := upd f0 4 (.val (nI v))
 let f2 := upd f1 5 (.val (.str (rt r)))
 let f3 := upd f2 4 (.val (nI (v / 2)))
 let f4 := upd f3 6 (.own [])
 have a4 : ev1 cf (.op .add (.cons (.op .abs (.cons (.op .sum (.cons (.op .slice3 (.cons (.var 0) (.cons (.var 3) (.cons (.const .none) (.cons (.const (.int 3)) .nil))))) .nil)) .nil)) (.cons (.op .index (.cons (.tup (.cons (.const (.int 89)) (.cons (.const (.int 98)) (.cons (.const (.int 3102)) .nil)))) (.cons (.var 3) .nil))) .nil))) (LL f0) = some (nI v) :=
  E_of (V_op2 (V_op1 (V_op1 (V_op (zap (V_v rfl (show f0 0 = _ from B.g0)) (zap (V_v rfl rfl) (zap rfl (zap rfl rfl)))) (zkr (ns := ns) (k := k) (n := 3) hk6 (by decide) (by decide))) o_sumi) o_absi) (V_op2 (a := .val (.tup (([89,98,3102] : List Nat).map fun (n : Nat) => .int (n : Int)))) rfl (V_v rfl rfl) i2) (ziV (a := S09 ns k))) rfl
 have a5 : ev1 cf (.ite (.op .eq (.cons (.op .mod (.cons (.var 4) (.cons (.const (.int 2)) .nil))) (.cons (.const (.int 1)) .nil))) (.const (.str [47])) (.const (.str []))) (LL f1) = some (.str (rt r)) := by
  have e : ev cf (.op .eq (.cons (.op .mod (.cons (.var 4) (.cons (.const (.int 2)) .nil))) (.cons (.const (.int 1)) .nil))) (LL f1) = some [.val (.bool r)] := V_op2 (V_op2 (V_v rfl rfl) rfl (o_mod (k := 2) (by decide))) rfl (o_eqi.trans (by
   show some (R.val (.bool (decide (((v % 2 : Nat) : Int) = ((1 : Nat) : Int))))) = some (R.val (.bool (decide (v % 2 = 1))))
   rw [decide_eq_decide.mpr Int.natCast_inj]))
  cases h : r
  ·rw [h] at e; exact E_of (zfp e (a := .val (.str [])) rfl) rfl
  ·rw [h] at e; exact E_of (zfo e (a := .val (.str [47])) rfl) rfl
 have a4' : ev1 cf (.op .fdiv (.cons (.var 4) (.cons (.const (.int 2)) .nil))) (LL f2) = some (nI (v / 2)) := E_of (V_op2 (V_v rfl rfl) rfl (o_div (k := 2) (by decide))) rfl
 have B3 : B9 ns f3 := (((B.upd fun _ => rfl).upd fun _ => rfl).upd fun _ => rfl).upd fun _ => rfl
 have hv : 1 + v / 2 % 3 ≤ 3 := Nat.add_le_add_left (Nat.le_of_lt_succ (Nat.mod_lt _ (show 0 < 3 by decide))) 1
 have itp : evI cf (.rangeI (.cons (.op .add (.cons (.const (.int 1)) (.cons (.op .mod (.cons (.var 4) (.cons (.const (.int 3)) .nil))) .nil))) .nil)) (LL f4) = some ((List.range' 0 (1 + v / 2 % 3)).map nI) :=
  I_of (zhH (zap (V_op2 rfl (V_op2 (V_v rfl rfl) rfl (o_mod (k := 3) (by decide))) (ziV (a := 1))) rfl) (zdD (Nat.le_trans hv (by decide))))
 obtain ⟨f5,e5,B5,g5,_,P,g6,hP,hPl⟩ := pc_loop (cf := cf) (f := f4) (ns := ns) (r := r) C hv ⟨B3.upd fun _ => rfl,rfl,⟨_,rfl⟩,[],rfl,(fun _ h => nomatch h),rfl⟩
 have hP3 : P.length ≤ 3 := hPl ▸ hv
 have hP0 : P ≠ [] := fun e => by rw [e] at hPl; exact absurd hPl (by rw [Nat.add_comm]; exact nofun)
 let f6 := upd f5 8 (.val (.list [.str []]))
 let f7 := upd f6 9 (.val (.list []))
 let f8 := upd f7 10 (.val (.bool false))
 let f9 := upd f8 11 (.val (nI 1))
 have X9 : EX ns r P [] [] false 1 f9 := ⟨(((B5.upd fun _ => rfl).upd fun _ => rfl).upd fun _ => rfl).upd fun _ => rfl,g5,g6,rfl,rfl,rfl,rfl⟩
 obtain ⟨f10,e10,X10⟩ := zjG C (Q := P.reverse) (fun k hk => hP k (List.mem_reverse.mp hk)) (by rw [List.length_reverse]; exact hP3) X9
 rw [List.reverse_reverse,List.append_nil] at X10
 have itx : evI cf (.seqI (.op .slice3 (.cons (.var 6) (.cons (.const .none) (.cons (.const .none) (.cons (.op .neg (.cons (.const (.int 1)) .nil)) .nil)))))) (LL f9) = some (P.reverse.map pcD) := by
  rw [List.map_reverse]
  exact I_of (zbz (V_op (zap (V_o rfl (show f9 6 = _ from g6) rfl) (zap rfl (zap rfl (zap rfl rfl)))) zle) rfl rfl)
 let f11 := upd f10 6 (.val (.list (P.map pcD)))
 obtain ⟨f12,b12,e12,M12⟩ := zi8 C (Q := P) (a := []) (b := false) (c := 1) (f := f11) (r := r) (P := P) (ns := ns) hP (Nat.le_trans (Nat.add_le_add_left (Nat.mul_le_mul_left 4 hP3) 0) (by decide)) ⟨X10.B.upd fun _ => rfl,X10.g5,X10.g8,X10.g9,X10.g10,X10.g11⟩
 rw [Nat.one_mul] at M12
 have M9 : f12 9 = .val (.list ((al P).map .str)) := M12.g9
 have itm : evI cf (.seqI (.var 6)) (LL f11) = some (P.map pcD) := I_of (zbz (V_v rfl rfl) rfl rfl)
 have cl : evT cf (.op .ne (.cons (.op .len (.cons (.var 8) .nil)) (.cons (.var 11) .nil))) (LL f12) = some false := by
  refine T_of (V_op2 (V_op1 (V_v rfl M12.g8) zeD) (V_v rfl M12.g11) ?_)
  rw [zeA]
  show some (R.val (.bool (!decide ((cnt P : Int) = (cnt P : Int))))) = _
  rw [decide_eq_true rfl]; rfl
 let f13 := upd f12 8 (.val (.list (pr r (PX P))))
 have hN : ∀ n ∈ PX P,n ∈ E9 := fun n hn => px_e9 hP0 hP3 hn
 have a8 : ev1 cf (.comp 29 (.seqI (.var 8)) (.const (.bool true)) (.op .add (.cons (.var 5) (.cons (.var 29) .nil)))) (LL f12) = some (.list (pr r (PX P))) :=
  E_of (zgX (g := fun n => .str (pt n)) (v := fun n => .str (px (r,n))) (zbz (V_v rfl M12.g8) rfl rfl) fun n hn => ⟨_,V_op2 (V_v rfl M12.g5) rfl (zbr add9 (za3 (r := r) (hN n hn))),rfl⟩) rfl
 have fin : ∃ f',ex cf (.ite (.op .eq (.cons (.var 11) (.cons (.const (.int 0)) .nil))) zeB elB) (LL f13) = some (LL f',.next) ∧ B9 ns f' := by
  have B13 : B9 ns f13 := M12.B.upd fun _ => rfl
  have c : evT cf (.op .eq (.cons (.var 11) (.cons (.const (.int 0)) .nil))) (LL f13) = some (decide (cnt P = 0)) := T_of (V_op2 (V_v rfl (show f13 11 = _ from M12.g11)) rfl (o_eqi.trans (by
   show some (R.val (.bool (decide ((cnt P : Int) = ((0 : Nat) : Int))))) = _
   rw [decide_eq_decide.mpr Int.natCast_inj])))
  by_cases h : cnt P = 0
  ·rw [decide_eq_true h] at c
   have e : PX P = [] := List.length_eq_zero_iff.mp (by rw [zeA,h])
   obtain ⟨f',e',B'⟩ := ze_ok (cf := cf) B13 (show f13 8 = _ by show Slot.val (.list (pr r (PX P))) = _; rw [e]; rfl)
   exact ⟨f',R_ite c (R_tt e'),B'⟩
  ·rw [decide_eq_false h] at c
   obtain ⟨f',e',B'⟩ := el_ok C (zla h) (by rw [zeA]; exact Nat.le_trans (zjP P) (Nat.le_trans (Nat.pow_le_pow_right (by decide) hP3) (by decide))) hN (fun n hn n' hn' => (zfB hn).1.trans (zfB hn').1.symm) (al_cp h) ⟨B13,M12.g5,rfl⟩ (show f13 9 = _ from M9)
   exact ⟨f',R_ite c (R_ff e'),B'⟩
 obtain ⟨f14,e14,B14⟩ := fin
 have fz : ex cf (.fz 6) (LL f10) = some (LL f11,.next) := R_fz (ow rfl X10.g6) rfl
 refine ⟨f14, ?_,B14⟩
 unfold pcB at e5
 unfold exB at e10
 unfold mnB at e12
 unfold tuB
 exact R_seq (zaj (ρ' := LL f1) a4 rfl) (zai (R_seq (zaj (ρ' := LL f2) a5 rfl) (zai (R_seq (zaj (ρ' := LL f3) a4' rfl) (zai (R_seq (zgb (ρ' := LL f4) (no_app B3.na) (l := []) rfl rfl) (zai (R_seq (R_for itp e5) (zai (R_seq (zaj (ρ' := LL f6) rfl rfl) (zai (R_seq (zaj (ρ' := LL f7) rfl rfl) (zai (R_seq (zaj (ρ' := LL f8) rfl rfl) (zai (R_seq (zaj (ρ' := LL f9) rfl rfl) (zai (R_seq (zga itx e10) (zai (R_seq (R_seq fz (zai (zga itm e12))) (zai (R_seq (R_ite cl (R_ff zaz)) (zai (R_seq (zaj (ρ' := LL f13) a8 rfl) (zai (R_seq e14 (zai zaz)))))))))))))))))))))))))))
end
theorem cf09 : CF09 (callF fns09 40) where
 dress l := zkW 39 l
 trans hk := trans9 38 hk
 takes hk hw := takes9 38 hk hw
 means hk hw := means9 35 hk hw
 join hw hn := zbr (zbr (join9 38) hw) hn
 root r n hn := zbr (root9 38) (za3 (r := r) hn)
 norm r n hn := zbr (norm9 37) (za3 (r := r) hn)
 split r n hn := zbr (split9 38) (za3 (r := r) hn)
 cp h0 hP := zeo (fns := fns09) rfl rfl 38 h0 hP rfl
 rel ha hb := zhW (fns := fns09) rfl rfl rfl rfl rfl rfl 35 (fun w hw => zhD w (word9 _ ha w hw)) (fun w hw => zhD w (word9 _ hb w hw)) (nl9 ha) (nl9 hb) (wl9 ha) (wl9 hb)
theorem zh4 (ns : List Int) : ∃ ρ',ex (callF fns09 40) s_law [.val (.list (ns.map .int)),.val (.tok 0),.unset,.unset,.unset,.unset,.unset,.unset,.unset,.unset,.unset,.unset,.unset,.unset,.unset,.unset,.unset,.unset,.unset,.unset,.unset,.unset,.unset,.unset,.unset,.unset,.unset,.unset,.unset,.unset] = some (ρ',.ret (.bool true)) := by
 have C := cf09
 generalize callF fns09 40 = cf at C
 let f0 : Nat → Slot := fun k => if k = 0 then .val (.list (ns.map .int)) else if k = 1 then .val (.tok 0) else .unset
 have n0 : NA f0 := fun i k => by
  show appOK k (if i = 0 then _ else if i = 1 then _ else _) = true
  split
  ·rfl
  ·split <;> rfl
 let f1 := upd f0 2 (.val (.list (wd4.map .str)))
 obtain ⟨_,e,f2,rfl,_⟩ := zfP (cf := cf) (i := 3) (b := tuB) (I := fun _ ρ => ∃ f : Nat → Slot,ρ = LL f ∧ B9 ns f) (a := 0) (m := 3) (ρ := LL f1) ⟨f1,rfl,rfl,rfl,rfl,n0.upd fun _ => rfl⟩ fun k ρ _ hk J => by
  obtain ⟨f,rfl,B⟩ := J
  rw [Nat.zero_add] at hk
  obtain ⟨f',e,B'⟩ := tu_turn C hk B
  exact ⟨LL f',.next,e,.inl rfl,f',rfl,B'⟩
 show ∃ ρ',ex cf s_law (LL f0) = _
 unfold tuB at e
 unfold s_law
 exact ⟨LL f2,R_seq (zaj (ρ' := LL f1) rfl rfl) (zai (R_seq (R_for (I_of (zhH (zap rfl rfl) (zdD (n := 3) (by decide)))) e) (zai (R_seq (R_ret rfl) zaB))))⟩
end Mine
end
open PySem PySem.Calls PyProof.Rows PySem.Builtin.Str PySem.W PySem.W.X PySem.W.ZRun
namespace Mine
noncomputable abbrev fa09 : Nat → Addr := fun i => ([197,204,111,132,139,146,0,153,0,160,167,175,118,180,211,216,221,228,0,0,0,0,0,0,0,0,0,0,0,0,0,0,0,0,0,233] : List Addr).getD i 0
theorem zdQ {β : Type} {x : Nat} {b : β} : ∀ {l : List (Nat × β)},l.lookup x = some b → (x,b) ∈ l
 | [],e => by cases e
 | (y,c) :: r,e => by
  rw [List.lookup_cons] at e
  cases hx : x == y with
  | true =>
   rw [hx] at e
   cases e
   rw [beq_iff_eq.mp hx]
   exact List.mem_cons_self
  | false =>
   rw [hx] at e
   exact List.mem_cons_of_mem _ (zdQ e)
noncomputable def rho09 (ns : List Int) : List Slot := [.val (.list (ns.map .int))] ++ List.replicate 29 .unset
noncomputable abbrev cq09 (w : World) (h : Heap) (mg mb : SV) (T : NAd) : XCx := mkCx PySem.Challenge.rw_dn0069_09.row.prog w h 203 199 qs09 mg mb fa09 T
theorem zdf : fn_law_dressed.body = s_law_dressed := by delta fn_law_dressed; exact Eq.refl _
theorem zgs (ns : List Int) : PlainRho (rho09 ns) := by
 intro j
 match j with
 | 0 => exact .inr ⟨ns,rfl⟩
 | j + 1 =>
  left
  unfold slotAt rho09
  rw [List.getD_eq_getElem?_getD,List.singleton_append,List.getElem?_cons_succ,List.getElem?_replicate]
  split <;> rfl
theorem zh3 (ns : List Int) : ∃ ρ',ex (callF fns09 40) s_law ((rho09 ns).set 1 (.val (.tok 0))) = some (ρ',.ret (.bool true)) :=
 zh4 ns
end Mine
set_option maxHeartbeats 0 in
theorem PySem.Challenge.cw_dn0069_09_holds : PySem.Challenge.rw_dn0069_09.Holds := by
 w_on; refine holds_law Mine.said09 fun said => ?_
 refine holds_openX (q := Mine.view09) (loose := [PySem.Str.ofString "relpath",PySem.Str.ofString "_twin_re_1",PySem.Str.ofString "_special_chars_map"]) (Xt := fun s => xlAt Mine.view09 [] s && recOk (RowW.records PySem.Challenge.rw_dn0069_09.row.toRowW) s) (XP := XL Mine.view09 []) (Yf := obsZ Mine.zas) (Ya := valZ Mine.zk 234 753) (N := 5308) ?hl (fun s e => xl_of s (Bool.and_eq_true_iff.mp e).1) XL.keeps (by rfl) (by rfl) (by rfl) (fun s e => recFacts_of (Bool.and_eq_true_iff.mp e).2) (by rfl) (by first | assumption | decide +kernel) (by decide +kernel) ⟨rfl,rfl,rfl,rfl,rfl,by decide +kernel⟩ ?hw ?hc
 case hl => exact Mine.hleft
 case hw => w_witness2
 k_fill
 intro w s₀ s₁ mg mb G y fa o pm cd doc dV kV ho hd hcd hD hmg hg args vals as hL0 hpre hlay hrd hwl hlo
 have Zf := z_facts Mine.zkeys y
 have KX := InK.keeps w s₀.heap s₁.heap Zf.2.1 hL0.keeps
 have ZN := Zf.2.2.1
 refine Ground.open G ?_
 intro T0 B D TE TW
 wrow_args hpre hlay hrd hwl hlo
 obtain ⟨hat,hsz⟩ := script_at hL0
 rw [ZN] at hat hsz
 subst hat
 have hfa := Value.ref.inj (Option.some.inj (hmg.symm.trans (mg_of (v := .ref 233) KX T0.g rfl)))
 subst hfa
 refine enter_call ?_
 have hT : TabsAt [(203,199)] s₁.heap := List.forall_mem_cons.mpr ⟨⟨codeHd_of_K KX (by kernel_rfl),KX 199 _ rfl⟩,fun _ h => nomatch h⟩
 have X := Mine.zfN (c := 203) (P := 199) KX
 rename IntsAre _ _ => hI
 rename Heap.IsList _ _ _ => hIL
 rename List Int => ns
 have hlen := hI.length
 have hobj := script_obj hL0 hIL
 have hcx : ∀ T,Mine.Inj T → Mine.CxOk (Mine.cq09 w s₁.heap mg mb T) := fun T1 h1 => Mine.cxOk_of hT X T0 (by decide +kernel) rfl (by rfl) h1
 have hN : ∀ T,Mine.GN (Mine.cq09 w s₁.heap mg mb T) Mine.fs09 Mine.bs09 := fun T => Mine.gn_of (List.forall_mem_cons.mpr ⟨mg_of KX T0.g rfl,List.forall_mem_cons.mpr ⟨mg_of KX T0.g rfl,List.forall_mem_cons.mpr ⟨mg_of KX T0.g rfl,List.forall_mem_cons.mpr ⟨mg_of KX T0.g rfl,List.forall_mem_cons.mpr ⟨mg_of KX T0.g rfl,List.forall_mem_cons.mpr ⟨mg_of KX T0.g rfl,List.forall_mem_cons.mpr ⟨mg_of KX T0.g rfl,List.forall_mem_cons.mpr ⟨mg_of KX T0.g rfl,List.forall_mem_cons.mpr ⟨mg_of KX T0.g rfl,List.forall_mem_cons.mpr ⟨mg_of KX T0.g rfl,List.forall_mem_cons.mpr ⟨mg_of KX T0.g rfl,List.forall_mem_cons.mpr ⟨mg_of KX T0.g rfl,List.forall_mem_cons.mpr ⟨mg_of KX T0.g rfl,List.forall_mem_cons.mpr ⟨mg_of KX T0.g rfl,List.forall_mem_cons.mpr ⟨mg_of KX T0.g rfl,List.forall_mem_cons.mpr ⟨mg_of KX T0.g rfl,List.forall_mem_cons.mpr ⟨mg_of KX T0.g rfl,fun _ h => nomatch h⟩⟩⟩⟩⟩⟩⟩⟩⟩⟩⟩⟩⟩⟩⟩⟩⟩) (List.forall_mem_cons.mpr ⟨mg_none_of KX T0.g rfl,List.forall_mem_cons.mpr ⟨mg_none_of KX T0.g rfl,List.forall_mem_cons.mpr ⟨mg_none_of KX T0.g rfl,List.forall_mem_cons.mpr ⟨mg_none_of KX T0.g rfl,List.forall_mem_cons.mpr ⟨mg_none_of KX T0.g rfl,List.forall_mem_cons.mpr ⟨mg_none_of KX T0.g rfl,List.forall_mem_cons.mpr ⟨mg_none_of KX T0.g rfl,List.forall_mem_cons.mpr ⟨mg_none_of KX T0.g rfl,List.forall_mem_cons.mpr ⟨mg_none_of KX T0.g rfl,List.forall_mem_cons.mpr ⟨mg_none_of KX T0.g rfl,List.forall_mem_cons.mpr ⟨mg_none_of KX T0.g rfl,List.forall_mem_cons.mpr ⟨mg_none_of KX T0.g rfl,List.forall_mem_cons.mpr ⟨mg_none_of KX T0.g rfl,List.forall_mem_cons.mpr ⟨mg_none_of KX T0.g rfl,List.forall_mem_cons.mpr ⟨mg_none_of KX T0.g rfl,List.forall_mem_cons.mpr ⟨mg_none_of KX T0.g rfl,List.forall_mem_cons.mpr ⟨mg_none_of KX T0.g rfl,fun _ h => nomatch h⟩⟩⟩⟩⟩⟩⟩⟩⟩⟩⟩⟩⟩⟩⟩⟩⟩)
 have hsp : mg (PySem.Str.ofString "_special_chars_map") = some (.ref 187) := mg_of KX T0.g rfl
 have htw : mg (PySem.Str.ofString "_twin_re_1") = some (.ref 185) := mg_of KX T0.g rfl
 have hTG : ∀ T, ∃ TG : Mine.TabG (Mine.cq09 w s₁.heap mg mb T),TG.d = 187 := fun T => Mine.tabG_of X (Nat.ne_of_beq_eq_false rfl) rfl rfl (by decide +kernel) (by decide +kernel)
 have hPG : ∀ T, ∃ PG : Mine.PatG (Mine.cq09 w s₁.heap mg mb T),PG.P = 185 := fun T => ⟨{ P := 185,C := 184,codes := _,nP := (Nat.ne_of_beq_eq_false rfl),nC := (Nat.ne_of_beq_eq_false rfl),at0 := ⟨⟨_,_,_,_,_,0,X 185 _ rfl,rfl⟩,⟨_,X 184 _ rfl⟩,by decide +kernel⟩ },rfl⟩
 have hfn : ∀ T, ∀ i fn,Mine.fns09 i = some fn → ∃ ε fd body ps,Mine.FnIs (Mine.cq09 w s₁.heap mg mb T) ε i fn fd body ps ∧ Mine.SoundSs (Mine.cq09 w s₁.heap mg mb T) ε body fn.body := by
  intro T
  obtain ⟨TG,hTGd⟩ := hTG T
  obtain ⟨PG,hPGP⟩ := hPG T
  have hdr : Mine.SoundSs (Mine.cq09 w s₁.heap mg mb T) Mine.sc_law_dressed (Mine.nthBody PySem.Challenge.pw_dn0069_09 33) Mine.fn_law_dressed.body := by
   rw [Mine.zdf]; exact @Mine.zdC _ (hN T)
  have it10 : ∃ ε fd body ps,Mine.FnIs (Mine.cq09 w s₁.heap mg mb T) ε 17 Mine.fn_law_dressed fd body ps ∧ Mine.SoundSs (Mine.cq09 w s₁.heap mg mb T) ε body Mine.fn_law_dressed.body := by
   refine ⟨_,_,_,_,Mine.FnIs.ofK (cx := (Mine.cq09 w s₁.heap mg mb T)) (ε := Mine.sc_law_dressed) (i := 17) (a := 228) (fn := Mine.fn_law_dressed) (body := (Mine.nthBody PySem.Challenge.pw_dn0069_09 33)) (ps := [PySem.Str.ofString "code"]) X rfl (Nat.ne_of_beq_eq_false rfl) rfl (by rfl) (Nat.ne_of_beq_eq_false rfl) (fun c q e => nomatch e) (Mine.zau rfl (Mine.len1 fun _ => rfl)) rfl rfl rfl rfl rfl, ?_⟩
   with_reducible exact hdr
  have all : ∀ p ∈ ([(0,Mine.fn_escape),(1,Mine.fn_translate9),(2,Mine.fn_fspath),(3,Mine.fn_get_sep),(4,Mine.fn_join),(5,Mine.fn_split),(7,Mine.fn_splitroot),(9,Mine.fn_normpath),(10,Mine.fn_abspath),(11,Mine.fn_relpath),(12,Mine.fn_commonprefix),(13,Mine.fn_commonpath),(14,Mine.fn_law_one),(15,Mine.fn_law_takes),(16,Mine.fn_law_means),(17,Mine.fn_law_dressed)] : List (Nat × Mine.Fn)), ∃ ε fd body ps,Mine.FnIs (Mine.cq09 w s₁.heap mg mb T) ε p.1 p.2 fd body ps ∧ Mine.SoundSs (Mine.cq09 w s₁.heap mg mb T) ε body p.2.body :=
   List.forall_mem_cons.mpr ⟨⟨_,_,_,_,Mine.FnIs.ofK (cx := (Mine.cq09 w s₁.heap mg mb T)) (ε := Mine.sc_escape) (i := 0) (a := 197) (fn := Mine.fn_escape) (body := (Mine.nthBody PySem.Challenge.pw_dn0069_09 26)) (ps := [PySem.Str.ofString "pattern"]) X rfl (Nat.ne_of_beq_eq_false rfl) rfl (by rfl) (Nat.ne_of_beq_eq_false rfl) (fun c q e => nomatch e) (Mine.zau rfl (Mine.len1 fun _ => rfl)) rfl rfl rfl rfl rfl,Mine.zhR (hN T) TG (hTGd ▸ hsp)⟩,
   List.forall_mem_cons.mpr ⟨⟨_,_,_,_,Mine.FnIs.ofK (cx := (Mine.cq09 w s₁.heap mg mb T)) (ε := Mine.sc_translate9 203) (i := 1) (a := 204) (fn := Mine.fn_translate9) (body := (Mine.nthBody PySem.Challenge.pw_dn0069_09 28)) (ps := [PySem.Str.ofString "pat",PySem.Str.ofString "STAR",PySem.Str.ofString "QUESTION_MARK"]) X rfl (Nat.ne_of_beq_eq_false rfl) rfl (by rfl) (Nat.ne_of_beq_eq_false rfl) (fun c q e => by cases e; exact ⟨rfl,rfl⟩) (Mine.zau rfl (Mine.len3 fun _ _ _ => rfl)) rfl rfl rfl rfl rfl,Mine.zed (hN T) (Mine.lamG_of hT T0 (List.pairwise_singleton _ _)) PG (hPGP ▸ htw) rfl⟩,
   List.forall_mem_cons.mpr ⟨⟨_,_,_,_,Mine.FnIs.ofK (cx := (Mine.cq09 w s₁.heap mg mb T)) (ε := Mine.sc_fspath) (i := 2) (a := 111) (fn := Mine.fn_fspath) (body := (Mine.nthBody PySem.Challenge.pw_dn0069_09 10)) (ps := [PySem.Str.ofString "path"]) X rfl (Nat.ne_of_beq_eq_false rfl) rfl (by rfl) (Nat.ne_of_beq_eq_false rfl) (fun c q e => nomatch e) (Mine.zau rfl (Mine.len1 fun _ => rfl)) rfl rfl rfl rfl rfl,Mine.zhQ (hN T)⟩,
   List.forall_mem_cons.mpr ⟨⟨_,_,_,_,Mine.FnIs.ofK (cx := (Mine.cq09 w s₁.heap mg mb T)) (ε := Mine.sc_get_sep) (i := 3) (a := 132) (fn := Mine.fn_get_sep) (body := (Mine.nthBody PySem.Challenge.pw_dn0069_09 15)) (ps := [PySem.Str.ofString "path"]) X rfl (Nat.ne_of_beq_eq_false rfl) rfl (by rfl) (Nat.ne_of_beq_eq_false rfl) (fun c q e => nomatch e) (Mine.zau rfl (Mine.len1 fun _ => rfl)) rfl rfl rfl rfl rfl,Mine.zgn (hN T)⟩,
   List.forall_mem_cons.mpr ⟨⟨_,_,_,_,Mine.FnIs.ofK (cx := (Mine.cq09 w s₁.heap mg mb T)) (ε := Mine.sc_join) (i := 4) (a := 139) (fn := Mine.fn_join) (body := (Mine.nthBody PySem.Challenge.pw_dn0069_09 16)) (ps := [PySem.Str.ofString "a",PySem.Str.ofString "p"]) X rfl (Nat.ne_of_beq_eq_false rfl) rfl (by rfl) (Nat.ne_of_beq_eq_false rfl) (fun c q e => nomatch e) (Mine.zjW rfl rfl fun v r => by cases r <;> kernel_rfl) rfl rfl rfl rfl rfl,Mine.zkb (hN T)⟩,
   List.forall_mem_cons.mpr ⟨⟨_,_,_,_,Mine.FnIs.ofK (cx := (Mine.cq09 w s₁.heap mg mb T)) (ε := Mine.sc_split) (i := 5) (a := 146) (fn := Mine.fn_split) (body := (Mine.nthBody PySem.Challenge.pw_dn0069_09 17)) (ps := [PySem.Str.ofString "p"]) X rfl (Nat.ne_of_beq_eq_false rfl) rfl (by rfl) (Nat.ne_of_beq_eq_false rfl) (fun c q e => nomatch e) (Mine.zau rfl (Mine.len1 fun _ => rfl)) rfl rfl rfl rfl rfl,Mine.ziA (hN T)⟩,
   List.forall_mem_cons.mpr ⟨⟨_,_,_,_,Mine.FnIs.ofK (cx := (Mine.cq09 w s₁.heap mg mb T)) (ε := Mine.sc_splitroot) (i := 7) (a := 153) (fn := Mine.fn_splitroot) (body := (Mine.nthBody PySem.Challenge.pw_dn0069_09 18)) (ps := [PySem.Str.ofString "p"]) X rfl (Nat.ne_of_beq_eq_false rfl) rfl (by rfl) (Nat.ne_of_beq_eq_false rfl) (fun c q e => nomatch e) (Mine.zau rfl (Mine.len1 fun _ => rfl)) rfl rfl rfl rfl rfl,Mine.zeV (hN T)⟩,
   List.forall_mem_cons.mpr ⟨⟨_,_,_,_,Mine.FnIs.ofK (cx := (Mine.cq09 w s₁.heap mg mb T)) (ε := Mine.sc_normpath) (i := 9) (a := 160) (fn := Mine.fn_normpath) (body := (Mine.nthBody PySem.Challenge.pw_dn0069_09 19)) (ps := [PySem.Str.ofString "path"]) X rfl (Nat.ne_of_beq_eq_false rfl) rfl (by rfl) (Nat.ne_of_beq_eq_false rfl) (fun c q e => nomatch e) (Mine.zau rfl (Mine.len1 fun _ => rfl)) rfl rfl rfl rfl rfl,Mine.zfz (hN T)⟩,
   List.forall_mem_cons.mpr ⟨⟨_,_,_,_,Mine.FnIs.ofK (cx := (Mine.cq09 w s₁.heap mg mb T)) (ε := Mine.sc_abspath) (i := 10) (a := 167) (fn := Mine.fn_abspath) (body := (Mine.nthBody PySem.Challenge.pw_dn0069_09 20)) (ps := [PySem.Str.ofString "path"]) X rfl (Nat.ne_of_beq_eq_false rfl) rfl (by rfl) (Nat.ne_of_beq_eq_false rfl) (fun c q e => nomatch e) (Mine.zau rfl (Mine.len1 fun _ => rfl)) rfl rfl rfl rfl rfl,Mine.zgo (hN T)⟩,
   List.forall_mem_cons.mpr ⟨⟨_,_,_,_,Mine.FnIs.ofK (cx := (Mine.cq09 w s₁.heap mg mb T)) (ε := Mine.sc_relpath) (i := 11) (a := 175) (fn := Mine.fn_relpath) (body := (Mine.nthBody PySem.Challenge.pw_dn0069_09 21)) (ps := [PySem.Str.ofString "path",PySem.Str.ofString "start"]) X rfl (Nat.ne_of_beq_eq_false rfl) rfl (by rfl) (Nat.ne_of_beq_eq_false rfl) (fun c q e => nomatch e) (Mine.zgR X (Nat.ne_of_beq_eq_false rfl) rfl rfl rfl (Mine.len2 fun _ _ => ⟨_,rfl,rfl⟩)) rfl rfl rfl rfl rfl,Mine.zgl (hN T)⟩,
   List.forall_mem_cons.mpr ⟨⟨_,_,_,_,Mine.FnIs.ofK (cx := (Mine.cq09 w s₁.heap mg mb T)) (ε := Mine.sc_commonprefix) (i := 12) (a := 118) (fn := Mine.fn_commonprefix) (body := (Mine.nthBody PySem.Challenge.pw_dn0069_09 12)) (ps := [PySem.Str.ofString "m"]) X rfl (Nat.ne_of_beq_eq_false rfl) rfl (by rfl) (Nat.ne_of_beq_eq_false rfl) (fun c q e => nomatch e) (Mine.zau rfl (Mine.len1 fun _ => rfl)) rfl rfl rfl rfl rfl,Mine.zda (hN T)⟩,
   List.forall_mem_cons.mpr ⟨⟨_,_,_,_,Mine.FnIs.ofK (cx := (Mine.cq09 w s₁.heap mg mb T)) (ε := Mine.sc_commonpath) (i := 13) (a := 180) (fn := Mine.fn_commonpath) (body := (Mine.nthBody PySem.Challenge.pw_dn0069_09 22)) (ps := [PySem.Str.ofString "paths"]) X rfl (Nat.ne_of_beq_eq_false rfl) rfl (by rfl) (Nat.ne_of_beq_eq_false rfl) (fun c q e => nomatch e) (Mine.zau rfl (Mine.len1 fun _ => rfl)) rfl rfl rfl rfl rfl,Mine.zee (hN T)⟩,
   List.forall_mem_cons.mpr ⟨⟨_,_,_,_,Mine.FnIs.ofK (cx := (Mine.cq09 w s₁.heap mg mb T)) (ε := Mine.sc_law_one) (i := 14) (a := 211) (fn := Mine.fn_law_one) (body := (Mine.nthBody PySem.Challenge.pw_dn0069_09 30)) (ps := [PySem.Str.ofString "part",PySem.Str.ofString "sign"]) X rfl (Nat.ne_of_beq_eq_false rfl) rfl (by rfl) (Nat.ne_of_beq_eq_false rfl) (fun c q e => nomatch e) (Mine.zau rfl (Mine.len2 fun _ _ => rfl)) rfl rfl rfl rfl rfl,Mine.zgm (hN T)⟩,
   List.forall_mem_cons.mpr ⟨⟨_,_,_,_,Mine.FnIs.ofK (cx := (Mine.cq09 w s₁.heap mg mb T)) (ε := Mine.sc_law_takes) (i := 15) (a := 216) (fn := Mine.fn_law_takes) (body := (Mine.nthBody PySem.Challenge.pw_dn0069_09 31)) (ps := [PySem.Str.ofString "parts",PySem.Str.ofString "star",PySem.Str.ofString "name"]) X rfl (Nat.ne_of_beq_eq_false rfl) rfl (by rfl) (Nat.ne_of_beq_eq_false rfl) (fun c q e => nomatch e) (Mine.zau rfl (Mine.len3 fun _ _ _ => rfl)) rfl rfl rfl rfl rfl,Mine.zeW (hN T)⟩,
   List.forall_mem_cons.mpr ⟨⟨_,_,_,_,Mine.FnIs.ofK (cx := (Mine.cq09 w s₁.heap mg mb T)) (ε := Mine.sc_law_means) (i := 16) (a := 221) (fn := Mine.fn_law_means) (body := (Mine.nthBody PySem.Challenge.pw_dn0069_09 32)) (ps := [PySem.Str.ofString "items",PySem.Str.ofString "name"]) X rfl (Nat.ne_of_beq_eq_false rfl) rfl (by rfl) (Nat.ne_of_beq_eq_false rfl) (fun c q e => nomatch e) (Mine.zau rfl (Mine.len2 fun _ _ => rfl)) rfl rfl rfl rfl rfl,Mine.zeX (hN T)⟩,
   List.forall_mem_cons.mpr ⟨by with_reducible exact it10,
   fun _ h => nomatch h⟩⟩⟩⟩⟩⟩⟩⟩⟩⟩⟩⟩⟩⟩⟩⟩
  exact fun i fn h => all (i,fn) (Mine.zdQ h)
 obtain ⟨ρ',he⟩ := Mine.zh3 ns
 have hX : ∀ T,Mine.FnIs (Mine.cq09 w s₁.heap mg mb T) Mine.sc_law 35 Mine.fn_law _ (Mine.nthBody PySem.Challenge.pw_dn0069_09 34) [PySem.Str.ofString "script"] := fun T => Mine.FnIs.ofK (cx := (Mine.cq09 w s₁.heap mg mb T)) (ε := Mine.sc_law) (i := 35) (a := 233) (fn := Mine.fn_law) (body := (Mine.nthBody PySem.Challenge.pw_dn0069_09 34)) (ps := [PySem.Str.ofString "script"]) X rfl (Nat.ne_of_beq_eq_false rfl) rfl (by rfl) (Nat.ne_of_beq_eq_false rfl) (fun c q e => nomatch e) (Mine.zau rfl (Mine.len1 fun _ => rfl)) rfl rfl rfl rfl rfl
 have hXC : ∀ T,Mine.FnIs (Mine.cq09 w s₁.heap mg mb T) Mine.sc_commonpath 13 Mine.fn_commonpath _ (Mine.nthBody PySem.Challenge.pw_dn0069_09 22) _ := fun T => Mine.FnIs.ofK (cx := (Mine.cq09 w s₁.heap mg mb T)) (ε := Mine.sc_commonpath) (i := 13) (a := 180) (fn := Mine.fn_commonpath) (body := (Mine.nthBody PySem.Challenge.pw_dn0069_09 22)) (ps := [PySem.Str.ofString "paths"]) X rfl (Nat.ne_of_beq_eq_false rfl) rfl (by rfl) (Nat.ne_of_beq_eq_false rfl) (fun c q e => nomatch e) (Mine.zau rfl (Mine.len1 fun _ => rfl)) rfl rfl rfl rfl rfl
 refine Mine.zkI (cx := (Mine.cq09 w s₁.heap mg mb fun k => k)) (ε := Mine.sc_law) (i := 35) (i1 := 1) (n := 39) hcx hX (fun T hi => Mine.zfj (hcx T hi) (hfn T) (fun _ => trivial) 40) (fun T => Mine.zaX (x := PySem.Str.ofString "star") rfl (by decide) (Mine.zao (.cons (Mine.zab rfl) rfl .nil)) (fun _ _ _ => rfl)) (fun T hi => Mine.snd_law (hN T) (hXC T) trivial) (ns := ns) (ρ := Mine.rho09 ns) rfl (Mine.zgs ns) rfl (Nat.le_of_ble_eq_true rfl) he (s := s₁) (F := fun a => ∃ o,(ghostOf s₁.heap [(203,199)]).get? a = some o) ⟨rfl,by decide,by decide,⟨_,rfl⟩⟩ rfl (Mine.wd_of hT rfl hg) ?_ (fun T F' s' wd os => Mine.zjt hT (fun _ => rfl) (by wrow_post) wd.xi (fun b o e => wd.base b o e (Mine.zbW e)) wd.gens os)
 exact .list ⟨_,ghost_ne hobj (by simp)⟩ hobj (by rw [hlen]; unfold Mine.lim; omega) (Mine.zho hI)
