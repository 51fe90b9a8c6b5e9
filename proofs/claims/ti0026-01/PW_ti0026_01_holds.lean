import PyProof.Rows.All
import Wide.All
import OpenK.AllK
import Wide.FinOn
import PySem.Challenge.RW_ti0026_01
set_option Elab.async false
set_option linter.all false
set_option maxRecDepth 100000
set_option maxHeartbeats 8000000
set_option compiler.extract_closed false
section
open PySem PySem.Spec PySem.Calls PySem.W PySem.W.X PyProof.Rows
noncomputable section
namespace MyLaw
abbrev PP : Program := PySem.Challenge.rw_ti0026_01.row.prog
abbrev LO : List Str := [Str.ofString "b1_set", Str.ofString "b3_exceptions", Str.ofString "_twin_re_1", Str.ofString "_twin_re_2"]
noncomputable def VV : Program := { PySem.Challenge.pw_ti0026_01 with main := { PySem.Challenge.pw_ti0026_01.main with body := [0, 1, 3, 5, 6, 7, 8, 9, 10, 11, 12, 15, 16, 17, 18, 19, 20, 21, 22, 23, 24, 25, 26].filterMap fun i => PySem.Challenge.pw_ti0026_01.main.body[i]? } }
def fnParts (i : Nat) : Option (Arguments × List Stmt × Scope) := match PySem.Challenge.pw_ti0026_01.main.body[i]? with
  | some (.FunctionDef _ a b _ _ _ sc _ _ _) => some (a, b, sc)
  | _ => none
def dictParts (i : Nat) : Option (List (Option PySem.Expr) × List PySem.Expr) := match PySem.Challenge.pw_ti0026_01.main.body[i]? with
  | some (.Assign _ (.Dict ks vs _) _) => some (ks, vs)
  | _ => none
noncomputable abbrev q3 : {x : Arguments × List Stmt × Scope // fnParts 3 = some x} := ⟨_, rfl⟩
noncomputable abbrev q5 : {x : Arguments × List Stmt × Scope // fnParts 5 = some x} := ⟨_, rfl⟩
noncomputable abbrev q7 : {x : Arguments × List Stmt × Scope // fnParts 7 = some x} := ⟨_, rfl⟩
noncomputable abbrev q8 : {x : Arguments × List Stmt × Scope // fnParts 8 = some x} := ⟨_, rfl⟩
noncomputable abbrev q9 : {x : Arguments × List Stmt × Scope // fnParts 9 = some x} := ⟨_, rfl⟩
noncomputable abbrev q10 : {x : Arguments × List Stmt × Scope // fnParts 10 = some x} := ⟨_, rfl⟩
noncomputable abbrev q11 : {x : Arguments × List Stmt × Scope // fnParts 11 = some x} := ⟨_, rfl⟩
noncomputable abbrev q16 : {x : Arguments × List Stmt × Scope // fnParts 16 = some x} := ⟨_, rfl⟩
noncomputable abbrev q18 : {x : Arguments × List Stmt × Scope // fnParts 18 = some x} := ⟨_, rfl⟩
noncomputable abbrev q19 : {x : Arguments × List Stmt × Scope // fnParts 19 = some x} := ⟨_, rfl⟩
noncomputable abbrev q20 : {x : Arguments × List Stmt × Scope // fnParts 20 = some x} := ⟨_, rfl⟩
noncomputable abbrev q21 : {x : Arguments × List Stmt × Scope // fnParts 21 = some x} := ⟨_, rfl⟩
noncomputable abbrev q22 : {x : Arguments × List Stmt × Scope // fnParts 22 = some x} := ⟨_, rfl⟩
noncomputable abbrev q23 : {x : Arguments × List Stmt × Scope // fnParts 23 = some x} := ⟨_, rfl⟩
noncomputable abbrev q24 : {x : Arguments × List Stmt × Scope // fnParts 24 = some x} := ⟨_, rfl⟩
noncomputable abbrev q25 : {x : Arguments × List Stmt × Scope // fnParts 25 = some x} := ⟨_, rfl⟩
noncomputable abbrev q26 : {x : Arguments × List Stmt × Scope // fnParts 26 = some x} := ⟨_, rfl⟩
noncomputable def b3Tab : List (Int × Str) := match dictParts 4 with
  | some (ks, vs) => (ks.zip vs).filterMap fun
    | (some (.Constant (.int k) _ _), .Constant (.str x) _ _) => some (k, x)
    | _ => none
  | none => []
noncomputable def b3Laid : Nat → List (Int × Str) → List DictEntry
  | _, [] => []
  | t, (k, x) :: r => ⟨hashInt k, .int k t, .str x (t + 1)⟩ :: b3Laid (t + if t < 2289 then 3 else 2) r
noncomputable def b3Es : Array DictEntry := (b3Laid 351 b3Tab).toArray
noncomputable def KK : Params → Frag := fun P =>
(nat_lit 2, (⟨.none, none, (.dict #[⟨(PySem.PyData.keyHash P (Str.ofString "\x69mport.loaded._sre")), (.str (Str.ofString "\x69mport.loaded._sre") 183), (.bool true)⟩, ⟨(PySem.PyData.keyHash P (Str.ofString "class._frozen_importlib.BuiltinImporter")), (.str (Str.ofString "class._frozen_importlib.BuiltinImporter") 185), (.ref 14)⟩, ⟨(PySem.PyData.keyHash P (Str.ofString "watched.\x69mport")), (.str (Str.ofString "watched.\x69mport") 206), (.ref 18)⟩, ⟨(PySem.PyData.keyHash P (Str.ofString "class._frozen_importlib.ModuleSpec")), (.str (Str.ofString "class._frozen_importlib.ModuleSpec") 216), (.ref 22)⟩, ⟨(PySem.PyData.keyHash P (Str.ofString "sys.modules.booked-epoch")), (.str (Str.ofString "sys.modules.booked-epoch") 245), (.int 3 0)⟩, ⟨(PySem.PyData.keyHash P (Str.ofString "\x69mport.later-laid._sre")), (.str (Str.ofString "\x69mport.later-laid._sre") 270), (.bool true)⟩, ⟨(PySem.PyData.keyHash P (Str.ofString "watched.library")), (.str (Str.ofString "watched.library") 272), (.ref 27)⟩, ⟨(PySem.PyData.keyHash P (Str.ofString "watched.library-objects")), (.str (Str.ofString "watched.library-objects") 0), (.str (Str.ofString "\u000c") 0)⟩, ⟨(PySem.PyData.keyHash P (Str.ofString "watched.library-deep._sre")), (.str (Str.ofString "watched.library-deep._sre") 273), (.str (Str.ofString "\u0004\u0000\u0000\u000b\u0004\u0000\u0000\u000b\u0004\u0000\u0000\u0003\u0004\u0000\u0000\u000b\u0008\u0004dict\u0002") 0)⟩] 9), #[]⟩ : Obj)) ::
(nat_lit 3, (⟨(.type "dict"), none, (.dict #[⟨(PySem.PyData.keyHash P (Str.ofString "__name__")), (.str (Str.ofString "__name__") 165), (.str (Str.ofString "law_ti0026_01") 2423)⟩, ⟨(PySem.PyData.keyHash P (Str.ofString "__doc__")), (.str (Str.ofString "__doc__") 166), .none⟩, ⟨(PySem.PyData.keyHash P (Str.ofString "__package__")), (.str (Str.ofString "__package__") 167), .none⟩, ⟨(PySem.PyData.keyHash P (Str.ofString "__loader__")), (.str (Str.ofString "__loader__") 168), (.builtin "__main__.__loader__#opaque")⟩, ⟨(PySem.PyData.keyHash P (Str.ofString "__spec__")), (.str (Str.ofString "__spec__") 169), .none⟩, ⟨(PySem.PyData.keyHash P (Str.ofString "__annotations__")), (.str (Str.ofString "__annotations__") 170), (.ref 6)⟩, ⟨(PySem.PyData.keyHash P (Str.ofString "__builtins__")), (.str (Str.ofString "__builtins__") 171), (.ref 4)⟩, ⟨(PySem.PyData.keyHash P (Str.ofString "__file__")), (.str (Str.ofString "__file__") 173), (.str (Str.ofString "/claim/cut.py") 172)⟩, ⟨(PySem.PyData.keyHash P (Str.ofString "__cached__")), (.str (Str.ofString "__cached__") 174), .none⟩, ⟨(PySem.PyData.keyHash P (Str.ofString "_sre")), (.str (Str.ofString "_sre") 275), (.ref 12)⟩, ⟨(PySem.PyData.keyHash P (Str.ofString "b1_set")), (.str (Str.ofString "b1_set") 343), (.ref 39)⟩, ⟨(PySem.PyData.keyHash P (Str.ofString "in_table_b1")), (.str (Str.ofString "in_table_b1") 350), (.ref 49)⟩, ⟨(PySem.PyData.keyHash P (Str.ofString "b3_exceptions")), (.str (Str.ofString "b3_exceptions") 2301), (.ref 50)⟩, ⟨(PySem.PyData.keyHash P (Str.ofString "map_table_b3")), (.str (Str.ofString "map_table_b3") 2309), (.ref 95)⟩, ⟨(PySem.PyData.keyHash P (Str.ofString "add")), (.str (Str.ofString "add") 2319), (.ref 102)⟩, ⟨(PySem.PyData.keyHash P (Str.ofString "mul")), (.str (Str.ofString "mul") 2327), (.ref 109)⟩, ⟨(PySem.PyData.keyHash P (Str.ofString "sub")), (.str (Str.ofString "sub") 2335), (.ref 116)⟩, ⟨(PySem.PyData.keyHash P (Str.ofString "indexOf")), (.str (Str.ofString "indexOf") 2345), (.ref 123)⟩, ⟨(PySem.PyData.keyHash P (Str.ofString "ipow")), (.str (Str.ofString "ipow") 2353), (.ref 130)⟩, ⟨(PySem.PyData.keyHash P (Str.ofString "_twin_re_1")), (.str (Str.ofString "_twin_re_1") 2371), (.ref 135)⟩, ⟨(PySem.PyData.keyHash P (Str.ofString "_twin_re_2")), (.str (Str.ofString "_twin_re_2") 2413), (.ref 140)⟩, ⟨(PySem.PyData.keyHash P (Str.ofString "CRLF")), (.str (Str.ofString "CRLF") 2415), (.str (Str.ofString "\r\n") 2414)⟩, ⟨(PySem.PyData.keyHash P (Str.ofString "quotedata")), (.str (Str.ofString "quotedata") 2422), (.ref 147)⟩, ⟨(PySem.PyData.keyHash P (Str.ofString "_law_name")), (.str (Str.ofString "_law_name") 2434), (.ref 154)⟩, ⟨(PySem.PyData.keyHash P (Str.ofString "_law_unseen")), (.str (Str.ofString "_law_unseen") 2441), (.ref 161)⟩, ⟨(PySem.PyData.keyHash P (Str.ofString "_law_prepared")), (.str (Str.ofString "_law_prepared") 2451), (.ref 168)⟩, ⟨(PySem.PyData.keyHash P (Str.ofString "_law_turn")), (.str (Str.ofString "_law_turn") 2466), (.ref 175)⟩, ⟨(PySem.PyData.keyHash P (Str.ofString "_law_refused")), (.str (Str.ofString "_law_refused") 2474), (.ref 182)⟩, ⟨(PySem.PyData.keyHash P (Str.ofString "_law_place")), (.str (Str.ofString "_law_place") 2484), (.ref 189)⟩, ⟨(PySem.PyData.keyHash P (Str.ofString "_law_determinant")), (.str (Str.ofString "_law_determinant") 2490), (.ref 194)⟩, ⟨(PySem.PyData.keyHash P (Str.ofString "_law_factor")), (.str (Str.ofString "_law_factor") 2496), (.ref 199)⟩, ⟨(PySem.PyData.keyHash P (Str.ofString "law")), (.str (Str.ofString "law") 2502), (.ref 204)⟩] 32), #[]⟩ : Obj)) ::
(nat_lit 6, (⟨(.type "dict"), none, (.dict #[] 0), #[]⟩ : Obj)) ::
(nat_lit 11, (⟨(.type "dict"), none, (.dict #[⟨(PySem.PyData.keyHash P (Str.ofString "__name__")), (.str (Str.ofString "__name__") 247), (.str (Str.ofString "_sre") 246)⟩, ⟨(PySem.PyData.keyHash P (Str.ofString "__doc__")), (.str (Str.ofString "__doc__") 248), .none⟩, ⟨(PySem.PyData.keyHash P (Str.ofString "__package__")), (.str (Str.ofString "__package__") 250), (.str (Str.ofString "") 249)⟩, ⟨(PySem.PyData.keyHash P (Str.ofString "__loader__")), (.str (Str.ofString "__loader__") 251), (.builtin "off-the-table:_sre.__loader__:shared#opaque")⟩, ⟨(PySem.PyData.keyHash P (Str.ofString "__spec__")), (.str (Str.ofString "__spec__") 252), (.builtin "off-the-table:_sre.__spec__:shared#opaque")⟩, ⟨(PySem.PyData.keyHash P (Str.ofString "compile")), (.str (Str.ofString "compile") 253), (.builtin "_sre.compile")⟩, ⟨(PySem.PyData.keyHash P (Str.ofString "template")), (.str (Str.ofString "template") 254), (.builtin "off-the-table:_sre.template:shared#opaque")⟩, ⟨(PySem.PyData.keyHash P (Str.ofString "getcodesize")), (.str (Str.ofString "getcodesize") 255), (.builtin "off-the-table:_sre.getcodesize:shared#opaque")⟩, ⟨(PySem.PyData.keyHash P (Str.ofString "ascii_iscased")), (.str (Str.ofString "ascii_iscased") 256), (.builtin "off-the-table:_sre.ascii_iscased:shared#opaque")⟩, ⟨(PySem.PyData.keyHash P (Str.ofString "unicode_iscased")), (.str (Str.ofString "unicode_iscased") 257), (.builtin "off-the-table:_sre.unicode_iscased:shared#opaque")⟩, ⟨(PySem.PyData.keyHash P (Str.ofString "ascii_tolower")), (.str (Str.ofString "ascii_tolower") 258), (.builtin "off-the-table:_sre.ascii_tolower:shared#opaque")⟩, ⟨(PySem.PyData.keyHash P (Str.ofString "unicode_tolower")), (.str (Str.ofString "unicode_tolower") 259), (.builtin "off-the-table:_sre.unicode_tolower:shared#opaque")⟩, ⟨(PySem.PyData.keyHash P (Str.ofString "MAGIC")), (.str (Str.ofString "MAGIC") 261), (.int 20230612 260)⟩, ⟨(PySem.PyData.keyHash P (Str.ofString "CODESIZE")), (.str (Str.ofString "CODESIZE") 263), (.int 4 262)⟩, ⟨(PySem.PyData.keyHash P (Str.ofString "MAXREPEAT")), (.str (Str.ofString "MAXREPEAT") 265), (.int 4294967295 264)⟩, ⟨(PySem.PyData.keyHash P (Str.ofString "MAXGROUPS")), (.str (Str.ofString "MAXGROUPS") 267), (.int 1073741823 266)⟩, ⟨(PySem.PyData.keyHash P (Str.ofString "copyright")), (.str (Str.ofString "copyright") 269), (.str (Str.ofString " SRE 2.2.2 Copyright (c) 1997-2002 by Secret Labs AB ") 268)⟩] 17), #[]⟩ : Obj)) ::
(nat_lit 12, (⟨(.type "module"), (some 11), .plain, #[]⟩ : Obj)) ::
(nat_lit 39, (⟨(.type "set"), none, (.set #[(65024, (.int 65024 300)), (65025, (.int 65025 301)), (65026, (.int 65026 302)), (65027, (.int 65027 303)), (65028, (.int 65028 304)), (65029, (.int 65029 305)), (6150, (.int 6150 286)), (65030, (.int 65030 306)), (65031, (.int 65031 307)), (65032, (.int 65032 308)), (65033, (.int 65033 309)), (6155, (.int 6155 287)), (6156, (.int 6156 288)), (6157, (.int 6157 289)), (8203, (.int 8203 290)), (8204, (.int 8204 291)), (8205, (.int 8205 292)), (65034, (.int 65034 310)), (65035, (.int 65035 311)), (65036, (.int 65036 312)), (65037, (.int 65037 313)), (65038, (.int 65038 314)), (65039, (.int 65039 315)), (173, (.int 173 284)), (847, (.int 847 285)), (8288, (.int 8288 293)), (65279, (.int 65279 294))] 29 ⟨127, #[0, 1, 2, 3, 4, 5, 6, 7, 8, 9, 10, 11, 12, 13, 14, 15, 16, 17, 18, 19, 20, 21, 22, 45, 79, 96, 127], #[], 0, (Bool.not (PySem.Params.followText P "set-order")), 2, true⟩), #[]⟩ : Obj)) ::
(nat_lit 43, (⟨(.type "tuple"), none, (.seq #[] 0), #[]⟩ : Obj)) ::
(nat_lit 45, (⟨(.type "tuple"), none, (.seq #[(.str (Str.ofString "code") 347)] 0), #[]⟩ : Obj)) ::
(nat_lit 46, (⟨(.type "tuple"), none, (.seq #[] 0), #[]⟩ : Obj)) ::
(nat_lit 48, (⟨(.type "code"), none, (.fields #[(.str (Str.ofString "in_table_b1") 344), (.str (Str.ofString "in_table_b1") 345), (.str (Str.ofString "/claim/cut.py") 346), (.int 4 0), (.int 1 0), (.int 0 0), (.int 0 0), (.int 3 0), (.ref 43), (.bool true), (.int 276 0), (.ref 44), .none, (.ref 45), (.ref 46), (.ref 47), (.int 348 0), (.int 4 0), (.str (Str.ofString "/claim/cut.py") 349)]), #[]⟩ : Obj)) ::
(nat_lit 49, (⟨(.type "function"), none, (.func ⟨(Str.ofString "in_table_b1"), (Str.ofString "in_table_b1"), q3.1.1, (.stmts q3.1.2.1), q3.1.2.2, 3, [], .none, .none, .none, (.str (Str.ofString "cpy313.stringprep") 282), none, (.ref 48), .none, 0⟩), #[]⟩ : Obj)) ::
(nat_lit 50, (⟨(.type "dict"), none, (.dict b3Es 650), #[]⟩ : Obj)) ::
(nat_lit 89, (⟨(.type "tuple"), none, (.seq #[] 0), #[]⟩ : Obj)) ::
(nat_lit 91, (⟨(.type "tuple"), none, (.seq #[(.str (Str.ofString "code") 2305), (.str (Str.ofString "r") 2306)] 0), #[]⟩ : Obj)) ::
(nat_lit 92, (⟨(.type "tuple"), none, (.seq #[] 0), #[]⟩ : Obj)) ::
(nat_lit 94, (⟨(.type "code"), none, (.fields #[(.str (Str.ofString "map_table_b3") 2302), (.str (Str.ofString "map_table_b3") 2303), (.str (Str.ofString "/claim/cut.py") 2304), (.int 7 0), (.int 1 0), (.int 0 0), (.int 0 0), (.int 3 0), (.ref 89), (.bool true), (.int 276 0), (.ref 90), .none, (.ref 91), (.ref 92), (.ref 93), (.int 2307 0), (.int 7 0), (.str (Str.ofString "/claim/cut.py") 2308)]), #[]⟩ : Obj)) ::
(nat_lit 95, (⟨(.type "function"), none, (.func ⟨(Str.ofString "map_table_b3"), (Str.ofString "map_table_b3"), q5.1.1, (.stmts q5.1.2.1), q5.1.2.2, 3, [], .none, .none, .none, (.str (Str.ofString "cpy313.stringprep") 282), none, (.ref 94), .none, 0⟩), #[]⟩ : Obj)) ::
(nat_lit 96, (⟨(.type "tuple"), none, (.seq #[] 0), #[]⟩ : Obj)) ::
(nat_lit 98, (⟨(.type "tuple"), none, (.seq #[(.str (Str.ofString "a") 2315), (.str (Str.ofString "b") 2316)] 0), #[]⟩ : Obj)) ::
(nat_lit 99, (⟨(.type "tuple"), none, (.seq #[] 0), #[]⟩ : Obj)) ::
(nat_lit 101, (⟨(.type "code"), none, (.fields #[(.str (Str.ofString "add") 2312), (.str (Str.ofString "add") 2313), (.str (Str.ofString "/claim/cut.py") 2314), (.int 13 0), (.int 2 0), (.int 0 0), (.int 0 0), (.int 3 0), (.ref 96), (.bool true), (.int 276 0), (.ref 97), .none, (.ref 98), (.ref 99), (.ref 100), (.int 2317 0), (.int 13 0), (.str (Str.ofString "/claim/cut.py") 2318)]), #[]⟩ : Obj)) ::
(nat_lit 102, (⟨(.type "function"), none, (.func ⟨(Str.ofString "add"), (Str.ofString "add"), q7.1.1, (.stmts q7.1.2.1), q11.1.2.2, 3, [], .none, .none, .none, (.str (Str.ofString "cpy313.operator") 2310), none, (.ref 101), .none, 0⟩), #[]⟩ : Obj)) ::
(nat_lit 103, (⟨(.type "tuple"), none, (.seq #[] 0), #[]⟩ : Obj)) ::
(nat_lit 105, (⟨(.type "tuple"), none, (.seq #[(.str (Str.ofString "a") 2323), (.str (Str.ofString "b") 2324)] 0), #[]⟩ : Obj)) ::
(nat_lit 106, (⟨(.type "tuple"), none, (.seq #[] 0), #[]⟩ : Obj)) ::
(nat_lit 108, (⟨(.type "code"), none, (.fields #[(.str (Str.ofString "mul") 2320), (.str (Str.ofString "mul") 2321), (.str (Str.ofString "/claim/cut.py") 2322), (.int 15 0), (.int 2 0), (.int 0 0), (.int 0 0), (.int 3 0), (.ref 103), (.bool true), (.int 276 0), (.ref 104), .none, (.ref 105), (.ref 106), (.ref 107), (.int 2325 0), (.int 15 0), (.str (Str.ofString "/claim/cut.py") 2326)]), #[]⟩ : Obj)) ::
(nat_lit 109, (⟨(.type "function"), none, (.func ⟨(Str.ofString "mul"), (Str.ofString "mul"), q8.1.1, (.stmts q8.1.2.1), q11.1.2.2, 3, [], .none, .none, .none, (.str (Str.ofString "cpy313.operator") 2310), none, (.ref 108), .none, 0⟩), #[]⟩ : Obj)) ::
(nat_lit 110, (⟨(.type "tuple"), none, (.seq #[] 0), #[]⟩ : Obj)) ::
(nat_lit 112, (⟨(.type "tuple"), none, (.seq #[(.str (Str.ofString "a") 2331), (.str (Str.ofString "b") 2332)] 0), #[]⟩ : Obj)) ::
(nat_lit 113, (⟨(.type "tuple"), none, (.seq #[] 0), #[]⟩ : Obj)) ::
(nat_lit 115, (⟨(.type "code"), none, (.fields #[(.str (Str.ofString "sub") 2328), (.str (Str.ofString "sub") 2329), (.str (Str.ofString "/claim/cut.py") 2330), (.int 17 0), (.int 2 0), (.int 0 0), (.int 0 0), (.int 3 0), (.ref 110), (.bool true), (.int 276 0), (.ref 111), .none, (.ref 112), (.ref 113), (.ref 114), (.int 2333 0), (.int 17 0), (.str (Str.ofString "/claim/cut.py") 2334)]), #[]⟩ : Obj)) ::
(nat_lit 116, (⟨(.type "function"), none, (.func ⟨(Str.ofString "sub"), (Str.ofString "sub"), q9.1.1, (.stmts q9.1.2.1), q11.1.2.2, 3, [], .none, .none, .none, (.str (Str.ofString "cpy313.operator") 2310), none, (.ref 115), .none, 0⟩), #[]⟩ : Obj)) ::
(nat_lit 117, (⟨(.type "tuple"), none, (.seq #[] 0), #[]⟩ : Obj)) ::
(nat_lit 119, (⟨(.type "tuple"), none, (.seq #[(.str (Str.ofString "a") 2339), (.str (Str.ofString "b") 2340), (.str (Str.ofString "i") 2341), (.str (Str.ofString "j") 2342)] 0), #[]⟩ : Obj)) ::
(nat_lit 120, (⟨(.type "tuple"), none, (.seq #[] 0), #[]⟩ : Obj)) ::
(nat_lit 122, (⟨(.type "code"), none, (.fields #[(.str (Str.ofString "indexOf") 2336), (.str (Str.ofString "indexOf") 2337), (.str (Str.ofString "/claim/cut.py") 2338), (.int 19 0), (.int 2 0), (.int 0 0), (.int 0 0), (.int 3 0), (.ref 117), (.bool true), (.int 276 0), (.ref 118), .none, (.ref 119), (.ref 120), (.ref 121), (.int 2343 0), (.int 19 0), (.str (Str.ofString "/claim/cut.py") 2344)]), #[]⟩ : Obj)) ::
(nat_lit 123, (⟨(.type "function"), none, (.func ⟨(Str.ofString "indexOf"), (Str.ofString "indexOf"), q10.1.1, (.stmts q10.1.2.1), q10.1.2.2, 3, [], .none, .none, .none, (.str (Str.ofString "cpy313.operator") 2310), none, (.ref 122), .none, 0⟩), #[]⟩ : Obj)) ::
(nat_lit 124, (⟨(.type "tuple"), none, (.seq #[] 0), #[]⟩ : Obj)) ::
(nat_lit 126, (⟨(.type "tuple"), none, (.seq #[(.str (Str.ofString "a") 2349), (.str (Str.ofString "b") 2350)] 0), #[]⟩ : Obj)) ::
(nat_lit 127, (⟨(.type "tuple"), none, (.seq #[] 0), #[]⟩ : Obj)) ::
(nat_lit 129, (⟨(.type "code"), none, (.fields #[(.str (Str.ofString "ipow") 2346), (.str (Str.ofString "ipow") 2347), (.str (Str.ofString "/claim/cut.py") 2348), (.int 25 0), (.int 2 0), (.int 0 0), (.int 0 0), (.int 3 0), (.ref 124), (.bool true), (.int 276 0), (.ref 125), .none, (.ref 126), (.ref 127), (.ref 128), (.int 2351 0), (.int 25 0), (.str (Str.ofString "/claim/cut.py") 2352)]), #[]⟩ : Obj)) ::
(nat_lit 130, (⟨(.type "function"), none, (.func ⟨(Str.ofString "ipow"), (Str.ofString "ipow"), q11.1.1, (.stmts q11.1.2.1), q11.1.2.2, 3, [], .none, .none, .none, (.str (Str.ofString "cpy313.operator") 2310), none, (.ref 129), .none, 0⟩), #[]⟩ : Obj)) ::
(nat_lit 134, (⟨(.type "tuple"), none, (.seq #[(.int 14 0), (.int 4 0), (.int 0 0), (.int 1 0), (.int 1 0), (.int 6 0), (.int 1 0), (.int 16 0), (.int 46 0), (.int 1 0)] 0), #[]⟩ : Obj)) ::
(nat_lit 135, (⟨(.type "re.Pattern"), none, (.fields #[(.str (Str.ofString "(?m)^\\.") 2357), (.int 40 2370), (.int 0 0), .none, .none, (.ref 134), (.int 0 0)]), #[]⟩ : Obj)) ::
(nat_lit 139, (⟨(.type "tuple"), none, (.seq #[(.int 14 0), (.int 9 0), (.int 4 0), (.int 1 0), (.int 2 0), (.int 16 0), (.int 10 0), (.int 16 0), (.int 13 0), (.int 0 0), (.int 7 0), (.int 7 0), (.int 16 0), (.int 13 0), (.int 16 0), (.int 10 0), (.int 15 0), (.int 18 0), (.int 5 0), (.int 16 0), (.int 10 0), (.int 15 0), (.int 13 0), (.int 11 0), (.int 16 0), (.int 13 0), (.int 5 0), (.int 5 0), (.int 0 0), (.int 16 0), (.int 10 0), (.int 1 0), (.int 15 0), (.int 2 0), (.int 0 0), (.int 1 0)] 0), #[]⟩ : Obj)) ::
(nat_lit 140, (⟨(.type "re.Pattern"), none, (.fields #[(.str (Str.ofString "(?:\\r\\n|\\n|\\r(?!\\n))") 2373), (.int 32 2412), (.int 0 0), .none, .none, (.ref 139), (.int 0 0)]), #[]⟩ : Obj)) ::
(nat_lit 141, (⟨(.type "tuple"), none, (.seq #[] 0), #[]⟩ : Obj)) ::
(nat_lit 143, (⟨(.type "tuple"), none, (.seq #[(.str (Str.ofString "data") 2419)] 0), #[]⟩ : Obj)) ::
(nat_lit 144, (⟨(.type "tuple"), none, (.seq #[] 0), #[]⟩ : Obj)) ::
(nat_lit 146, (⟨(.type "code"), none, (.fields #[(.str (Str.ofString "quotedata") 2416), (.str (Str.ofString "quotedata") 2417), (.str (Str.ofString "/claim/cut.py") 2418), (.int 32 0), (.int 1 0), (.int 0 0), (.int 0 0), (.int 3 0), (.ref 141), (.bool true), (.int 276 0), (.ref 142), .none, (.ref 143), (.ref 144), (.ref 145), (.int 2420 0), (.int 32 0), (.str (Str.ofString "/claim/cut.py") 2421)]), #[]⟩ : Obj)) ::
(nat_lit 147, (⟨(.type "function"), none, (.func ⟨(Str.ofString "quotedata"), (Str.ofString "quotedata"), q16.1.1, (.stmts q16.1.2.1), q16.1.2.2, 3, [], .none, .none, .none, (.str (Str.ofString "cpy313.smtplib") 2354), none, (.ref 146), .none, 0⟩), #[]⟩ : Obj)) ::
(nat_lit 148, (⟨(.type "tuple"), none, (.seq #[] 0), #[]⟩ : Obj)) ::
(nat_lit 150, (⟨(.type "tuple"), none, (.seq #[(.str (Str.ofString "rest") 2428), (.str (Str.ofString "beside") 2429), (.str (Str.ofString "stay") 2430), (.str (Str.ofString "letter") 2431)] 0), #[]⟩ : Obj)) ::
(nat_lit 151, (⟨(.type "tuple"), none, (.seq #[] 0), #[]⟩ : Obj)) ::
(nat_lit 153, (⟨(.type "code"), none, (.fields #[(.str (Str.ofString "_law_name") 2425), (.str (Str.ofString "_law_name") 2426), (.str (Str.ofString "/claim/cut.py") 2427), (.int 35 0), (.int 1 0), (.int 0 0), (.int 0 0), (.int 3 0), (.ref 148), (.bool true), (.int 276 0), (.ref 149), .none, (.ref 150), (.ref 151), (.ref 152), (.int 2432 0), (.int 35 0), (.str (Str.ofString "/claim/cut.py") 2433)]), #[]⟩ : Obj)) ::
(nat_lit 154, (⟨(.type "function"), none, (.func ⟨(Str.ofString "_law_name"), (Str.ofString "_law_name"), q18.1.1, (.stmts q18.1.2.1), q18.1.2.2, 3, [], .none, .none, .none, (.str (Str.ofString "law_ti0026_01") 2423), none, (.ref 153), .none, 0⟩), #[]⟩ : Obj)) ::
(nat_lit 155, (⟨(.type "tuple"), none, (.seq #[] 0), #[]⟩ : Obj)) ::
(nat_lit 157, (⟨(.type "tuple"), none, (.seq #[(.str (Str.ofString "number") 2438)] 0), #[]⟩ : Obj)) ::
(nat_lit 158, (⟨(.type "tuple"), none, (.seq #[] 0), #[]⟩ : Obj)) ::
(nat_lit 160, (⟨(.type "code"), none, (.fields #[(.str (Str.ofString "_law_unseen") 2435), (.str (Str.ofString "_law_unseen") 2436), (.str (Str.ofString "/claim/cut.py") 2437), (.int 46 0), (.int 1 0), (.int 0 0), (.int 0 0), (.int 3 0), (.ref 155), (.bool true), (.int 276 0), (.ref 156), .none, (.ref 157), (.ref 158), (.ref 159), (.int 2439 0), (.int 46 0), (.str (Str.ofString "/claim/cut.py") 2440)]), #[]⟩ : Obj)) ::
(nat_lit 161, (⟨(.type "function"), none, (.func ⟨(Str.ofString "_law_unseen"), (Str.ofString "_law_unseen"), q19.1.1, (.stmts q19.1.2.1), q19.1.2.2, 3, [], .none, .none, .none, (.str (Str.ofString "law_ti0026_01") 2423), none, (.ref 160), .none, 0⟩), #[]⟩ : Obj)) ::
(nat_lit 162, (⟨(.type "tuple"), none, (.seq #[] 0), #[]⟩ : Obj)) ::
(nat_lit 164, (⟨(.type "tuple"), none, (.seq #[(.str (Str.ofString "text") 2445), (.str (Str.ofString "kept") 2446), (.str (Str.ofString "sign") 2447), (.str (Str.ofString "held") 2448)] 0), #[]⟩ : Obj)) ::
(nat_lit 165, (⟨(.type "tuple"), none, (.seq #[] 0), #[]⟩ : Obj)) ::
(nat_lit 167, (⟨(.type "code"), none, (.fields #[(.str (Str.ofString "_law_prepared") 2442), (.str (Str.ofString "_law_prepared") 2443), (.str (Str.ofString "/claim/cut.py") 2444), (.int 48 0), (.int 1 0), (.int 0 0), (.int 0 0), (.int 3 0), (.ref 162), (.bool true), (.int 276 0), (.ref 163), .none, (.ref 164), (.ref 165), (.ref 166), (.int 2449 0), (.int 48 0), (.str (Str.ofString "/claim/cut.py") 2450)]), #[]⟩ : Obj)) ::
(nat_lit 168, (⟨(.type "function"), none, (.func ⟨(Str.ofString "_law_prepared"), (Str.ofString "_law_prepared"), q20.1.1, (.stmts q20.1.2.1), q20.1.2.2, 3, [], .none, .none, .none, (.str (Str.ofString "law_ti0026_01") 2423), none, (.ref 167), .none, 0⟩), #[]⟩ : Obj)) ::
(nat_lit 169, (⟨(.type "tuple"), none, (.seq #[] 0), #[]⟩ : Obj)) ::
(nat_lit 171, (⟨(.type "tuple"), none, (.seq #[(.str (Str.ofString "rows") 2455), (.str (Str.ofString "bare") 2456), (.str (Str.ofString "rests") 2457), (.str (Str.ofString "turn") 2458), (.str (Str.ofString "times") 2459), (.str (Str.ofString "mail") 2460), (.str (Str.ofString "j") 2461), (.str (Str.ofString "ends") 2462), (.str (Str.ofString "sending") 2463)] 0), #[]⟩ : Obj)) ::
(nat_lit 172, (⟨(.type "tuple"), none, (.seq #[] 0), #[]⟩ : Obj)) ::
(nat_lit 174, (⟨(.type "code"), none, (.fields #[(.str (Str.ofString "_law_turn") 2452), (.str (Str.ofString "_law_turn") 2453), (.str (Str.ofString "/claim/cut.py") 2454), (.int 57 0), (.int 5 0), (.int 0 0), (.int 0 0), (.int 3 0), (.ref 169), (.bool true), (.int 276 0), (.ref 170), .none, (.ref 171), (.ref 172), (.ref 173), (.int 2464 0), (.int 57 0), (.str (Str.ofString "/claim/cut.py") 2465)]), #[]⟩ : Obj)) ::
(nat_lit 175, (⟨(.type "function"), none, (.func ⟨(Str.ofString "_law_turn"), (Str.ofString "_law_turn"), q21.1.1, (.stmts q21.1.2.1), q21.1.2.2, 3, [], .none, .none, .none, (.str (Str.ofString "law_ti0026_01") 2423), none, (.ref 174), .none, 0⟩), #[]⟩ : Obj)) ::
(nat_lit 176, (⟨(.type "tuple"), none, (.seq #[] 0), #[]⟩ : Obj)) ::
(nat_lit 178, (⟨(.type "tuple"), none, (.seq #[(.str (Str.ofString "row") 2470), (.str (Str.ofString "sign") 2471)] 0), #[]⟩ : Obj)) ::
(nat_lit 179, (⟨(.type "tuple"), none, (.seq #[] 0), #[]⟩ : Obj)) ::
(nat_lit 181, (⟨(.type "code"), none, (.fields #[(.str (Str.ofString "_law_refused") 2467), (.str (Str.ofString "_law_refused") 2468), (.str (Str.ofString "/claim/cut.py") 2469), (.int 68 0), (.int 2 0), (.int 0 0), (.int 0 0), (.int 3 0), (.ref 176), (.bool true), (.int 276 0), (.ref 177), .none, (.ref 178), (.ref 179), (.ref 180), (.int 2472 0), (.int 68 0), (.str (Str.ofString "/claim/cut.py") 2473)]), #[]⟩ : Obj)) ::
(nat_lit 182, (⟨(.type "function"), none, (.func ⟨(Str.ofString "_law_refused"), (Str.ofString "_law_refused"), q22.1.1, (.stmts q22.1.2.1), q22.1.2.2, 3, [], .none, .none, .none, (.str (Str.ofString "law_ti0026_01") 2423), none, (.ref 181), .none, 0⟩), #[]⟩ : Obj)) ::
(nat_lit 183, (⟨(.type "tuple"), none, (.seq #[] 0), #[]⟩ : Obj)) ::
(nat_lit 185, (⟨(.type "tuple"), none, (.seq #[(.str (Str.ofString "row") 2478), (.str (Str.ofString "name") 2479), (.str (Str.ofString "unseen") 2480), (.str (Str.ofString "place") 2481)] 0), #[]⟩ : Obj)) ::
(nat_lit 186, (⟨(.type "tuple"), none, (.seq #[] 0), #[]⟩ : Obj)) ::
(nat_lit 188, (⟨(.type "code"), none, (.fields #[(.str (Str.ofString "_law_place") 2475), (.str (Str.ofString "_law_place") 2476), (.str (Str.ofString "/claim/cut.py") 2477), (.int 74 0), (.int 3 0), (.int 0 0), (.int 0 0), (.int 3 0), (.ref 183), (.bool true), (.int 276 0), (.ref 184), .none, (.ref 185), (.ref 186), (.ref 187), (.int 2482 0), (.int 74 0), (.str (Str.ofString "/claim/cut.py") 2483)]), #[]⟩ : Obj)) ::
(nat_lit 189, (⟨(.type "function"), none, (.func ⟨(Str.ofString "_law_place"), (Str.ofString "_law_place"), q23.1.1, (.stmts q23.1.2.1), q23.1.2.2, 3, [], .none, .none, .none, (.str (Str.ofString "law_ti0026_01") 2423), none, (.ref 188), .none, 0⟩), #[]⟩ : Obj)) ::
(nat_lit 190, (⟨(.type "tuple"), none, (.seq #[] 0), #[]⟩ : Obj)) ::
(nat_lit 193, (⟨(.type "code"), none, (.fields #[(.str (Str.ofString "_law_determinant") 2485), (.str (Str.ofString "_law_determinant") 2486), (.str (Str.ofString "/claim/cut.py") 2487), (.int 79 0), (.int 2 0), (.int 0 0), (.int 0 0), (.int 3 0), (.ref 190), (.bool true), (.int 276 0), (.ref 191), .none, .none, .none, (.ref 192), (.int 2488 0), (.int 79 0), (.str (Str.ofString "/claim/cut.py") 2489)]), #[]⟩ : Obj)) ::
(nat_lit 194, (⟨(.type "function"), none, (.func ⟨(Str.ofString "_law_determinant"), (Str.ofString "_law_determinant"), q24.1.1, (.stmts q24.1.2.1), q24.1.2.2, 3, [], .none, .none, .none, (.str (Str.ofString "law_ti0026_01") 2423), none, (.ref 193), .none, 0⟩), #[]⟩ : Obj)) ::
(nat_lit 195, (⟨(.type "tuple"), none, (.seq #[] 0), #[]⟩ : Obj)) ::
(nat_lit 198, (⟨(.type "code"), none, (.fields #[(.str (Str.ofString "_law_factor") 2491), (.str (Str.ofString "_law_factor") 2492), (.str (Str.ofString "/claim/cut.py") 2493), (.int 87 0), (.int 3 0), (.int 0 0), (.int 0 0), (.int 3 0), (.ref 195), (.bool true), (.int 276 0), (.ref 196), .none, .none, .none, (.ref 197), (.int 2494 0), (.int 87 0), (.str (Str.ofString "/claim/cut.py") 2495)]), #[]⟩ : Obj)) ::
(nat_lit 199, (⟨(.type "function"), none, (.func ⟨(Str.ofString "_law_factor"), (Str.ofString "_law_factor"), q25.1.1, (.stmts q25.1.2.1), q25.1.2.2, 3, [], .none, .none, .none, (.str (Str.ofString "law_ti0026_01") 2423), none, (.ref 198), .none, 0⟩), #[]⟩ : Obj)) ::
(nat_lit 200, (⟨(.type "tuple"), none, (.seq #[] 0), #[]⟩ : Obj)) ::
(nat_lit 203, (⟨(.type "code"), none, (.fields #[(.str (Str.ofString "law") 2497), (.str (Str.ofString "law") 2498), (.str (Str.ofString "/claim/cut.py") 2499), (.int 94 0), (.int 1 0), (.int 0 0), (.int 0 0), (.int 3 0), (.ref 200), (.bool true), (.int 276 0), (.ref 201), .none, .none, .none, (.ref 202), (.int 2500 0), (.int 94 0), (.str (Str.ofString "/claim/cut.py") 2501)]), #[]⟩ : Obj)) ::
(nat_lit 204, (⟨(.type "function"), none, (.func ⟨(Str.ofString "law"), (Str.ofString "law"), q26.1.1, (.stmts q26.1.2.1), q26.1.2.2, 3, [], .none, .none, .none, (.str (Str.ofString "law_ti0026_01") 2423), none, (.ref 203), .none, 0⟩), #[]⟩ : Obj)) :: []
theorem filled : PySem.Challenge.rw_ti0026_01 = PySem.Challenge.rw_ti0026_01 ∧ KK = KK := by
  k_fill
  exact ⟨rfl, rfl⟩
end MyLaw
end
end
section
open PySem PySem.Spec PySem.Calls PySem.W PySem.W.X PyProof.Rows
noncomputable section
namespace MyLaw
noncomputable def kh (P : Params) (x : String) : Int := PySem.PyData.keyHash P (Str.ofString x)
noncomputable def hsv (x : String) (t : Nat) : Value := .str (Str.ofString x) t
noncomputable def b3Sub (i n : Nat) : Obj := ⟨(.type "dict"), none, (.dict (b3Laid (351 + 51 * i) ((b3Tab.drop (17 * i)).take 17)).toArray n), #[]⟩
abbrev hLife : Life := ⟨[], [], [], 0, [], [], false, #[], [], 0, false, false, false, 0, [2000, 10, 10], false, 0, true, [], [], 0, false⟩
abbrev hDrawn : Drawn := ⟨0, 0, 0, 0⟩
noncomputable def hb0 : Params → Obj := fun P => ⟨(.type "dict"), none, (.dict #[⟨(kh P "__name__"), (hsv "__name__" 1), (hsv "builtins" 160)⟩, ⟨(kh P "__doc__"), (hsv "__doc__" 2), (.builtin "builtins.__doc__:str#opaque")⟩, ⟨(kh P "__package__"), (hsv "__package__" 3), (.builtin "builtins.__package__:str#opaque")⟩, ⟨(kh P "__loader__"), (hsv "__loader__" 4), (.builtin "builtins.__loader__:shared#opaque")⟩, ⟨(kh P "__spec__"), (hsv "__spec__" 5), (.builtin "builtins.__spec__#opaque")⟩, ⟨(kh P "__build_class__"), (hsv "__build_class__" 6), (.builtin "__build_class__")⟩, ⟨(kh P "__import__"), (hsv "__import__" 7), (.builtin "__import__")⟩, ⟨(kh P "abs"), (hsv "abs" 8), (.builtin "abs")⟩, ⟨(kh P "all"), (hsv "all" 9), (.builtin "all")⟩, ⟨(kh P "any"), (hsv "any" 10), (.builtin "any")⟩, ⟨(kh P "ascii"), (hsv "ascii" 11), (.builtin "ascii")⟩, ⟨(kh P "bin"), (hsv "bin" 12), (.builtin "bin")⟩, ⟨(kh P "breakpoint"), (hsv "breakpoint" 13), (.builtin "breakpoint")⟩, ⟨(kh P "callable"), (hsv "callable" 14), (.builtin "callable")⟩, ⟨(kh P "chr"), (hsv "chr" 15), (.builtin "chr")⟩, ⟨(kh P "compile"), (hsv "compile" 16), (.builtin "compile")⟩, ⟨(kh P "delattr"), (hsv "delattr" 17), (.builtin "delattr")⟩, ⟨(kh P "dir"), (hsv "dir" 18), (.builtin "dir")⟩, ⟨(kh P "divmod"), (hsv "divmod" 19), (.builtin "divmod")⟩, ⟨(kh P "eval"), (hsv "eval" 20), (.builtin "eval")⟩, ⟨(kh P "exec"), (hsv "exec" 21), (.builtin "exec")⟩, ⟨(kh P "format"), (hsv "format" 22), (.builtin "format")⟩, ⟨(kh P "getattr"), (hsv "getattr" 23), (.builtin "getattr")⟩, ⟨(kh P "globals"), (hsv "globals" 24), (.builtin "globals")⟩, ⟨(kh P "hasattr"), (hsv "hasattr" 25), (.builtin "hasattr")⟩, ⟨(kh P "hash"), (hsv "hash" 26), (.builtin "hash")⟩, ⟨(kh P "hex"), (hsv "hex" 27), (.builtin "hex")⟩, ⟨(kh P "id"), (hsv "id" 28), (.builtin "id")⟩, ⟨(kh P "input"), (hsv "input" 29), (.builtin "input")⟩, ⟨(kh P "isinstance"), (hsv "isinstance" 30), (.builtin "isinstance")⟩, ⟨(kh P "issubclass"), (hsv "issubclass" 31), (.builtin "issubclass")⟩, ⟨(kh P "iter"), (hsv "iter" 32), (.builtin "iter")⟩, ⟨(kh P "aiter"), (hsv "aiter" 33), (.builtin "aiter")⟩, ⟨(kh P "len"), (hsv "len" 34), (.builtin "len")⟩, ⟨(kh P "locals"), (hsv "locals" 35), (.builtin "locals")⟩, ⟨(kh P "max"), (hsv "max" 36), (.builtin "max")⟩, ⟨(kh P "min"), (hsv "min" 37), (.builtin "min")⟩, ⟨(kh P "next"), (hsv "next" 38), (.builtin "next")⟩, ⟨(kh P "anext"), (hsv "anext" 39), (.builtin "anext")⟩, ⟨(kh P "oct"), (hsv "oct" 40), (.builtin "oct")⟩, ⟨(kh P "ord"), (hsv "ord" 41), (.builtin "ord")⟩, ⟨(kh P "pow"), (hsv "pow" 42), (.builtin "pow")⟩, ⟨(kh P "print"), (hsv "print" 43), (.builtin "print")⟩, ⟨(kh P "repr"), (hsv "repr" 44), (.builtin "repr")⟩, ⟨(kh P "round"), (hsv "round" 45), (.builtin "round")⟩, ⟨(kh P "setattr"), (hsv "setattr" 46), (.builtin "setattr")⟩, ⟨(kh P "sorted"), (hsv "sorted" 47), (.builtin "sorted")⟩, ⟨(kh P "sum"), (hsv "sum" 48), (.builtin "sum")⟩, ⟨(kh P "vars"), (hsv "vars" 49), (.builtin "vars")⟩, ⟨(kh P "None"), (hsv "None" 50), .none⟩, ⟨(kh P "Ellipsis"), (hsv "Ellipsis" 51), .ellipsis⟩, ⟨(kh P "NotImplemented"), (hsv "NotImplemented" 52), .notImplemented⟩, ⟨(kh P "False"), (hsv "False" 53), (.bool false)⟩, ⟨(kh P "True"), (hsv "True" 54), (.bool true)⟩, ⟨(kh P "bool"), (hsv "bool" 55), (.type "bool")⟩, ⟨(kh P "memoryview"), (hsv "memoryview" 56), (.type "memoryview")⟩, ⟨(kh P "bytearray"), (hsv "bytearray" 57), (.type "bytearray")⟩, ⟨(kh P "bytes"), (hsv "bytes" 58), (.type "bytes")⟩, ⟨(kh P "classmethod"), (hsv "classmethod" 59), (.type "classmethod")⟩, ⟨(kh P "complex"), (hsv "complex" 60), (.type "complex")⟩, ⟨(kh P "dict"), (hsv "dict" 61), (.type "dict")⟩, ⟨(kh P "enumerate"), (hsv "enumerate" 62), (.type "enumerate")⟩, ⟨(kh P "filter"), (hsv "filter" 63), (.type "filter")⟩, ⟨(kh P "float"), (hsv "float" 64), (.type "float")⟩, ⟨(kh P "frozenset"), (hsv "frozenset" 65), (.type "frozenset")⟩, ⟨(kh P "property"), (hsv "property" 66), (.type "property")⟩, ⟨(kh P "int"), (hsv "int" 67), (.type "int")⟩, ⟨(kh P "list"), (hsv "list" 68), (.type "list")⟩, ⟨(kh P "map"), (hsv "map" 69), (.type "map")⟩, ⟨(kh P "object"), (hsv "object" 70), (.type "object")⟩, ⟨(kh P "range"), (hsv "range" 71), (.type "range")⟩, ⟨(kh P "reversed"), (hsv "reversed" 72), (.type "reversed")⟩, ⟨(kh P "set"), (hsv "set" 73), (.type "set")⟩, ⟨(kh P "slice"), (hsv "slice" 74), (.type "slice")⟩, ⟨(kh P "staticmethod"), (hsv "staticmethod" 75), (.type "staticmethod")⟩, ⟨(kh P "str"), (hsv "str" 76), (.type "str")⟩, ⟨(kh P "super"), (hsv "super" 77), (.type "super")⟩, ⟨(kh P "tuple"), (hsv "tuple" 78), (.type "tuple")⟩, ⟨(kh P "type"), (hsv "type" 79), (.type "type")⟩, ⟨(kh P "zip"), (hsv "zip" 80), (.type "zip")⟩, ⟨(kh P "__debug__"), (hsv "__debug__" 81), (.bool true)⟩, ⟨(kh P "BaseException"), (hsv "BaseException" 82), (.type "BaseException")⟩, ⟨(kh P "BaseExceptionGroup"), (hsv "BaseExceptionGroup" 83), (.type "BaseExceptionGroup")⟩, ⟨(kh P "Exception"), (hsv "Exception" 84), (.type "Exception")⟩, ⟨(kh P "GeneratorExit"), (hsv "GeneratorExit" 85), (.type "GeneratorExit")⟩, ⟨(kh P "KeyboardInterrupt"), (hsv "KeyboardInterrupt" 86), (.type "KeyboardInterrupt")⟩, ⟨(kh P "SystemExit"), (hsv "SystemExit" 87), (.type "SystemExit")⟩, ⟨(kh P "ArithmeticError"), (hsv "ArithmeticError" 88), (.type "ArithmeticError")⟩, ⟨(kh P "AssertionError"), (hsv "AssertionError" 89), (.type "AssertionError")⟩, ⟨(kh P "AttributeError"), (hsv "AttributeError" 90), (.type "AttributeError")⟩, ⟨(kh P "BufferError"), (hsv "BufferError" 91), (.type "BufferError")⟩, ⟨(kh P "EOFError"), (hsv "EOFError" 92), (.type "EOFError")⟩, ⟨(kh P "ImportError"), (hsv "ImportError" 93), (.type "ImportError")⟩, ⟨(kh P "LookupError"), (hsv "LookupError" 94), (.type "LookupError")⟩, ⟨(kh P "MemoryError"), (hsv "MemoryError" 95), (.type "MemoryError")⟩, ⟨(kh P "NameError"), (hsv "NameError" 96), (.type "NameError")⟩, ⟨(kh P "OSError"), (hsv "OSError" 97), (.type "OSError")⟩, ⟨(kh P "ReferenceError"), (hsv "ReferenceError" 98), (.type "ReferenceError")⟩, ⟨(kh P "RuntimeError"), (hsv "RuntimeError" 99), (.type "RuntimeError")⟩, ⟨(kh P "StopAsyncIteration"), (hsv "StopAsyncIteration" 100), (.type "StopAsyncIteration")⟩, ⟨(kh P "StopIteration"), (hsv "StopIteration" 101), (.type "StopIteration")⟩, ⟨(kh P "SyntaxError"), (hsv "SyntaxError" 102), (.type "SyntaxError")⟩, ⟨(kh P "SystemError"), (hsv "SystemError" 103), (.type "SystemError")⟩, ⟨(kh P "TypeError"), (hsv "TypeError" 104), (.type "TypeError")⟩, ⟨(kh P "ValueError"), (hsv "ValueError" 105), (.type "ValueError")⟩, ⟨(kh P "Warning"), (hsv "Warning" 106), (.type "Warning")⟩, ⟨(kh P "FloatingPointError"), (hsv "FloatingPointError" 107), (.type "FloatingPointError")⟩, ⟨(kh P "OverflowError"), (hsv "OverflowError" 108), (.type "OverflowError")⟩, ⟨(kh P "ZeroDivisionError"), (hsv "ZeroDivisionError" 109), (.type "ZeroDivisionError")⟩, ⟨(kh P "BytesWarning"), (hsv "BytesWarning" 110), (.type "BytesWarning")⟩, ⟨(kh P "DeprecationWarning"), (hsv "DeprecationWarning" 111), (.type "DeprecationWarning")⟩, ⟨(kh P "EncodingWarning"), (hsv "EncodingWarning" 112), (.type "EncodingWarning")⟩, ⟨(kh P "FutureWarning"), (hsv "FutureWarning" 113), (.type "FutureWarning")⟩, ⟨(kh P "ImportWarning"), (hsv "ImportWarning" 114), (.type "ImportWarning")⟩, ⟨(kh P "PendingDeprecationWarning"), (hsv "PendingDeprecationWarning" 115), (.type "PendingDeprecationWarning")⟩, ⟨(kh P "ResourceWarning"), (hsv "ResourceWarning" 116), (.type "ResourceWarning")⟩, ⟨(kh P "RuntimeWarning"), (hsv "RuntimeWarning" 117), (.type "RuntimeWarning")⟩, ⟨(kh P "SyntaxWarning"), (hsv "SyntaxWarning" 118), (.type "SyntaxWarning")⟩, ⟨(kh P "UnicodeWarning"), (hsv "UnicodeWarning" 119), (.type "UnicodeWarning")⟩, ⟨(kh P "UserWarning"), (hsv "UserWarning" 120), (.type "UserWarning")⟩, ⟨(kh P "BlockingIOError"), (hsv "BlockingIOError" 121), (.type "BlockingIOError")⟩, ⟨(kh P "ChildProcessError"), (hsv "ChildProcessError" 122), (.type "ChildProcessError")⟩, ⟨(kh P "ConnectionError"), (hsv "ConnectionError" 123), (.type "ConnectionError")⟩, ⟨(kh P "FileExistsError"), (hsv "FileExistsError" 124), (.type "FileExistsError")⟩, ⟨(kh P "FileNotFoundError"), (hsv "FileNotFoundError" 125), (.type "FileNotFoundError")⟩, ⟨(kh P "InterruptedError"), (hsv "InterruptedError" 126), (.type "InterruptedError")⟩, ⟨(kh P "IsADirectoryError"), (hsv "IsADirectoryError" 127), (.type "IsADirectoryError")⟩, ⟨(kh P "NotADirectoryError"), (hsv "NotADirectoryError" 128), (.type "NotADirectoryError")⟩, ⟨(kh P "PermissionError"), (hsv "PermissionError" 129), (.type "PermissionError")⟩, ⟨(kh P "ProcessLookupError"), (hsv "ProcessLookupError" 130), (.type "ProcessLookupError")⟩, ⟨(kh P "TimeoutError"), (hsv "TimeoutError" 131), (.type "TimeoutError")⟩, ⟨(kh P "IndentationError"), (hsv "IndentationError" 132), (.type "IndentationError")⟩, ⟨(kh P "_IncompleteInputError"), (hsv "_IncompleteInputError" 133), (.type "_IncompleteInputError")⟩, ⟨(kh P "IndexError"), (hsv "IndexError" 134), (.type "IndexError")⟩, ⟨(kh P "KeyError"), (hsv "KeyError" 135), (.type "KeyError")⟩, ⟨(kh P "ModuleNotFoundError"), (hsv "ModuleNotFoundError" 136), (.type "ModuleNotFoundError")⟩, ⟨(kh P "NotImplementedError"), (hsv "NotImplementedError" 137), (.type "NotImplementedError")⟩, ⟨(kh P "PythonFinalizationError"), (hsv "PythonFinalizationError" 138), (.type "PythonFinalizationError")⟩, ⟨(kh P "RecursionError"), (hsv "RecursionError" 139), (.type "RecursionError")⟩, ⟨(kh P "UnboundLocalError"), (hsv "UnboundLocalError" 140), (.type "UnboundLocalError")⟩, ⟨(kh P "UnicodeError"), (hsv "UnicodeError" 141), (.type "UnicodeError")⟩, ⟨(kh P "BrokenPipeError"), (hsv "BrokenPipeError" 142), (.type "BrokenPipeError")⟩, ⟨(kh P "ConnectionAbortedError"), (hsv "ConnectionAbortedError" 143), (.type "ConnectionAbortedError")⟩, ⟨(kh P "ConnectionRefusedError"), (hsv "ConnectionRefusedError" 144), (.type "ConnectionRefusedError")⟩, ⟨(kh P "ConnectionResetError"), (hsv "ConnectionResetError" 145), (.type "ConnectionResetError")⟩, ⟨(kh P "TabError"), (hsv "TabError" 146), (.type "TabError")⟩, ⟨(kh P "UnicodeDecodeError"), (hsv "UnicodeDecodeError" 147), (.type "UnicodeDecodeError")⟩, ⟨(kh P "UnicodeEncodeError"), (hsv "UnicodeEncodeError" 148), (.type "UnicodeEncodeError")⟩, ⟨(kh P "UnicodeTranslateError"), (hsv "UnicodeTranslateError" 149), (.type "UnicodeTranslateError")⟩, ⟨(kh P "ExceptionGroup"), (hsv "ExceptionGroup" 150), (.type "ExceptionGroup")⟩, ⟨(kh P "EnvironmentError"), (hsv "EnvironmentError" 151), (.type "OSError")⟩, ⟨(kh P "IOError"), (hsv "IOError" 152), (.type "OSError")⟩, ⟨(kh P "open"), (hsv "open" 153), (.builtin "open")⟩, ⟨(kh P "quit"), (hsv "quit" 154), (.builtin "builtins.quit#opaque")⟩, ⟨(kh P "exit"), (hsv "exit" 155), (.builtin "builtins.exit#opaque")⟩, ⟨(kh P "copyright"), (hsv "copyright" 156), (.builtin "builtins.copyright#opaque")⟩, ⟨(kh P "credits"), (hsv "credits" 157), (.builtin "builtins.credits#opaque")⟩, ⟨(kh P "license"), (hsv "license" 158), (.builtin "builtins.license#opaque")⟩, ⟨(kh P "help"), (hsv "help" 159), (.builtin "builtins.help#opaque")⟩] 159), #[]⟩
noncomputable def hb1 : Params → Obj := fun P => ⟨(.type "dict"), none, (.dict #[⟨(kh P "builtins"), (hsv "builtins" 162), (.ref 4)⟩, ⟨(kh P "__main__"), (hsv "__main__" 163), (.ref 5)⟩, ⟨(kh P "_sre"), (hsv "_sre" 244), (.ref 12)⟩] 3), #[]⟩
noncomputable def hb2 : Params → Obj := fun P => ⟨.none, none, (.dict #[⟨(kh P "\x69mport.loaded._sre"), (hsv "\x69mport.loaded._sre" 183), (.bool true)⟩, ⟨(kh P "class._frozen_importlib.BuiltinImporter"), (hsv "class._frozen_importlib.BuiltinImporter" 185), (.ref 14)⟩, ⟨(kh P "watched.\x69mport"), (hsv "watched.\x69mport" 206), (.ref 18)⟩, ⟨(kh P "class._frozen_importlib.ModuleSpec"), (hsv "class._frozen_importlib.ModuleSpec" 216), (.ref 22)⟩, ⟨(kh P "sys.modules.booked-epoch"), (hsv "sys.modules.booked-epoch" 245), (.int 3 0)⟩, ⟨(kh P "\x69mport.later-laid._sre"), (hsv "\x69mport.later-laid._sre" 270), (.bool true)⟩, ⟨(kh P "watched.library"), (hsv "watched.library" 272), (.ref 27)⟩, ⟨(kh P "watched.library-objects"), (hsv "watched.library-objects" 0), (hsv "\u000c" 0)⟩, ⟨(kh P "watched.library-deep._sre"), (hsv "watched.library-deep._sre" 273), (hsv "\u0004\u0000\u0000\u000b\u0004\u0000\u0000\u000b\u0004\u0000\u0000\u0003\u0004\u0000\u0000\u000b\u0008\u0004dict\u0002" 0)⟩] 9), #[]⟩
noncomputable def hb3 : Params → Obj := fun P => ⟨(.type "dict"), none, (.dict #[⟨(kh P "__name__"), (hsv "__name__" 165), (hsv "__main__" 164)⟩, ⟨(kh P "__doc__"), (hsv "__doc__" 166), .none⟩, ⟨(kh P "__package__"), (hsv "__package__" 167), .none⟩, ⟨(kh P "__loader__"), (hsv "__loader__" 168), (.builtin "__main__.__loader__#opaque")⟩, ⟨(kh P "__spec__"), (hsv "__spec__" 169), .none⟩, ⟨(kh P "__annotations__"), (hsv "__annotations__" 170), (.ref 6)⟩, ⟨(kh P "__builtins__"), (hsv "__builtins__" 171), (.ref 4)⟩, ⟨(kh P "__file__"), (hsv "__file__" 173), (hsv "/claim/cut.py" 172)⟩, ⟨(kh P "__cached__"), (hsv "__cached__" 174), .none⟩, ⟨(kh P "_sre"), (hsv "_sre" 275), (.ref 12)⟩] 10), #[]⟩
noncomputable def hb4 : Params → Obj := fun _ => ⟨(.type "module"), (some 0), .plain, #[]⟩
noncomputable def hb5 : Params → Obj := fun _ => ⟨(.type "module"), (some 3), .plain, #[]⟩
noncomputable def hb6 : Params → Obj := fun _ => ⟨(.type "dict"), none, (.dict #[] 0), #[]⟩
noncomputable def hb7 : Params → Obj := fun _ => ⟨(.type "tuple"), none, (.seq #[] 0), #[]⟩
noncomputable def hb8 : Params → Obj := fun _ => ⟨.none, none, (.fields #[]), #[]⟩
noncomputable def hb9 : Params → Obj := fun _ => ⟨(.type "code"), none, (.fields #[(hsv "<module>" 176), (hsv "<module>" 177), (hsv "/claim/cut.py" 178), (.int 1 0), (.int 0 0), (.int 0 0), (.int 0 0), (.int 0 0), (.ref 7), (.bool false), (.int 175 0), (.ref 8), .none, .none, .none, .none, (.int 179 0), (.int 1 0), (hsv "/claim/cut.py" 180)]), #[]⟩
noncomputable def hb10 : Params → Obj := fun _ => ⟨(.type "frame"), none, .plain, #[(some (.ref 9)), (some (.ref 3)), (some (.ref 3)), none, (some (hsv "__main__" 164)), none, (some (.ref 0))]⟩
noncomputable def hb11 : Params → Obj := fun P => ⟨(.type "dict"), none, (.dict #[⟨(kh P "__name__"), (hsv "__name__" 247), (hsv "_sre" 246)⟩, ⟨(kh P "__doc__"), (hsv "__doc__" 248), .none⟩, ⟨(kh P "__package__"), (hsv "__package__" 250), (hsv "" 249)⟩, ⟨(kh P "__loader__"), (hsv "__loader__" 251), (.builtin "off-the-table:_sre.__loader__:shared#opaque")⟩, ⟨(kh P "__spec__"), (hsv "__spec__" 252), (.builtin "off-the-table:_sre.__spec__:shared#opaque")⟩, ⟨(kh P "compile"), (hsv "compile" 253), (.builtin "_sre.compile")⟩, ⟨(kh P "template"), (hsv "template" 254), (.builtin "off-the-table:_sre.template:shared#opaque")⟩, ⟨(kh P "getcodesize"), (hsv "getcodesize" 255), (.builtin "off-the-table:_sre.getcodesize:shared#opaque")⟩, ⟨(kh P "ascii_iscased"), (hsv "ascii_iscased" 256), (.builtin "off-the-table:_sre.ascii_iscased:shared#opaque")⟩, ⟨(kh P "unicode_iscased"), (hsv "unicode_iscased" 257), (.builtin "off-the-table:_sre.unicode_iscased:shared#opaque")⟩, ⟨(kh P "ascii_tolower"), (hsv "ascii_tolower" 258), (.builtin "off-the-table:_sre.ascii_tolower:shared#opaque")⟩, ⟨(kh P "unicode_tolower"), (hsv "unicode_tolower" 259), (.builtin "off-the-table:_sre.unicode_tolower:shared#opaque")⟩, ⟨(kh P "MAGIC"), (hsv "MAGIC" 261), (.int 20230612 260)⟩, ⟨(kh P "CODESIZE"), (hsv "CODESIZE" 263), (.int 4 262)⟩, ⟨(kh P "MAXREPEAT"), (hsv "MAXREPEAT" 265), (.int 4294967295 264)⟩, ⟨(kh P "MAXGROUPS"), (hsv "MAXGROUPS" 267), (.int 1073741823 266)⟩, ⟨(kh P "copyright"), (hsv "copyright" 269), (hsv " SRE 2.2.2 Copyright (c) 1997-2002 by Secret Labs AB " 268)⟩] 17), #[]⟩
noncomputable def hb12 : Params → Obj := fun _ => ⟨(.type "module"), (some 11), .plain, #[]⟩
noncomputable def hb13 : Params → Obj := fun P => ⟨(.type "dict"), none, (.dict #[⟨(kh P "__module__"), (hsv "__module__" 189), (hsv "_frozen_importlib" 186)⟩, ⟨(kh P "__firstlineno__"), (hsv "__firstlineno__" 190), (.int 971 187)⟩, ⟨(kh P "__doc__"), (hsv "__doc__" 191), (.builtin "_frozen_importlib.BuiltinImporter.__doc__:str#opaque")⟩, ⟨(kh P "_ORIGIN"), (hsv "_ORIGIN" 192), (hsv "built-in" 188)⟩, ⟨(kh P "find_spec"), (hsv "find_spec" 193), (.builtin "_frozen_importlib.BuiltinImporter.find_spec#opaque")⟩, ⟨(kh P "create_module"), (hsv "create_module" 194), (.builtin "_frozen_importlib.BuiltinImporter.create_module#opaque")⟩, ⟨(kh P "exec_module"), (hsv "exec_module" 195), (.builtin "_frozen_importlib.BuiltinImporter.exec_module#opaque")⟩, ⟨(kh P "get_code"), (hsv "get_code" 196), (.builtin "_frozen_importlib.BuiltinImporter.get_code#opaque")⟩, ⟨(kh P "get_source"), (hsv "get_source" 197), (.builtin "_frozen_importlib.BuiltinImporter.get_source#opaque")⟩, ⟨(kh P "is_package"), (hsv "is_package" 198), (.builtin "_frozen_importlib.BuiltinImporter.is_package#opaque")⟩, ⟨(kh P "load_module"), (hsv "load_module" 199), (.builtin "_frozen_importlib.BuiltinImporter.load_module#opaque")⟩, ⟨(kh P "__static_attributes__"), (hsv "__static_attributes__" 200), (.ref 15)⟩, ⟨(kh P "__dict__"), (hsv "__dict__" 202), (.ref 16)⟩, ⟨(kh P "__weakref__"), (hsv "__weakref__" 204), (.ref 17)⟩] 14), #[]⟩
noncomputable def hb14 : Params → Obj := fun _ => ⟨(.type "type"), none, (.cls ⟨(Str.ofString "BuiltinImporter"), [(.type "object")], [(.ref 14), (.type "object")], 13, (Str.ofString "BuiltinImporter"), true, [], [], false, none, false⟩), #[]⟩
noncomputable def hb15 : Params → Obj := fun _ => ⟨(.type "tuple"), none, (.seq #[] 0), #[]⟩
noncomputable def hb16 : Params → Obj := fun _ => ⟨(.type "getset_descriptor"), none, (.fields #[(hsv "__dict__" 201), (.ref 14), (.builtin "function.__dict__"), (.builtin "function.__dict__#set")]), #[]⟩
noncomputable def hb17 : Params → Obj := fun _ => ⟨(.type "getset_descriptor"), none, (.fields #[(hsv "__weakref__" 203), (.ref 14), (.builtin "ExceptionGroup.__weakref__"), .none]), #[]⟩
noncomputable def hb18 : Params → Obj := fun _ => ⟨.none, none, (.seq #[(.int 13 0), (.str ⟨#[6,189,10,95,95,109,111,100,117,108,101,95,95,6,186,17,95,102,114,111,122,101,110,95,105,109,112,111,114,116,108,105,98,6,190,15,95,95,102,105,114,115,116,108,105,110,101,110,111,95,95,4,187,0,971,6,191,7,95,95,100,111,99,95,95,9,52,95,102,114,111,122,101,110,95,105,109,112,111,114,116,108,105,98,46,66,117,105,108,116,105,110,73,109,112,111,114,116,101,114,46,95,95,100,111,99,95,95,58,115,116,114,35,111,112,97,113,117,101,6,192,7,95,79,82,73,71,73,78,6,188,8,98,117,105,108,116,45,105,110,6,193,9,102,105,110,100,95,115,112,101,99,9,50,95,102,114,111,122,101,110,95,105,109,112,111,114,116,108,105,98,46,66,117,105,108,116,105,110,73,109,112,111,114,116,101,114,46,102,105,110,100,95,115,112,101,99,35,111,112,97,113,117,101,6,194,13,99,114,101,97,116,101,95,109,111,100,117,108,101,9,54,95,102,114,111,122,101,110,95,105,109,112,111,114,116,108,105,98,46,66,117,105,108,116,105,110,73,109,112,111,114,116,101,114,46,99,114,101,97,116,101,95,109,111,100,117,108,101,35,111,112,97,113,117,101,6,195,11,101,120,101,99,95,109,111,100,117,108,101,9,52,95,102,114,111,122,101,110,95,105,109,112,111,114,116,108,105,98,46,66,117,105,108,116,105,110,73,109,112,111,114,116,101,114,46,101,120,101,99,95,109,111,100,117,108,101,35,111,112,97,113,117,101,6,196,8,103,101,116,95,99,111,100,101,9,49,95,102,114,111,122,101,110,95,105,109,112,111,114,116,108,105,98,46,66,117,105,108,116,105,110,73,109,112,111,114,116,101,114,46,103,101,116,95,99,111,100,101,35,111,112,97,113,117,101,6,197,10,103,101,116,95,115,111,117,114,99,101,9,51,95,102,114,111,122,101,110,95,105,109,112,111,114,116,108,105,98,46,66,117,105,108,116,105,110,73,109,112,111,114,116,101,114,46,103,101,116,95,115,111,117,114,99,101,35,111,112,97,113,117,101,6,198,10,105,115,95,112,97,99,107,97,103,101,9,51,95,102,114,111,122,101,110,95,105,109,112,111,114,116,108,105,98,46,66,117,105,108,116,105,110,73,109,112,111,114,116,101,114,46,105,115,95,112,97,99,107,97,103,101,35,111,112,97,113,117,101,6,199,11,108,111,97,100,95,109,111,100,117,108,101,9,52,95,102,114,111,122,101,110,95,105,109,112,111,114,116,108,105,98,46,66,117,105,108,116,105,110,73,109,112,111,114,116,101,114,46,108,111,97,100,95,109,111,100,117,108,101,35,111,112,97,113,117,101,6,200,21,95,95,115,116,97,116,105,99,95,97,116,116,114,105,98,117,116,101,115,95,95,4,0,0,15,6,202,8,95,95,100,105,99,116,95,95,4,0,0,16,6,204,11,95,95,119,101,97,107,114,101,102,95,95,4,0,0,17]⟩ 0), (.bool true), (.bool true), (hsv "" 205), (.int 21 0), (.str ⟨#[6,227,10,95,95,109,111,100,117,108,101,95,95,6,217,17,95,102,114,111,122,101,110,95,105,109,112,111,114,116,108,105,98,6,228,15,95,95,102,105,114,115,116,108,105,110,101,110,111,95,95,4,218,0,562,6,229,7,95,95,100,111,99,95,95,9,47,95,102,114,111,122,101,110,95,105,109,112,111,114,116,108,105,98,46,77,111,100,117,108,101,83,112,101,99,46,95,95,100,111,99,95,95,58,115,116,114,35,111,112,97,113,117,101,6,230,8,95,95,105,110,105,116,95,95,9,44,95,102,114,111,122,101,110,95,105,109,112,111,114,116,108,105,98,46,77,111,100,117,108,101,83,112,101,99,46,95,95,105,110,105,116,95,95,35,111,112,97,113,117,101,6,231,8,95,95,114,101,112,114,95,95,9,44,95,102,114,111,122,101,110,95,105,109,112,111,114,116,108,105,98,46,77,111,100,117,108,101,83,112,101,99,46,95,95,114,101,112,114,95,95,35,111,112,97,113,117,101,6,232,6,95,95,101,113,95,95,9,42,95,102,114,111,122,101,110,95,105,109,112,111,114,116,108,105,98,46,77,111,100,117,108,101,83,112,101,99,46,95,95,101,113,95,95,35,111,112,97,113,117,101,6,233,6,99,97,99,104,101,100,9,42,95,102,114,111,122,101,110,95,105,109,112,111,114,116,108,105,98,46,77,111,100,117,108,101,83,112,101,99,46,99,97,99,104,101,100,35,111,112,97,113,117,101,6,234,6,112,97,114,101,110,116,9,42,95,102,114,111,122,101,110,95,105,109,112,111,114,116,108,105,98,46,77,111,100,117,108,101,83,112,101,99,46,112,97,114,101,110,116,35,111,112,97,113,117,101,6,235,12,104,97,115,95,108,111,99,97,116,105,111,110,9,48,95,102,114,111,122,101,110,95,105,109,112,111,114,116,108,105,98,46,77,111,100,117,108,101,83,112,101,99,46,104,97,115,95,108,111,99,97,116,105,111,110,35,111,112,97,113,117,101,6,236,21,95,95,115,116,97,116,105,99,95,97,116,116,114,105,98,117,116,101,115,95,95,4,0,0,23,6,238,8,95,95,100,105,99,116,95,95,4,0,0,24,6,240,11,95,95,119,101,97,107,114,101,102,95,95,4,0,0,25,6,241,8,95,95,104,97,115,104,95,95,0]⟩ 0), (.bool true), (.bool true), (hsv "" 242)] 1), #[]⟩
noncomputable def hb19 : Params → Obj := fun _ => ⟨(.type "list"), none, (.seq #[] 0), #[]⟩
noncomputable def hb20 : Params → Obj := fun P => ⟨(.type "dict"), none, (.dict #[⟨(kh P "name"), (hsv "name" 208), (hsv "_sre" 207)⟩, ⟨(kh P "loader"), (hsv "loader" 209), (.ref 14)⟩, ⟨(kh P "origin"), (hsv "origin" 210), (hsv "built-in" 184)⟩, ⟨(kh P "loader_state"), (hsv "loader_state" 211), .none⟩, ⟨(kh P "submodule_search_locations"), (hsv "submodule_search_locations" 212), .none⟩, ⟨(kh P "_uninitialized_submodules"), (hsv "_uninitialized_submodules" 213), (.ref 19)⟩, ⟨(kh P "_set_fileattr"), (hsv "_set_fileattr" 214), (.bool false)⟩, ⟨(kh P "_cached"), (hsv "_cached" 215), .none⟩, ⟨(kh P "_initializing"), (hsv "_initializing" 243), (.bool false)⟩] 9), #[]⟩
noncomputable def hb21 : Params → Obj := fun P => ⟨(.type "dict"), none, (.dict #[⟨(kh P "__module__"), (hsv "__module__" 227), (hsv "_frozen_importlib" 217)⟩, ⟨(kh P "__firstlineno__"), (hsv "__firstlineno__" 228), (.int 562 218)⟩, ⟨(kh P "__doc__"), (hsv "__doc__" 229), (.builtin "_frozen_importlib.ModuleSpec.__doc__:str#opaque")⟩, ⟨(kh P "__init__"), (hsv "__init__" 230), (.builtin "_frozen_importlib.ModuleSpec.__init__#opaque")⟩, ⟨(kh P "__repr__"), (hsv "__repr__" 231), (.builtin "_frozen_importlib.ModuleSpec.__repr__#opaque")⟩, ⟨(kh P "__eq__"), (hsv "__eq__" 232), (.builtin "_frozen_importlib.ModuleSpec.__eq__#opaque")⟩, ⟨(kh P "cached"), (hsv "cached" 233), (.builtin "_frozen_importlib.ModuleSpec.cached#opaque")⟩, ⟨(kh P "parent"), (hsv "parent" 234), (.builtin "_frozen_importlib.ModuleSpec.parent#opaque")⟩, ⟨(kh P "has_location"), (hsv "has_location" 235), (.builtin "_frozen_importlib.ModuleSpec.has_location#opaque")⟩, ⟨(kh P "__static_attributes__"), (hsv "__static_attributes__" 236), (.ref 23)⟩, ⟨(kh P "__dict__"), (hsv "__dict__" 238), (.ref 24)⟩, ⟨(kh P "__weakref__"), (hsv "__weakref__" 240), (.ref 25)⟩, ⟨(kh P "__hash__"), (hsv "__hash__" 241), .none⟩] 13), #[]⟩
noncomputable def hb22 : Params → Obj := fun _ => ⟨(.type "type"), none, (.cls ⟨(Str.ofString "ModuleSpec"), [(.type "object")], [(.ref 22), (.type "object")], 21, (Str.ofString "ModuleSpec"), true, [], [], false, none, false⟩), #[]⟩
noncomputable def hb23 : Params → Obj := fun _ => ⟨(.type "tuple"), none, (.seq #[(hsv "_cached" 219), (hsv "_set_fileattr" 220), (hsv "_uninitialized_submodules" 221), (hsv "loader" 222), (hsv "loader_state" 223), (hsv "name" 224), (hsv "origin" 225), (hsv "submodule_search_locations" 226)] 0), #[]⟩
noncomputable def hb24 : Params → Obj := fun _ => ⟨(.type "getset_descriptor"), none, (.fields #[(hsv "__dict__" 237), (.ref 22), (.builtin "function.__dict__"), (.builtin "function.__dict__#set")]), #[]⟩
noncomputable def hb25 : Params → Obj := fun _ => ⟨(.type "getset_descriptor"), none, (.fields #[(hsv "__weakref__" 239), (.ref 22), (.builtin "ExceptionGroup.__weakref__"), .none]), #[]⟩
noncomputable def hb26 : Params → Obj := fun _ => ⟨(.ref 22), (some 20), .plain, #[]⟩
noncomputable def hb27 : Params → Obj := fun _ => ⟨.none, none, (.seq #[(.int 11 0), (.str ⟨#[6, 247, 8, 95, 95, 110, 97, 109, 101, 95, 95, 6, 246, 4, 95, 115, 114, 101, 6, 248, 7, 95, 95, 100, 111, 99, 95, 95, 0, 6, 250, 11, 95, 95, 112, 97, 99, 107, 97, 103, 101, 95, 95, 6, 249, 0, 6, 251, 10, 95, 95, 108, 111, 97, 100, 101, 114, 95, 95, 4, 0, 0, 14, 6, 252, 8, 95, 95, 115, 112, 101, 99, 95, 95, 4, 0, 0, 26, 6, 253, 7, 99, 111, 109, 112, 105, 108, 101, 9, 12, 95, 115, 114, 101, 46, 99, 111, 109, 112, 105, 108, 101, 6, 254, 8, 116, 101, 109, 112, 108, 97, 116, 101, 9, 13, 95, 115, 114, 101, 46, 116, 101, 109, 112, 108, 97, 116, 101, 6, 255, 11, 103, 101, 116, 99, 111, 100, 101, 115, 105, 122, 101, 9, 16, 95, 115, 114, 101, 46, 103, 101, 116, 99, 111, 100, 101, 115, 105, 122, 101, 6, 256, 13, 97, 115, 99, 105, 105, 95, 105, 115, 99, 97, 115, 101, 100, 9, 18, 95, 115, 114, 101, 46, 97, 115, 99, 105, 105, 95, 105, 115, 99, 97, 115, 101, 100, 6, 257, 15, 117, 110, 105, 99, 111, 100, 101, 95, 105, 115, 99, 97, 115, 101, 100, 9, 20, 95, 115, 114, 101, 46, 117, 110, 105, 99, 111, 100, 101, 95, 105, 115, 99, 97, 115, 101, 100, 6, 258, 13, 97, 115, 99, 105, 105, 95, 116, 111, 108, 111, 119, 101, 114, 9, 18, 95, 115, 114, 101, 46, 97, 115, 99, 105, 105, 95, 116, 111, 108, 111, 119, 101, 114, 6, 259, 15, 117, 110, 105, 99, 111, 100, 101, 95, 116, 111, 108, 111, 119, 101, 114, 9, 20, 95, 115, 114, 101, 46, 117, 110, 105, 99, 111, 100, 101, 95, 116, 111, 108, 111, 119, 101, 114, 6, 261, 5, 77, 65, 71, 73, 67, 4, 260, 0, 20230612, 6, 263, 8, 67, 79, 68, 69, 83, 73, 90, 69, 4, 262, 0, 4, 6, 265, 9, 77, 65, 88, 82, 69, 80, 69, 65, 84, 4, 264, 0, 4294967295, 6, 267, 9, 77, 65, 88, 71, 82, 79, 85, 80, 83, 4, 266, 0, 1073741823, 6, 269, 9, 99, 111, 112, 121, 114, 105, 103, 104, 116, 6, 268, 53, 32, 83, 82, 69, 32, 50, 46, 50, 46, 50, 32, 67, 111, 112, 121, 114, 105, 103, 104, 116, 32, 40, 99, 41, 32, 49, 57, 57, 55, 45, 50, 48, 48, 50, 32, 98, 121, 32, 83, 101, 99, 114, 101, 116, 32, 76, 97, 98, 115, 32, 65, 66, 32]⟩ 0), (.bool true), (.bool false), (hsv "_sre" 271)] 0), #[]⟩
noncomputable def he11 : Params → Obj := fun P => ⟨(.type "dict"), none, (.dict #[⟨(kh P "__name__"), (hsv "__name__" 247), (hsv "_sre" 246)⟩, ⟨(kh P "__doc__"), (hsv "__doc__" 248), .none⟩, ⟨(kh P "__package__"), (hsv "__package__" 250), (hsv "" 249)⟩, ⟨(kh P "__loader__"), (hsv "__loader__" 251), (.ref 14)⟩, ⟨(kh P "__spec__"), (hsv "__spec__" 252), (.ref 26)⟩, ⟨(kh P "compile"), (hsv "compile" 253), (.builtin "_sre.compile")⟩, ⟨(kh P "template"), (hsv "template" 254), (.builtin "_sre.template")⟩, ⟨(kh P "getcodesize"), (hsv "getcodesize" 255), (.builtin "_sre.getcodesize")⟩, ⟨(kh P "ascii_iscased"), (hsv "ascii_iscased" 256), (.builtin "_sre.ascii_iscased")⟩, ⟨(kh P "unicode_iscased"), (hsv "unicode_iscased" 257), (.builtin "_sre.unicode_iscased")⟩, ⟨(kh P "ascii_tolower"), (hsv "ascii_tolower" 258), (.builtin "_sre.ascii_tolower")⟩, ⟨(kh P "unicode_tolower"), (hsv "unicode_tolower" 259), (.builtin "_sre.unicode_tolower")⟩, ⟨(kh P "MAGIC"), (hsv "MAGIC" 261), (.int 20230612 260)⟩, ⟨(kh P "CODESIZE"), (hsv "CODESIZE" 263), (.int 4 262)⟩, ⟨(kh P "MAXREPEAT"), (hsv "MAXREPEAT" 265), (.int 4294967295 264)⟩, ⟨(kh P "MAXGROUPS"), (hsv "MAXGROUPS" 267), (.int 1073741823 266)⟩, ⟨(kh P "copyright"), (hsv "copyright" 269), (hsv " SRE 2.2.2 Copyright (c) 1997-2002 by Secret Labs AB " 268)⟩] 17), #[]⟩
noncomputable def hEnd : Params → Heap := fun P => ⟨#[hb0 P, hb1 P, hb2 P, hb3 P, hb4 P, hb5 P, hb6 P, hb7 P, hb8 P, hb9 P, hb10 P, he11 P, hb12 P, hb13 P, hb14 P, hb15 P, hb16 P, hb17 P, hb18 P, hb19 P, hb20 P, hb21 P, hb22 P, hb23 P, hb24 P, hb25 P, hb26 P, hb27 P], hLife⟩
noncomputable def hS0 : Params → Heap := fun P => ⟨#[hb0 P, hb1 P, hb2 P, hb3 P, hb4 P, hb5 P, hb6 P, hb7 P, hb8 P, hb9 P, hb10 P, hb11 P, hb12 P, hb13 P, hb14 P, hb15 P, hb16 P, hb17 P, hb18 P, hb19 P, hb20 P, hb21 P, hb22 P, hb23 P, hb24 P, hb25 P, hb26 P, hb27 P], hLife⟩
noncomputable def ho28_pre : Params → Obj := fun _ => ⟨(.type "tuple"), none, (.seq #[] 0), #[]⟩
noncomputable def ho29_pre : Params → Obj := fun _ => ⟨.none, none, (.fields #[]), #[]⟩
noncomputable def ho30_pre : Params → Obj := fun _ => ⟨(.type "code"), none, (.fields #[(hsv "<module>" 277), (hsv "<module>" 278), (hsv "/claim/cut.py" 279), (.int 1 0), (.int 0 0), (.int 0 0), (.int 0 0), (.int 0 0), (.ref 28), (.bool false), (.int 276 0), (.ref 29), .none, .none, .none, .none, (.int 280 0), (.int 1 0), (hsv "/claim/cut.py" 281)]), #[]⟩
noncomputable def ho31_pre : Params → Obj := fun _ => ⟨(.type "frame"), none, .plain, #[(some (.ref 30)), (some (.ref 3)), (some (.ref 3)), none, (some (hsv "__main__" 164)), none, (some (.ref 0))]⟩
noncomputable def hPre : Params → Heap := fun P => ⟨#[hb0 P, hb1 P, hb2 P, hb3 P, hb4 P, hb5 P, hb6 P, hb7 P, hb8 P, hb9 P, hb10 P, hb11 P, hb12 P, hb13 P, hb14 P, hb15 P, hb16 P, hb17 P, hb18 P, hb19 P, hb20 P, hb21 P, hb22 P, hb23 P, hb24 P, hb25 P, hb26 P, hb27 P, ho28_pre P, ho29_pre P, ho30_pre P, ho31_pre P], hLife⟩
noncomputable def hT_block : Params → BT := fun P => (.node (hb0 P) (.node (hb1 P) (.node (hb3 P) (.node (hb7 P) (.node (hb15 P) (.node (ho31_pre P) .nil .nil) .nil) (.node (hb23 P) .nil .nil)) (.node (hb11 P) (.node (hb19 P) .nil .nil) (.node (hb27 P) .nil .nil))) (.node (hb5 P) (.node (hb9 P) (.node (hb17 P) .nil .nil) (.node (hb25 P) .nil .nil)) (.node (hb13 P) (.node (hb21 P) .nil .nil) (.node (ho29_pre P) .nil .nil)))) (.node (hb2 P) (.node (hb4 P) (.node (hb8 P) (.node (hb16 P) .nil .nil) (.node (hb24 P) .nil .nil)) (.node (hb12 P) (.node (hb20 P) .nil .nil) (.node (ho28_pre P) .nil .nil))) (.node (hb6 P) (.node (hb10 P) (.node (hb18 P) .nil .nil) (.node (hb26 P) .nil .nil)) (.node (hb14 P) (.node (hb22 P) .nil .nil) (.node (ho30_pre P) .nil .nil)))))
noncomputable def me_0 : Params → List DictEntry := fun P => [⟨(kh P "__name__"), (hsv "__name__" 165), (hsv "cpy313.stringprep" 282)⟩, ⟨(kh P "__doc__"), (hsv "__doc__" 166), .none⟩, ⟨(kh P "__package__"), (hsv "__package__" 167), .none⟩, ⟨(kh P "__loader__"), (hsv "__loader__" 168), (.builtin "__main__.__loader__#opaque")⟩, ⟨(kh P "__spec__"), (hsv "__spec__" 169), .none⟩, ⟨(kh P "__annotations__"), (hsv "__annotations__" 170), (.ref 6)⟩, ⟨(kh P "__builtins__"), (hsv "__builtins__" 171), (.ref 4)⟩, ⟨(kh P "__file__"), (hsv "__file__" 173), (hsv "/claim/cut.py" 172)⟩, ⟨(kh P "__cached__"), (hsv "__cached__" 174), .none⟩, ⟨(kh P "_sre"), (hsv "_sre" 275), (.ref 12)⟩]
noncomputable def ho3_0 : Params → Obj := fun P => ⟨(.type "dict"), none, (.dict (me_0 P).toArray 10), #[]⟩
noncomputable def hT_0 : Params → BT := fun P => (.node (hb0 P) (.node (hb1 P) (.node (ho3_0 P) (.node (hb7 P) (.node (hb15 P) (.node (ho31_pre P) .nil .nil) .nil) (.node (hb23 P) .nil .nil)) (.node (hb11 P) (.node (hb19 P) .nil .nil) (.node (hb27 P) .nil .nil))) (.node (hb5 P) (.node (hb9 P) (.node (hb17 P) .nil .nil) (.node (hb25 P) .nil .nil)) (.node (hb13 P) (.node (hb21 P) .nil .nil) (.node (ho29_pre P) .nil .nil)))) (.node (hb2 P) (.node (hb4 P) (.node (hb8 P) (.node (hb16 P) .nil .nil) (.node (hb24 P) .nil .nil)) (.node (hb12 P) (.node (hb20 P) .nil .nil) (.node (ho28_pre P) .nil .nil))) (.node (hb6 P) (.node (hb10 P) (.node (hb18 P) .nil .nil) (.node (hb26 P) .nil .nil)) (.node (hb14 P) (.node (hb22 P) .nil .nil) (.node (ho30_pre P) .nil .nil)))))
noncomputable def me_1 : Params → List DictEntry := fun P => me_0 P ++ [⟨(kh P "b1_set"), (hsv "b1_set" 343), (.ref 39)⟩]
noncomputable def ho3_1 : Params → Obj := fun P => ⟨(.type "dict"), none, (.dict (me_1 P).toArray 11), #[]⟩
noncomputable def ho32_1 : Params → Obj := fun _ => ⟨(.type "list"), none, (.seq #[(.int 173 284), (.int 847 285), (.int 6150 286), (.int 6155 287), (.int 6156 288), (.int 6157 289), (.int 8203 290), (.int 8204 291), (.int 8205 292), (.int 8288 293), (.int 65279 294)] 0), #[]⟩
noncomputable def ho33_1 : Params → Obj := fun _ => ⟨(.type "range"), none, (.fields #[(.int 65024 295), (.int 65040 296), (.int 1 297)]), #[]⟩
noncomputable def ho34_1 : Params → Obj := fun _ => ⟨(.type "list"), none, (.seq #[(.int 65024 300), (.int 65025 301), (.int 65026 302), (.int 65027 303), (.int 65028 304), (.int 65029 305), (.int 65030 306), (.int 65031 307), (.int 65032 308), (.int 65033 309), (.int 65034 310), (.int 65035 311), (.int 65036 312), (.int 65037 313), (.int 65038 314), (.int 65039 315)] 18), #[]⟩
noncomputable def ho35_1 : Params → Obj := fun _ => ⟨(.type "range_iterator"), none, (.fields #[(.int 65040 0), (.int 0 0), (.int 1 0)]), #[]⟩
noncomputable def ho36_1 : Params → Obj := fun _ => ⟨(.type "tuple"), none, (.seq #[] 0), #[]⟩
noncomputable def ho37_1 : Params → Obj := fun _ => ⟨(.type "StopIteration"), none, (.fields #[(.ref 36), .none, .none, .none, (.bool false), .none]), #[]⟩
noncomputable def ho38_1 : Params → Obj := fun _ => ⟨(.type "list"), none, (.seq #[(.int 173 284), (.int 847 285), (.int 6150 286), (.int 6155 287), (.int 6156 288), (.int 6157 289), (.int 8203 290), (.int 8204 291), (.int 8205 292), (.int 8288 293), (.int 65279 294), (.int 65024 300), (.int 65025 301), (.int 65026 302), (.int 65027 303), (.int 65028 304), (.int 65029 305), (.int 65030 306), (.int 65031 307), (.int 65032 308), (.int 65033 309), (.int 65034 310), (.int 65035 311), (.int 65036 312), (.int 65037 313), (.int 65038 314), (.int 65039 315)] 0), #[]⟩
noncomputable def ho39_1 : Params → Obj := fun P => ⟨(.type "set"), none, (.set #[(65024, (.int 65024 300)), (65025, (.int 65025 301)), (65026, (.int 65026 302)), (65027, (.int 65027 303)), (65028, (.int 65028 304)), (65029, (.int 65029 305)), (6150, (.int 6150 286)), (65030, (.int 65030 306)), (65031, (.int 65031 307)), (65032, (.int 65032 308)), (65033, (.int 65033 309)), (6155, (.int 6155 287)), (6156, (.int 6156 288)), (6157, (.int 6157 289)), (8203, (.int 8203 290)), (8204, (.int 8204 291)), (8205, (.int 8205 292)), (65034, (.int 65034 310)), (65035, (.int 65035 311)), (65036, (.int 65036 312)), (65037, (.int 65037 313)), (65038, (.int 65038 314)), (65039, (.int 65039 315)), (173, (.int 173 284)), (847, (.int 847 285)), (8288, (.int 8288 293)), (65279, (.int 65279 294))] 29 ⟨127, #[0, 1, 2, 3, 4, 5, 6, 7, 8, 9, 10, 11, 12, 13, 14, 15, 16, 17, 18, 19, 20, 21, 22, 45, 79, 96, 127], #[], 0, (Bool.not (PySem.Params.followText P "set-order")), 2, true⟩), #[]⟩
noncomputable def ho40_1 : Params → Obj := fun _ => ⟨(.type "list_iterator"), none, (.fields #[.none, (.int 27 0)]), #[]⟩
noncomputable def ho41_1 : Params → Obj := fun _ => ⟨(.type "tuple"), none, (.seq #[] 0), #[]⟩
noncomputable def ho42_1 : Params → Obj := fun _ => ⟨(.type "StopIteration"), none, (.fields #[(.ref 41), .none, .none, .none, (.bool false), .none]), #[]⟩
noncomputable def hT_1 : Params → BT := fun P => (.node (hb0 P) (.node (hb1 P) (.node (ho3_1 P) (.node (hb7 P) (.node (hb15 P) (.node (ho31_pre P) .nil .nil) .nil) (.node (hb23 P) (.node (ho39_1 P) .nil .nil) .nil)) (.node (hb11 P) (.node (hb19 P) (.node (ho35_1 P) .nil .nil) .nil) (.node (hb27 P) .nil .nil))) (.node (hb5 P) (.node (hb9 P) (.node (hb17 P) (.node (ho33_1 P) .nil .nil) .nil) (.node (hb25 P) (.node (ho41_1 P) .nil .nil) .nil)) (.node (hb13 P) (.node (hb21 P) (.node (ho37_1 P) .nil .nil) .nil) (.node (ho29_pre P) .nil .nil)))) (.node (hb2 P) (.node (hb4 P) (.node (hb8 P) (.node (hb16 P) (.node (ho32_1 P) .nil .nil) .nil) (.node (hb24 P) (.node (ho40_1 P) .nil .nil) .nil)) (.node (hb12 P) (.node (hb20 P) (.node (ho36_1 P) .nil .nil) .nil) (.node (ho28_pre P) .nil .nil))) (.node (hb6 P) (.node (hb10 P) (.node (hb18 P) (.node (ho34_1 P) .nil .nil) .nil) (.node (hb26 P) (.node (ho42_1 P) .nil .nil) .nil)) (.node (hb14 P) (.node (hb22 P) (.node (ho38_1 P) .nil .nil) .nil) (.node (ho30_pre P) .nil .nil)))))
noncomputable def me_2 : Params → List DictEntry := fun P => me_1 P ++ [⟨(kh P "in_table_b1"), (hsv "in_table_b1" 350), (.ref 49)⟩]
noncomputable def ho3_2 : Params → Obj := fun P => ⟨(.type "dict"), none, (.dict (me_2 P).toArray 12), #[]⟩
noncomputable def ho29_2 : Params → Obj := fun _ => ⟨.none, none, (.fields #[(.int 4 0), (.int 0 0), (.ref 48)]), #[]⟩
noncomputable def ho43_2 : Params → Obj := fun _ => ⟨(.type "tuple"), none, (.seq #[] 0), #[]⟩
noncomputable def ho44_2 : Params → Obj := fun _ => ⟨.none, none, (.fields #[]), #[]⟩
noncomputable def ho45_2 : Params → Obj := fun _ => ⟨(.type "tuple"), none, (.seq #[(hsv "code" 347)] 0), #[]⟩
noncomputable def ho46_2 : Params → Obj := fun _ => ⟨(.type "tuple"), none, (.seq #[] 0), #[]⟩
noncomputable def ho47_2 : Params → Obj := fun _ => ⟨.none, none, (.func ⟨(Str.ofString "in_table_b1"), (Str.ofString "in_table_b1"), q3.1.1, (.stmts q3.1.2.1), q3.1.2.2, 0, [], .none, .none, .none, .none, none, .none, .none, 0⟩), #[]⟩
noncomputable def ho48_2 : Params → Obj := fun _ => ⟨(.type "code"), none, (.fields #[(hsv "in_table_b1" 344), (hsv "in_table_b1" 345), (hsv "/claim/cut.py" 346), (.int 4 0), (.int 1 0), (.int 0 0), (.int 0 0), (.int 3 0), (.ref 43), (.bool true), (.int 276 0), (.ref 44), .none, (.ref 45), (.ref 46), (.ref 47), (.int 348 0), (.int 4 0), (hsv "/claim/cut.py" 349)]), #[]⟩
noncomputable def ho49_2 : Params → Obj := fun _ => ⟨(.type "function"), none, (.func ⟨(Str.ofString "in_table_b1"), (Str.ofString "in_table_b1"), q3.1.1, (.stmts q3.1.2.1), q3.1.2.2, 3, [], .none, .none, .none, (hsv "cpy313.stringprep" 282), none, (.ref 48), .none, 0⟩), #[]⟩
noncomputable def hT_2 : Params → BT := fun P => (.node (hb0 P) (.node (hb1 P) (.node (ho3_2 P) (.node (hb7 P) (.node (hb15 P) (.node (ho31_pre P) .nil .nil) (.node (ho47_2 P) .nil .nil)) (.node (hb23 P) (.node (ho39_1 P) .nil .nil) .nil)) (.node (hb11 P) (.node (hb19 P) (.node (ho35_1 P) .nil .nil) .nil) (.node (hb27 P) (.node (ho43_2 P) .nil .nil) .nil))) (.node (hb5 P) (.node (hb9 P) (.node (hb17 P) (.node (ho33_1 P) .nil .nil) (.node (ho49_2 P) .nil .nil)) (.node (hb25 P) (.node (ho41_1 P) .nil .nil) .nil)) (.node (hb13 P) (.node (hb21 P) (.node (ho37_1 P) .nil .nil) .nil) (.node (ho29_2 P) (.node (ho45_2 P) .nil .nil) .nil)))) (.node (hb2 P) (.node (hb4 P) (.node (hb8 P) (.node (hb16 P) (.node (ho32_1 P) .nil .nil) (.node (ho48_2 P) .nil .nil)) (.node (hb24 P) (.node (ho40_1 P) .nil .nil) .nil)) (.node (hb12 P) (.node (hb20 P) (.node (ho36_1 P) .nil .nil) .nil) (.node (ho28_pre P) (.node (ho44_2 P) .nil .nil) .nil))) (.node (hb6 P) (.node (hb10 P) (.node (hb18 P) (.node (ho34_1 P) .nil .nil) .nil) (.node (hb26 P) (.node (ho42_1 P) .nil .nil) .nil)) (.node (hb14 P) (.node (hb22 P) (.node (ho38_1 P) .nil .nil) .nil) (.node (ho30_pre P) (.node (ho46_2 P) .nil .nil) .nil)))))
noncomputable def me_3 : Params → List DictEntry := fun P => me_2 P ++ [⟨(kh P "b3_exceptions"), (hsv "b3_exceptions" 2301), (.ref 50)⟩]
noncomputable def ho3_3 : Params → Obj := fun P => ⟨(.type "dict"), none, (.dict (me_3 P).toArray 13), #[]⟩
noncomputable def ho50_3 : Params → Obj := fun _ => ⟨(.type "dict"), none, (.dict b3Es 650), #[]⟩
noncomputable def ho51_3 : Params → Obj := fun _ => b3Sub 1 17
noncomputable def ho52_3 : Params → Obj := fun _ => b3Sub 2 17
noncomputable def ho53_3 : Params → Obj := fun _ => b3Sub 3 17
noncomputable def ho54_3 : Params → Obj := fun _ => b3Sub 4 17
noncomputable def ho55_3 : Params → Obj := fun _ => b3Sub 5 17
noncomputable def ho56_3 : Params → Obj := fun _ => b3Sub 6 17
noncomputable def ho57_3 : Params → Obj := fun _ => b3Sub 7 17
noncomputable def ho58_3 : Params → Obj := fun _ => b3Sub 8 17
noncomputable def ho59_3 : Params → Obj := fun _ => b3Sub 9 17
noncomputable def ho60_3 : Params → Obj := fun _ => b3Sub 10 17
noncomputable def ho61_3 : Params → Obj := fun _ => b3Sub 11 17
noncomputable def ho62_3 : Params → Obj := fun _ => b3Sub 12 17
noncomputable def ho63_3 : Params → Obj := fun _ => b3Sub 13 17
noncomputable def ho64_3 : Params → Obj := fun _ => b3Sub 14 17
noncomputable def ho65_3 : Params → Obj := fun _ => b3Sub 15 17
noncomputable def ho66_3 : Params → Obj := fun _ => b3Sub 16 17
noncomputable def ho67_3 : Params → Obj := fun _ => b3Sub 17 17
noncomputable def ho68_3 : Params → Obj := fun _ => b3Sub 18 17
noncomputable def ho69_3 : Params → Obj := fun _ => b3Sub 19 17
noncomputable def ho70_3 : Params → Obj := fun _ => b3Sub 20 17
noncomputable def ho71_3 : Params → Obj := fun _ => b3Sub 21 17
noncomputable def ho72_3 : Params → Obj := fun _ => b3Sub 22 17
noncomputable def ho73_3 : Params → Obj := fun _ => b3Sub 23 17
noncomputable def ho74_3 : Params → Obj := fun _ => b3Sub 24 17
noncomputable def ho75_3 : Params → Obj := fun _ => b3Sub 25 17
noncomputable def ho76_3 : Params → Obj := fun _ => b3Sub 26 17
noncomputable def ho77_3 : Params → Obj := fun _ => b3Sub 27 17
noncomputable def ho78_3 : Params → Obj := fun _ => b3Sub 28 17
noncomputable def ho79_3 : Params → Obj := fun _ => b3Sub 29 17
noncomputable def ho80_3 : Params → Obj := fun _ => b3Sub 30 17
noncomputable def ho81_3 : Params → Obj := fun _ => b3Sub 31 17
noncomputable def ho82_3 : Params → Obj := fun _ => b3Sub 32 17
noncomputable def ho83_3 : Params → Obj := fun _ => b3Sub 33 17
noncomputable def ho84_3 : Params → Obj := fun _ => b3Sub 34 17
noncomputable def ho85_3 : Params → Obj := fun _ => b3Sub 35 17
noncomputable def ho86_3 : Params → Obj := fun _ => b3Sub 36 17
noncomputable def ho87_3 : Params → Obj := fun _ => b3Sub 37 17
noncomputable def ho88_3 : Params → Obj := fun _ => b3Sub 38 4
noncomputable def hT_3 : Params → BT := fun P => (.node (hb0 P) (.node (hb1 P) (.node (ho3_3 P) (.node (hb7 P) (.node (hb15 P) (.node (ho31_pre P) (.node (ho63_3 P) .nil .nil) .nil) (.node (ho47_2 P) (.node (ho79_3 P) .nil .nil) .nil)) (.node (hb23 P) (.node (ho39_1 P) (.node (ho71_3 P) .nil .nil) .nil) (.node (ho55_3 P) (.node (ho87_3 P) .nil .nil) .nil))) (.node (hb11 P) (.node (hb19 P) (.node (ho35_1 P) (.node (ho67_3 P) .nil .nil) .nil) (.node (ho51_3 P) (.node (ho83_3 P) .nil .nil) .nil)) (.node (hb27 P) (.node (ho43_2 P) (.node (ho75_3 P) .nil .nil) .nil) (.node (ho59_3 P) .nil .nil)))) (.node (hb5 P) (.node (hb9 P) (.node (hb17 P) (.node (ho33_1 P) (.node (ho65_3 P) .nil .nil) .nil) (.node (ho49_2 P) (.node (ho81_3 P) .nil .nil) .nil)) (.node (hb25 P) (.node (ho41_1 P) (.node (ho73_3 P) .nil .nil) .nil) (.node (ho57_3 P) .nil .nil))) (.node (hb13 P) (.node (hb21 P) (.node (ho37_1 P) (.node (ho69_3 P) .nil .nil) .nil) (.node (ho53_3 P) (.node (ho85_3 P) .nil .nil) .nil)) (.node (ho29_2 P) (.node (ho45_2 P) (.node (ho77_3 P) .nil .nil) .nil) (.node (ho61_3 P) .nil .nil))))) (.node (hb2 P) (.node (hb4 P) (.node (hb8 P) (.node (hb16 P) (.node (ho32_1 P) (.node (ho64_3 P) .nil .nil) .nil) (.node (ho48_2 P) (.node (ho80_3 P) .nil .nil) .nil)) (.node (hb24 P) (.node (ho40_1 P) (.node (ho72_3 P) .nil .nil) .nil) (.node (ho56_3 P) (.node (ho88_3 P) .nil .nil) .nil))) (.node (hb12 P) (.node (hb20 P) (.node (ho36_1 P) (.node (ho68_3 P) .nil .nil) .nil) (.node (ho52_3 P) (.node (ho84_3 P) .nil .nil) .nil)) (.node (ho28_pre P) (.node (ho44_2 P) (.node (ho76_3 P) .nil .nil) .nil) (.node (ho60_3 P) .nil .nil)))) (.node (hb6 P) (.node (hb10 P) (.node (hb18 P) (.node (ho34_1 P) (.node (ho66_3 P) .nil .nil) .nil) (.node (ho50_3 P) (.node (ho82_3 P) .nil .nil) .nil)) (.node (hb26 P) (.node (ho42_1 P) (.node (ho74_3 P) .nil .nil) .nil) (.node (ho58_3 P) .nil .nil))) (.node (hb14 P) (.node (hb22 P) (.node (ho38_1 P) (.node (ho70_3 P) .nil .nil) .nil) (.node (ho54_3 P) (.node (ho86_3 P) .nil .nil) .nil)) (.node (ho30_pre P) (.node (ho46_2 P) (.node (ho78_3 P) .nil .nil) .nil) (.node (ho62_3 P) .nil .nil))))))
noncomputable def hT_3d : Params → BT := fun P => (.node (hb0 P) (.node (hb1 P) (.node (ho3_2 P) (.node (hb7 P) (.node (hb15 P) (.node (ho31_pre P) (.node (ho63_3 P) .nil .nil) .nil) (.node (ho47_2 P) (.node (ho79_3 P) .nil .nil) .nil)) (.node (hb23 P) (.node (ho39_1 P) (.node (ho71_3 P) .nil .nil) .nil) (.node (ho55_3 P) (.node (ho87_3 P) .nil .nil) .nil))) (.node (hb11 P) (.node (hb19 P) (.node (ho35_1 P) (.node (ho67_3 P) .nil .nil) .nil) (.node (ho51_3 P) (.node (ho83_3 P) .nil .nil) .nil)) (.node (hb27 P) (.node (ho43_2 P) (.node (ho75_3 P) .nil .nil) .nil) (.node (ho59_3 P) .nil .nil)))) (.node (hb5 P) (.node (hb9 P) (.node (hb17 P) (.node (ho33_1 P) (.node (ho65_3 P) .nil .nil) .nil) (.node (ho49_2 P) (.node (ho81_3 P) .nil .nil) .nil)) (.node (hb25 P) (.node (ho41_1 P) (.node (ho73_3 P) .nil .nil) .nil) (.node (ho57_3 P) .nil .nil))) (.node (hb13 P) (.node (hb21 P) (.node (ho37_1 P) (.node (ho69_3 P) .nil .nil) .nil) (.node (ho53_3 P) (.node (ho85_3 P) .nil .nil) .nil)) (.node (ho29_2 P) (.node (ho45_2 P) (.node (ho77_3 P) .nil .nil) .nil) (.node (ho61_3 P) .nil .nil))))) (.node (hb2 P) (.node (hb4 P) (.node (hb8 P) (.node (hb16 P) (.node (ho32_1 P) (.node (ho64_3 P) .nil .nil) .nil) (.node (ho48_2 P) (.node (ho80_3 P) .nil .nil) .nil)) (.node (hb24 P) (.node (ho40_1 P) (.node (ho72_3 P) .nil .nil) .nil) (.node (ho56_3 P) (.node (ho88_3 P) .nil .nil) .nil))) (.node (hb12 P) (.node (hb20 P) (.node (ho36_1 P) (.node (ho68_3 P) .nil .nil) .nil) (.node (ho52_3 P) (.node (ho84_3 P) .nil .nil) .nil)) (.node (ho28_pre P) (.node (ho44_2 P) (.node (ho76_3 P) .nil .nil) .nil) (.node (ho60_3 P) .nil .nil)))) (.node (hb6 P) (.node (hb10 P) (.node (hb18 P) (.node (ho34_1 P) (.node (ho66_3 P) .nil .nil) .nil) (.node (ho50_3 P) (.node (ho82_3 P) .nil .nil) .nil)) (.node (hb26 P) (.node (ho42_1 P) (.node (ho74_3 P) .nil .nil) .nil) (.node (ho58_3 P) .nil .nil))) (.node (hb14 P) (.node (hb22 P) (.node (ho38_1 P) (.node (ho70_3 P) .nil .nil) .nil) (.node (ho54_3 P) (.node (ho86_3 P) .nil .nil) .nil)) (.node (ho30_pre P) (.node (ho46_2 P) (.node (ho78_3 P) .nil .nil) .nil) (.node (ho62_3 P) .nil .nil))))))
noncomputable def me_4 : Params → List DictEntry := fun P => me_3 P ++ [⟨(kh P "map_table_b3"), (hsv "map_table_b3" 2309), (.ref 95)⟩]
noncomputable def ho3_4 : Params → Obj := fun P => ⟨(.type "dict"), none, (.dict (me_4 P).toArray 14), #[]⟩
noncomputable def ho29_4 : Params → Obj := fun _ => ⟨.none, none, (.fields #[(.int 4 0), (.int 0 0), (.ref 48), (.int 7 0), (.int 0 0), (.ref 94)]), #[]⟩
noncomputable def ho89_4 : Params → Obj := fun _ => ⟨(.type "tuple"), none, (.seq #[] 0), #[]⟩
noncomputable def ho90_4 : Params → Obj := fun _ => ⟨.none, none, (.fields #[]), #[]⟩
noncomputable def ho91_4 : Params → Obj := fun _ => ⟨(.type "tuple"), none, (.seq #[(hsv "code" 2305), (hsv "r" 2306)] 0), #[]⟩
noncomputable def ho92_4 : Params → Obj := fun _ => ⟨(.type "tuple"), none, (.seq #[] 0), #[]⟩
noncomputable def ho93_4 : Params → Obj := fun _ => ⟨.none, none, (.func ⟨(Str.ofString "map_table_b3"), (Str.ofString "map_table_b3"), q5.1.1, (.stmts q5.1.2.1), q5.1.2.2, 0, [], .none, .none, .none, .none, none, .none, .none, 0⟩), #[]⟩
noncomputable def ho94_4 : Params → Obj := fun _ => ⟨(.type "code"), none, (.fields #[(hsv "map_table_b3" 2302), (hsv "map_table_b3" 2303), (hsv "/claim/cut.py" 2304), (.int 7 0), (.int 1 0), (.int 0 0), (.int 0 0), (.int 3 0), (.ref 89), (.bool true), (.int 276 0), (.ref 90), .none, (.ref 91), (.ref 92), (.ref 93), (.int 2307 0), (.int 7 0), (hsv "/claim/cut.py" 2308)]), #[]⟩
noncomputable def ho95_4 : Params → Obj := fun _ => ⟨(.type "function"), none, (.func ⟨(Str.ofString "map_table_b3"), (Str.ofString "map_table_b3"), q5.1.1, (.stmts q5.1.2.1), q5.1.2.2, 3, [], .none, .none, .none, (hsv "cpy313.stringprep" 282), none, (.ref 94), .none, 0⟩), #[]⟩
noncomputable def hT_4 : Params → BT := fun P => (.node (hb0 P) (.node (hb1 P) (.node (ho3_4 P) (.node (hb7 P) (.node (hb15 P) (.node (ho31_pre P) (.node (ho63_3 P) .nil .nil) (.node (ho95_4 P) .nil .nil)) (.node (ho47_2 P) (.node (ho79_3 P) .nil .nil) .nil)) (.node (hb23 P) (.node (ho39_1 P) (.node (ho71_3 P) .nil .nil) .nil) (.node (ho55_3 P) (.node (ho87_3 P) .nil .nil) .nil))) (.node (hb11 P) (.node (hb19 P) (.node (ho35_1 P) (.node (ho67_3 P) .nil .nil) .nil) (.node (ho51_3 P) (.node (ho83_3 P) .nil .nil) .nil)) (.node (hb27 P) (.node (ho43_2 P) (.node (ho75_3 P) .nil .nil) .nil) (.node (ho59_3 P) (.node (ho91_4 P) .nil .nil) .nil)))) (.node (hb5 P) (.node (hb9 P) (.node (hb17 P) (.node (ho33_1 P) (.node (ho65_3 P) .nil .nil) .nil) (.node (ho49_2 P) (.node (ho81_3 P) .nil .nil) .nil)) (.node (hb25 P) (.node (ho41_1 P) (.node (ho73_3 P) .nil .nil) .nil) (.node (ho57_3 P) (.node (ho89_4 P) .nil .nil) .nil))) (.node (hb13 P) (.node (hb21 P) (.node (ho37_1 P) (.node (ho69_3 P) .nil .nil) .nil) (.node (ho53_3 P) (.node (ho85_3 P) .nil .nil) .nil)) (.node (ho29_4 P) (.node (ho45_2 P) (.node (ho77_3 P) .nil .nil) .nil) (.node (ho61_3 P) (.node (ho93_4 P) .nil .nil) .nil))))) (.node (hb2 P) (.node (hb4 P) (.node (hb8 P) (.node (hb16 P) (.node (ho32_1 P) (.node (ho64_3 P) .nil .nil) .nil) (.node (ho48_2 P) (.node (ho80_3 P) .nil .nil) .nil)) (.node (hb24 P) (.node (ho40_1 P) (.node (ho72_3 P) .nil .nil) .nil) (.node (ho56_3 P) (.node (ho88_3 P) .nil .nil) .nil))) (.node (hb12 P) (.node (hb20 P) (.node (ho36_1 P) (.node (ho68_3 P) .nil .nil) .nil) (.node (ho52_3 P) (.node (ho84_3 P) .nil .nil) .nil)) (.node (ho28_pre P) (.node (ho44_2 P) (.node (ho76_3 P) .nil .nil) .nil) (.node (ho60_3 P) (.node (ho92_4 P) .nil .nil) .nil)))) (.node (hb6 P) (.node (hb10 P) (.node (hb18 P) (.node (ho34_1 P) (.node (ho66_3 P) .nil .nil) .nil) (.node (ho50_3 P) (.node (ho82_3 P) .nil .nil) .nil)) (.node (hb26 P) (.node (ho42_1 P) (.node (ho74_3 P) .nil .nil) .nil) (.node (ho58_3 P) (.node (ho90_4 P) .nil .nil) .nil))) (.node (hb14 P) (.node (hb22 P) (.node (ho38_1 P) (.node (ho70_3 P) .nil .nil) .nil) (.node (ho54_3 P) (.node (ho86_3 P) .nil .nil) .nil)) (.node (ho30_pre P) (.node (ho46_2 P) (.node (ho78_3 P) .nil .nil) .nil) (.node (ho62_3 P) (.node (ho94_4 P) .nil .nil) .nil))))))
noncomputable def me_5 : Params → List DictEntry := fun P => (me_4 P).set 0 ⟨(kh P "__name__"), (hsv "__name__" 165), (hsv "cpy313.operator" 2310)⟩
noncomputable def ho3_5 : Params → Obj := fun P => ⟨(.type "dict"), none, (.dict (me_5 P).toArray 14), #[]⟩
noncomputable def hT_5 : Params → BT := fun P => (.node (hb0 P) (.node (hb1 P) (.node (ho3_5 P) (.node (hb7 P) (.node (hb15 P) (.node (ho31_pre P) (.node (ho63_3 P) .nil .nil) (.node (ho95_4 P) .nil .nil)) (.node (ho47_2 P) (.node (ho79_3 P) .nil .nil) .nil)) (.node (hb23 P) (.node (ho39_1 P) (.node (ho71_3 P) .nil .nil) .nil) (.node (ho55_3 P) (.node (ho87_3 P) .nil .nil) .nil))) (.node (hb11 P) (.node (hb19 P) (.node (ho35_1 P) (.node (ho67_3 P) .nil .nil) .nil) (.node (ho51_3 P) (.node (ho83_3 P) .nil .nil) .nil)) (.node (hb27 P) (.node (ho43_2 P) (.node (ho75_3 P) .nil .nil) .nil) (.node (ho59_3 P) (.node (ho91_4 P) .nil .nil) .nil)))) (.node (hb5 P) (.node (hb9 P) (.node (hb17 P) (.node (ho33_1 P) (.node (ho65_3 P) .nil .nil) .nil) (.node (ho49_2 P) (.node (ho81_3 P) .nil .nil) .nil)) (.node (hb25 P) (.node (ho41_1 P) (.node (ho73_3 P) .nil .nil) .nil) (.node (ho57_3 P) (.node (ho89_4 P) .nil .nil) .nil))) (.node (hb13 P) (.node (hb21 P) (.node (ho37_1 P) (.node (ho69_3 P) .nil .nil) .nil) (.node (ho53_3 P) (.node (ho85_3 P) .nil .nil) .nil)) (.node (ho29_4 P) (.node (ho45_2 P) (.node (ho77_3 P) .nil .nil) .nil) (.node (ho61_3 P) (.node (ho93_4 P) .nil .nil) .nil))))) (.node (hb2 P) (.node (hb4 P) (.node (hb8 P) (.node (hb16 P) (.node (ho32_1 P) (.node (ho64_3 P) .nil .nil) .nil) (.node (ho48_2 P) (.node (ho80_3 P) .nil .nil) .nil)) (.node (hb24 P) (.node (ho40_1 P) (.node (ho72_3 P) .nil .nil) .nil) (.node (ho56_3 P) (.node (ho88_3 P) .nil .nil) .nil))) (.node (hb12 P) (.node (hb20 P) (.node (ho36_1 P) (.node (ho68_3 P) .nil .nil) .nil) (.node (ho52_3 P) (.node (ho84_3 P) .nil .nil) .nil)) (.node (ho28_pre P) (.node (ho44_2 P) (.node (ho76_3 P) .nil .nil) .nil) (.node (ho60_3 P) (.node (ho92_4 P) .nil .nil) .nil)))) (.node (hb6 P) (.node (hb10 P) (.node (hb18 P) (.node (ho34_1 P) (.node (ho66_3 P) .nil .nil) .nil) (.node (ho50_3 P) (.node (ho82_3 P) .nil .nil) .nil)) (.node (hb26 P) (.node (ho42_1 P) (.node (ho74_3 P) .nil .nil) .nil) (.node (ho58_3 P) (.node (ho90_4 P) .nil .nil) .nil))) (.node (hb14 P) (.node (hb22 P) (.node (ho38_1 P) (.node (ho70_3 P) .nil .nil) .nil) (.node (ho54_3 P) (.node (ho86_3 P) .nil .nil) .nil)) (.node (ho30_pre P) (.node (ho46_2 P) (.node (ho78_3 P) .nil .nil) .nil) (.node (ho62_3 P) (.node (ho94_4 P) .nil .nil) .nil))))))
noncomputable def me_6 : Params → List DictEntry := fun P => me_5 P ++ [⟨(kh P "add"), (hsv "add" 2319), (.ref 102)⟩]
noncomputable def ho3_6 : Params → Obj := fun P => ⟨(.type "dict"), none, (.dict (me_6 P).toArray 15), #[]⟩
noncomputable def ho29_6 : Params → Obj := fun _ => ⟨.none, none, (.fields #[(.int 4 0), (.int 0 0), (.ref 48), (.int 7 0), (.int 0 0), (.ref 94), (.int 13 0), (.int 0 0), (.ref 101)]), #[]⟩
noncomputable def ho96_6 : Params → Obj := fun _ => ⟨(.type "tuple"), none, (.seq #[] 0), #[]⟩
noncomputable def ho97_6 : Params → Obj := fun _ => ⟨.none, none, (.fields #[]), #[]⟩
noncomputable def ho98_6 : Params → Obj := fun _ => ⟨(.type "tuple"), none, (.seq #[(hsv "a" 2315), (hsv "b" 2316)] 0), #[]⟩
noncomputable def ho99_6 : Params → Obj := fun _ => ⟨(.type "tuple"), none, (.seq #[] 0), #[]⟩
noncomputable def ho100_6 : Params → Obj := fun _ => ⟨.none, none, (.func ⟨(Str.ofString "add"), (Str.ofString "add"), q7.1.1, (.stmts q7.1.2.1), q11.1.2.2, 0, [], .none, .none, .none, .none, none, .none, .none, 0⟩), #[]⟩
noncomputable def ho101_6 : Params → Obj := fun _ => ⟨(.type "code"), none, (.fields #[(hsv "add" 2312), (hsv "add" 2313), (hsv "/claim/cut.py" 2314), (.int 13 0), (.int 2 0), (.int 0 0), (.int 0 0), (.int 3 0), (.ref 96), (.bool true), (.int 276 0), (.ref 97), .none, (.ref 98), (.ref 99), (.ref 100), (.int 2317 0), (.int 13 0), (hsv "/claim/cut.py" 2318)]), #[]⟩
noncomputable def ho102_6 : Params → Obj := fun _ => ⟨(.type "function"), none, (.func ⟨(Str.ofString "add"), (Str.ofString "add"), q7.1.1, (.stmts q7.1.2.1), q11.1.2.2, 3, [], .none, .none, .none, (hsv "cpy313.operator" 2310), none, (.ref 101), .none, 0⟩), #[]⟩
noncomputable def hT_6 : Params → BT := fun P => (.node (hb0 P) (.node (hb1 P) (.node (ho3_6 P) (.node (hb7 P) (.node (hb15 P) (.node (ho31_pre P) (.node (ho63_3 P) .nil .nil) (.node (ho95_4 P) .nil .nil)) (.node (ho47_2 P) (.node (ho79_3 P) .nil .nil) .nil)) (.node (hb23 P) (.node (ho39_1 P) (.node (ho71_3 P) .nil .nil) .nil) (.node (ho55_3 P) (.node (ho87_3 P) .nil .nil) .nil))) (.node (hb11 P) (.node (hb19 P) (.node (ho35_1 P) (.node (ho67_3 P) .nil .nil) (.node (ho99_6 P) .nil .nil)) (.node (ho51_3 P) (.node (ho83_3 P) .nil .nil) .nil)) (.node (hb27 P) (.node (ho43_2 P) (.node (ho75_3 P) .nil .nil) .nil) (.node (ho59_3 P) (.node (ho91_4 P) .nil .nil) .nil)))) (.node (hb5 P) (.node (hb9 P) (.node (hb17 P) (.node (ho33_1 P) (.node (ho65_3 P) .nil .nil) (.node (ho97_6 P) .nil .nil)) (.node (ho49_2 P) (.node (ho81_3 P) .nil .nil) .nil)) (.node (hb25 P) (.node (ho41_1 P) (.node (ho73_3 P) .nil .nil) .nil) (.node (ho57_3 P) (.node (ho89_4 P) .nil .nil) .nil))) (.node (hb13 P) (.node (hb21 P) (.node (ho37_1 P) (.node (ho69_3 P) .nil .nil) (.node (ho101_6 P) .nil .nil)) (.node (ho53_3 P) (.node (ho85_3 P) .nil .nil) .nil)) (.node (ho29_6 P) (.node (ho45_2 P) (.node (ho77_3 P) .nil .nil) .nil) (.node (ho61_3 P) (.node (ho93_4 P) .nil .nil) .nil))))) (.node (hb2 P) (.node (hb4 P) (.node (hb8 P) (.node (hb16 P) (.node (ho32_1 P) (.node (ho64_3 P) .nil .nil) (.node (ho96_6 P) .nil .nil)) (.node (ho48_2 P) (.node (ho80_3 P) .nil .nil) .nil)) (.node (hb24 P) (.node (ho40_1 P) (.node (ho72_3 P) .nil .nil) .nil) (.node (ho56_3 P) (.node (ho88_3 P) .nil .nil) .nil))) (.node (hb12 P) (.node (hb20 P) (.node (ho36_1 P) (.node (ho68_3 P) .nil .nil) (.node (ho100_6 P) .nil .nil)) (.node (ho52_3 P) (.node (ho84_3 P) .nil .nil) .nil)) (.node (ho28_pre P) (.node (ho44_2 P) (.node (ho76_3 P) .nil .nil) .nil) (.node (ho60_3 P) (.node (ho92_4 P) .nil .nil) .nil)))) (.node (hb6 P) (.node (hb10 P) (.node (hb18 P) (.node (ho34_1 P) (.node (ho66_3 P) .nil .nil) (.node (ho98_6 P) .nil .nil)) (.node (ho50_3 P) (.node (ho82_3 P) .nil .nil) .nil)) (.node (hb26 P) (.node (ho42_1 P) (.node (ho74_3 P) .nil .nil) .nil) (.node (ho58_3 P) (.node (ho90_4 P) .nil .nil) .nil))) (.node (hb14 P) (.node (hb22 P) (.node (ho38_1 P) (.node (ho70_3 P) .nil .nil) (.node (ho102_6 P) .nil .nil)) (.node (ho54_3 P) (.node (ho86_3 P) .nil .nil) .nil)) (.node (ho30_pre P) (.node (ho46_2 P) (.node (ho78_3 P) .nil .nil) .nil) (.node (ho62_3 P) (.node (ho94_4 P) .nil .nil) .nil))))))
noncomputable def me_7 : Params → List DictEntry := fun P => me_6 P ++ [⟨(kh P "mul"), (hsv "mul" 2327), (.ref 109)⟩]
noncomputable def ho3_7 : Params → Obj := fun P => ⟨(.type "dict"), none, (.dict (me_7 P).toArray 16), #[]⟩
noncomputable def ho29_7 : Params → Obj := fun _ => ⟨.none, none, (.fields #[(.int 4 0), (.int 0 0), (.ref 48), (.int 7 0), (.int 0 0), (.ref 94), (.int 13 0), (.int 0 0), (.ref 101), (.int 15 0), (.int 0 0), (.ref 108)]), #[]⟩
noncomputable def ho103_7 : Params → Obj := fun _ => ⟨(.type "tuple"), none, (.seq #[] 0), #[]⟩
noncomputable def ho104_7 : Params → Obj := fun _ => ⟨.none, none, (.fields #[]), #[]⟩
noncomputable def ho105_7 : Params → Obj := fun _ => ⟨(.type "tuple"), none, (.seq #[(hsv "a" 2323), (hsv "b" 2324)] 0), #[]⟩
noncomputable def ho106_7 : Params → Obj := fun _ => ⟨(.type "tuple"), none, (.seq #[] 0), #[]⟩
noncomputable def ho107_7 : Params → Obj := fun _ => ⟨.none, none, (.func ⟨(Str.ofString "mul"), (Str.ofString "mul"), q8.1.1, (.stmts q8.1.2.1), q11.1.2.2, 0, [], .none, .none, .none, .none, none, .none, .none, 0⟩), #[]⟩
noncomputable def ho108_7 : Params → Obj := fun _ => ⟨(.type "code"), none, (.fields #[(hsv "mul" 2320), (hsv "mul" 2321), (hsv "/claim/cut.py" 2322), (.int 15 0), (.int 2 0), (.int 0 0), (.int 0 0), (.int 3 0), (.ref 103), (.bool true), (.int 276 0), (.ref 104), .none, (.ref 105), (.ref 106), (.ref 107), (.int 2325 0), (.int 15 0), (hsv "/claim/cut.py" 2326)]), #[]⟩
noncomputable def ho109_7 : Params → Obj := fun _ => ⟨(.type "function"), none, (.func ⟨(Str.ofString "mul"), (Str.ofString "mul"), q8.1.1, (.stmts q8.1.2.1), q11.1.2.2, 3, [], .none, .none, .none, (hsv "cpy313.operator" 2310), none, (.ref 108), .none, 0⟩), #[]⟩
noncomputable def hT_7 : Params → BT := fun P => (.node (hb0 P) (.node (hb1 P) (.node (ho3_7 P) (.node (hb7 P) (.node (hb15 P) (.node (ho31_pre P) (.node (ho63_3 P) .nil .nil) (.node (ho95_4 P) .nil .nil)) (.node (ho47_2 P) (.node (ho79_3 P) .nil .nil) .nil)) (.node (hb23 P) (.node (ho39_1 P) (.node (ho71_3 P) .nil .nil) (.node (ho103_7 P) .nil .nil)) (.node (ho55_3 P) (.node (ho87_3 P) .nil .nil) .nil))) (.node (hb11 P) (.node (hb19 P) (.node (ho35_1 P) (.node (ho67_3 P) .nil .nil) (.node (ho99_6 P) .nil .nil)) (.node (ho51_3 P) (.node (ho83_3 P) .nil .nil) .nil)) (.node (hb27 P) (.node (ho43_2 P) (.node (ho75_3 P) .nil .nil) (.node (ho107_7 P) .nil .nil)) (.node (ho59_3 P) (.node (ho91_4 P) .nil .nil) .nil)))) (.node (hb5 P) (.node (hb9 P) (.node (hb17 P) (.node (ho33_1 P) (.node (ho65_3 P) .nil .nil) (.node (ho97_6 P) .nil .nil)) (.node (ho49_2 P) (.node (ho81_3 P) .nil .nil) .nil)) (.node (hb25 P) (.node (ho41_1 P) (.node (ho73_3 P) .nil .nil) (.node (ho105_7 P) .nil .nil)) (.node (ho57_3 P) (.node (ho89_4 P) .nil .nil) .nil))) (.node (hb13 P) (.node (hb21 P) (.node (ho37_1 P) (.node (ho69_3 P) .nil .nil) (.node (ho101_6 P) .nil .nil)) (.node (ho53_3 P) (.node (ho85_3 P) .nil .nil) .nil)) (.node (ho29_7 P) (.node (ho45_2 P) (.node (ho77_3 P) .nil .nil) (.node (ho109_7 P) .nil .nil)) (.node (ho61_3 P) (.node (ho93_4 P) .nil .nil) .nil))))) (.node (hb2 P) (.node (hb4 P) (.node (hb8 P) (.node (hb16 P) (.node (ho32_1 P) (.node (ho64_3 P) .nil .nil) (.node (ho96_6 P) .nil .nil)) (.node (ho48_2 P) (.node (ho80_3 P) .nil .nil) .nil)) (.node (hb24 P) (.node (ho40_1 P) (.node (ho72_3 P) .nil .nil) (.node (ho104_7 P) .nil .nil)) (.node (ho56_3 P) (.node (ho88_3 P) .nil .nil) .nil))) (.node (hb12 P) (.node (hb20 P) (.node (ho36_1 P) (.node (ho68_3 P) .nil .nil) (.node (ho100_6 P) .nil .nil)) (.node (ho52_3 P) (.node (ho84_3 P) .nil .nil) .nil)) (.node (ho28_pre P) (.node (ho44_2 P) (.node (ho76_3 P) .nil .nil) (.node (ho108_7 P) .nil .nil)) (.node (ho60_3 P) (.node (ho92_4 P) .nil .nil) .nil)))) (.node (hb6 P) (.node (hb10 P) (.node (hb18 P) (.node (ho34_1 P) (.node (ho66_3 P) .nil .nil) (.node (ho98_6 P) .nil .nil)) (.node (ho50_3 P) (.node (ho82_3 P) .nil .nil) .nil)) (.node (hb26 P) (.node (ho42_1 P) (.node (ho74_3 P) .nil .nil) (.node (ho106_7 P) .nil .nil)) (.node (ho58_3 P) (.node (ho90_4 P) .nil .nil) .nil))) (.node (hb14 P) (.node (hb22 P) (.node (ho38_1 P) (.node (ho70_3 P) .nil .nil) (.node (ho102_6 P) .nil .nil)) (.node (ho54_3 P) (.node (ho86_3 P) .nil .nil) .nil)) (.node (ho30_pre P) (.node (ho46_2 P) (.node (ho78_3 P) .nil .nil) .nil) (.node (ho62_3 P) (.node (ho94_4 P) .nil .nil) .nil))))))
noncomputable def me_8 : Params → List DictEntry := fun P => me_7 P ++ [⟨(kh P "sub"), (hsv "sub" 2335), (.ref 116)⟩]
noncomputable def ho3_8 : Params → Obj := fun P => ⟨(.type "dict"), none, (.dict (me_8 P).toArray 17), #[]⟩
noncomputable def ho29_8 : Params → Obj := fun _ => ⟨.none, none, (.fields #[(.int 4 0), (.int 0 0), (.ref 48), (.int 7 0), (.int 0 0), (.ref 94), (.int 13 0), (.int 0 0), (.ref 101), (.int 15 0), (.int 0 0), (.ref 108), (.int 17 0), (.int 0 0), (.ref 115)]), #[]⟩
noncomputable def ho110_8 : Params → Obj := fun _ => ⟨(.type "tuple"), none, (.seq #[] 0), #[]⟩
noncomputable def ho111_8 : Params → Obj := fun _ => ⟨.none, none, (.fields #[]), #[]⟩
noncomputable def ho112_8 : Params → Obj := fun _ => ⟨(.type "tuple"), none, (.seq #[(hsv "a" 2331), (hsv "b" 2332)] 0), #[]⟩
noncomputable def ho113_8 : Params → Obj := fun _ => ⟨(.type "tuple"), none, (.seq #[] 0), #[]⟩
noncomputable def ho114_8 : Params → Obj := fun _ => ⟨.none, none, (.func ⟨(Str.ofString "sub"), (Str.ofString "sub"), q9.1.1, (.stmts q9.1.2.1), q11.1.2.2, 0, [], .none, .none, .none, .none, none, .none, .none, 0⟩), #[]⟩
noncomputable def ho115_8 : Params → Obj := fun _ => ⟨(.type "code"), none, (.fields #[(hsv "sub" 2328), (hsv "sub" 2329), (hsv "/claim/cut.py" 2330), (.int 17 0), (.int 2 0), (.int 0 0), (.int 0 0), (.int 3 0), (.ref 110), (.bool true), (.int 276 0), (.ref 111), .none, (.ref 112), (.ref 113), (.ref 114), (.int 2333 0), (.int 17 0), (hsv "/claim/cut.py" 2334)]), #[]⟩
noncomputable def ho116_8 : Params → Obj := fun _ => ⟨(.type "function"), none, (.func ⟨(Str.ofString "sub"), (Str.ofString "sub"), q9.1.1, (.stmts q9.1.2.1), q11.1.2.2, 3, [], .none, .none, .none, (hsv "cpy313.operator" 2310), none, (.ref 115), .none, 0⟩), #[]⟩
noncomputable def hT_8 : Params → BT := fun P => (.node (hb0 P) (.node (hb1 P) (.node (ho3_8 P) (.node (hb7 P) (.node (hb15 P) (.node (ho31_pre P) (.node (ho63_3 P) .nil .nil) (.node (ho95_4 P) .nil .nil)) (.node (ho47_2 P) (.node (ho79_3 P) .nil .nil) (.node (ho111_8 P) .nil .nil))) (.node (hb23 P) (.node (ho39_1 P) (.node (ho71_3 P) .nil .nil) (.node (ho103_7 P) .nil .nil)) (.node (ho55_3 P) (.node (ho87_3 P) .nil .nil) .nil))) (.node (hb11 P) (.node (hb19 P) (.node (ho35_1 P) (.node (ho67_3 P) .nil .nil) (.node (ho99_6 P) .nil .nil)) (.node (ho51_3 P) (.node (ho83_3 P) .nil .nil) (.node (ho115_8 P) .nil .nil))) (.node (hb27 P) (.node (ho43_2 P) (.node (ho75_3 P) .nil .nil) (.node (ho107_7 P) .nil .nil)) (.node (ho59_3 P) (.node (ho91_4 P) .nil .nil) .nil)))) (.node (hb5 P) (.node (hb9 P) (.node (hb17 P) (.node (ho33_1 P) (.node (ho65_3 P) .nil .nil) (.node (ho97_6 P) .nil .nil)) (.node (ho49_2 P) (.node (ho81_3 P) .nil .nil) (.node (ho113_8 P) .nil .nil))) (.node (hb25 P) (.node (ho41_1 P) (.node (ho73_3 P) .nil .nil) (.node (ho105_7 P) .nil .nil)) (.node (ho57_3 P) (.node (ho89_4 P) .nil .nil) .nil))) (.node (hb13 P) (.node (hb21 P) (.node (ho37_1 P) (.node (ho69_3 P) .nil .nil) (.node (ho101_6 P) .nil .nil)) (.node (ho53_3 P) (.node (ho85_3 P) .nil .nil) .nil)) (.node (ho29_8 P) (.node (ho45_2 P) (.node (ho77_3 P) .nil .nil) (.node (ho109_7 P) .nil .nil)) (.node (ho61_3 P) (.node (ho93_4 P) .nil .nil) .nil))))) (.node (hb2 P) (.node (hb4 P) (.node (hb8 P) (.node (hb16 P) (.node (ho32_1 P) (.node (ho64_3 P) .nil .nil) (.node (ho96_6 P) .nil .nil)) (.node (ho48_2 P) (.node (ho80_3 P) .nil .nil) (.node (ho112_8 P) .nil .nil))) (.node (hb24 P) (.node (ho40_1 P) (.node (ho72_3 P) .nil .nil) (.node (ho104_7 P) .nil .nil)) (.node (ho56_3 P) (.node (ho88_3 P) .nil .nil) .nil))) (.node (hb12 P) (.node (hb20 P) (.node (ho36_1 P) (.node (ho68_3 P) .nil .nil) (.node (ho100_6 P) .nil .nil)) (.node (ho52_3 P) (.node (ho84_3 P) .nil .nil) (.node (ho116_8 P) .nil .nil))) (.node (ho28_pre P) (.node (ho44_2 P) (.node (ho76_3 P) .nil .nil) (.node (ho108_7 P) .nil .nil)) (.node (ho60_3 P) (.node (ho92_4 P) .nil .nil) .nil)))) (.node (hb6 P) (.node (hb10 P) (.node (hb18 P) (.node (ho34_1 P) (.node (ho66_3 P) .nil .nil) (.node (ho98_6 P) .nil .nil)) (.node (ho50_3 P) (.node (ho82_3 P) .nil .nil) (.node (ho114_8 P) .nil .nil))) (.node (hb26 P) (.node (ho42_1 P) (.node (ho74_3 P) .nil .nil) (.node (ho106_7 P) .nil .nil)) (.node (ho58_3 P) (.node (ho90_4 P) .nil .nil) .nil))) (.node (hb14 P) (.node (hb22 P) (.node (ho38_1 P) (.node (ho70_3 P) .nil .nil) (.node (ho102_6 P) .nil .nil)) (.node (ho54_3 P) (.node (ho86_3 P) .nil .nil) .nil)) (.node (ho30_pre P) (.node (ho46_2 P) (.node (ho78_3 P) .nil .nil) (.node (ho110_8 P) .nil .nil)) (.node (ho62_3 P) (.node (ho94_4 P) .nil .nil) .nil))))))
noncomputable def me_9 : Params → List DictEntry := fun P => me_8 P ++ [⟨(kh P "indexOf"), (hsv "indexOf" 2345), (.ref 123)⟩]
noncomputable def ho3_9 : Params → Obj := fun P => ⟨(.type "dict"), none, (.dict (me_9 P).toArray 18), #[]⟩
noncomputable def ho29_9 : Params → Obj := fun _ => ⟨.none, none, (.fields #[(.int 4 0), (.int 0 0), (.ref 48), (.int 7 0), (.int 0 0), (.ref 94), (.int 13 0), (.int 0 0), (.ref 101), (.int 15 0), (.int 0 0), (.ref 108), (.int 17 0), (.int 0 0), (.ref 115), (.int 19 0), (.int 0 0), (.ref 122)]), #[]⟩
noncomputable def ho117_9 : Params → Obj := fun _ => ⟨(.type "tuple"), none, (.seq #[] 0), #[]⟩
noncomputable def ho118_9 : Params → Obj := fun _ => ⟨.none, none, (.fields #[]), #[]⟩
noncomputable def ho119_9 : Params → Obj := fun _ => ⟨(.type "tuple"), none, (.seq #[(hsv "a" 2339), (hsv "b" 2340), (hsv "i" 2341), (hsv "j" 2342)] 0), #[]⟩
noncomputable def ho120_9 : Params → Obj := fun _ => ⟨(.type "tuple"), none, (.seq #[] 0), #[]⟩
noncomputable def ho121_9 : Params → Obj := fun _ => ⟨.none, none, (.func ⟨(Str.ofString "indexOf"), (Str.ofString "indexOf"), q10.1.1, (.stmts q10.1.2.1), q10.1.2.2, 0, [], .none, .none, .none, .none, none, .none, .none, 0⟩), #[]⟩
noncomputable def ho122_9 : Params → Obj := fun _ => ⟨(.type "code"), none, (.fields #[(hsv "indexOf" 2336), (hsv "indexOf" 2337), (hsv "/claim/cut.py" 2338), (.int 19 0), (.int 2 0), (.int 0 0), (.int 0 0), (.int 3 0), (.ref 117), (.bool true), (.int 276 0), (.ref 118), .none, (.ref 119), (.ref 120), (.ref 121), (.int 2343 0), (.int 19 0), (hsv "/claim/cut.py" 2344)]), #[]⟩
noncomputable def ho123_9 : Params → Obj := fun _ => ⟨(.type "function"), none, (.func ⟨(Str.ofString "indexOf"), (Str.ofString "indexOf"), q10.1.1, (.stmts q10.1.2.1), q10.1.2.2, 3, [], .none, .none, .none, (hsv "cpy313.operator" 2310), none, (.ref 122), .none, 0⟩), #[]⟩
noncomputable def hT_9 : Params → BT := fun P => (.node (hb0 P) (.node (hb1 P) (.node (ho3_9 P) (.node (hb7 P) (.node (hb15 P) (.node (ho31_pre P) (.node (ho63_3 P) .nil .nil) (.node (ho95_4 P) .nil .nil)) (.node (ho47_2 P) (.node (ho79_3 P) .nil .nil) (.node (ho111_8 P) .nil .nil))) (.node (hb23 P) (.node (ho39_1 P) (.node (ho71_3 P) .nil .nil) (.node (ho103_7 P) .nil .nil)) (.node (ho55_3 P) (.node (ho87_3 P) .nil .nil) (.node (ho119_9 P) .nil .nil)))) (.node (hb11 P) (.node (hb19 P) (.node (ho35_1 P) (.node (ho67_3 P) .nil .nil) (.node (ho99_6 P) .nil .nil)) (.node (ho51_3 P) (.node (ho83_3 P) .nil .nil) (.node (ho115_8 P) .nil .nil))) (.node (hb27 P) (.node (ho43_2 P) (.node (ho75_3 P) .nil .nil) (.node (ho107_7 P) .nil .nil)) (.node (ho59_3 P) (.node (ho91_4 P) .nil .nil) (.node (ho123_9 P) .nil .nil))))) (.node (hb5 P) (.node (hb9 P) (.node (hb17 P) (.node (ho33_1 P) (.node (ho65_3 P) .nil .nil) (.node (ho97_6 P) .nil .nil)) (.node (ho49_2 P) (.node (ho81_3 P) .nil .nil) (.node (ho113_8 P) .nil .nil))) (.node (hb25 P) (.node (ho41_1 P) (.node (ho73_3 P) .nil .nil) (.node (ho105_7 P) .nil .nil)) (.node (ho57_3 P) (.node (ho89_4 P) .nil .nil) (.node (ho121_9 P) .nil .nil)))) (.node (hb13 P) (.node (hb21 P) (.node (ho37_1 P) (.node (ho69_3 P) .nil .nil) (.node (ho101_6 P) .nil .nil)) (.node (ho53_3 P) (.node (ho85_3 P) .nil .nil) (.node (ho117_9 P) .nil .nil))) (.node (ho29_9 P) (.node (ho45_2 P) (.node (ho77_3 P) .nil .nil) (.node (ho109_7 P) .nil .nil)) (.node (ho61_3 P) (.node (ho93_4 P) .nil .nil) .nil))))) (.node (hb2 P) (.node (hb4 P) (.node (hb8 P) (.node (hb16 P) (.node (ho32_1 P) (.node (ho64_3 P) .nil .nil) (.node (ho96_6 P) .nil .nil)) (.node (ho48_2 P) (.node (ho80_3 P) .nil .nil) (.node (ho112_8 P) .nil .nil))) (.node (hb24 P) (.node (ho40_1 P) (.node (ho72_3 P) .nil .nil) (.node (ho104_7 P) .nil .nil)) (.node (ho56_3 P) (.node (ho88_3 P) .nil .nil) (.node (ho120_9 P) .nil .nil)))) (.node (hb12 P) (.node (hb20 P) (.node (ho36_1 P) (.node (ho68_3 P) .nil .nil) (.node (ho100_6 P) .nil .nil)) (.node (ho52_3 P) (.node (ho84_3 P) .nil .nil) (.node (ho116_8 P) .nil .nil))) (.node (ho28_pre P) (.node (ho44_2 P) (.node (ho76_3 P) .nil .nil) (.node (ho108_7 P) .nil .nil)) (.node (ho60_3 P) (.node (ho92_4 P) .nil .nil) .nil)))) (.node (hb6 P) (.node (hb10 P) (.node (hb18 P) (.node (ho34_1 P) (.node (ho66_3 P) .nil .nil) (.node (ho98_6 P) .nil .nil)) (.node (ho50_3 P) (.node (ho82_3 P) .nil .nil) (.node (ho114_8 P) .nil .nil))) (.node (hb26 P) (.node (ho42_1 P) (.node (ho74_3 P) .nil .nil) (.node (ho106_7 P) .nil .nil)) (.node (ho58_3 P) (.node (ho90_4 P) .nil .nil) (.node (ho122_9 P) .nil .nil)))) (.node (hb14 P) (.node (hb22 P) (.node (ho38_1 P) (.node (ho70_3 P) .nil .nil) (.node (ho102_6 P) .nil .nil)) (.node (ho54_3 P) (.node (ho86_3 P) .nil .nil) (.node (ho118_9 P) .nil .nil))) (.node (ho30_pre P) (.node (ho46_2 P) (.node (ho78_3 P) .nil .nil) (.node (ho110_8 P) .nil .nil)) (.node (ho62_3 P) (.node (ho94_4 P) .nil .nil) .nil))))))
noncomputable def me_10 : Params → List DictEntry := fun P => me_9 P ++ [⟨(kh P "ipow"), (hsv "ipow" 2353), (.ref 130)⟩]
noncomputable def ho3_10 : Params → Obj := fun P => ⟨(.type "dict"), none, (.dict (me_10 P).toArray 19), #[]⟩
noncomputable def ho29_10 : Params → Obj := fun _ => ⟨.none, none, (.fields #[(.int 4 0), (.int 0 0), (.ref 48), (.int 7 0), (.int 0 0), (.ref 94), (.int 13 0), (.int 0 0), (.ref 101), (.int 15 0), (.int 0 0), (.ref 108), (.int 17 0), (.int 0 0), (.ref 115), (.int 19 0), (.int 0 0), (.ref 122), (.int 25 0), (.int 0 0), (.ref 129)]), #[]⟩
noncomputable def ho124_10 : Params → Obj := fun _ => ⟨(.type "tuple"), none, (.seq #[] 0), #[]⟩
noncomputable def ho125_10 : Params → Obj := fun _ => ⟨.none, none, (.fields #[]), #[]⟩
noncomputable def ho126_10 : Params → Obj := fun _ => ⟨(.type "tuple"), none, (.seq #[(hsv "a" 2349), (hsv "b" 2350)] 0), #[]⟩
noncomputable def ho127_10 : Params → Obj := fun _ => ⟨(.type "tuple"), none, (.seq #[] 0), #[]⟩
noncomputable def ho128_10 : Params → Obj := fun _ => ⟨.none, none, (.func ⟨(Str.ofString "ipow"), (Str.ofString "ipow"), q11.1.1, (.stmts q11.1.2.1), q11.1.2.2, 0, [], .none, .none, .none, .none, none, .none, .none, 0⟩), #[]⟩
noncomputable def ho129_10 : Params → Obj := fun _ => ⟨(.type "code"), none, (.fields #[(hsv "ipow" 2346), (hsv "ipow" 2347), (hsv "/claim/cut.py" 2348), (.int 25 0), (.int 2 0), (.int 0 0), (.int 0 0), (.int 3 0), (.ref 124), (.bool true), (.int 276 0), (.ref 125), .none, (.ref 126), (.ref 127), (.ref 128), (.int 2351 0), (.int 25 0), (hsv "/claim/cut.py" 2352)]), #[]⟩
noncomputable def ho130_10 : Params → Obj := fun _ => ⟨(.type "function"), none, (.func ⟨(Str.ofString "ipow"), (Str.ofString "ipow"), q11.1.1, (.stmts q11.1.2.1), q11.1.2.2, 3, [], .none, .none, .none, (hsv "cpy313.operator" 2310), none, (.ref 129), .none, 0⟩), #[]⟩
noncomputable def hT_10 : Params → BT := fun P => (.node (hb0 P) (.node (hb1 P) (.node (ho3_10 P) (.node (hb7 P) (.node (hb15 P) (.node (ho31_pre P) (.node (ho63_3 P) (.node (ho127_10 P) .nil .nil) .nil) (.node (ho95_4 P) .nil .nil)) (.node (ho47_2 P) (.node (ho79_3 P) .nil .nil) (.node (ho111_8 P) .nil .nil))) (.node (hb23 P) (.node (ho39_1 P) (.node (ho71_3 P) .nil .nil) (.node (ho103_7 P) .nil .nil)) (.node (ho55_3 P) (.node (ho87_3 P) .nil .nil) (.node (ho119_9 P) .nil .nil)))) (.node (hb11 P) (.node (hb19 P) (.node (ho35_1 P) (.node (ho67_3 P) .nil .nil) (.node (ho99_6 P) .nil .nil)) (.node (ho51_3 P) (.node (ho83_3 P) .nil .nil) (.node (ho115_8 P) .nil .nil))) (.node (hb27 P) (.node (ho43_2 P) (.node (ho75_3 P) .nil .nil) (.node (ho107_7 P) .nil .nil)) (.node (ho59_3 P) (.node (ho91_4 P) .nil .nil) (.node (ho123_9 P) .nil .nil))))) (.node (hb5 P) (.node (hb9 P) (.node (hb17 P) (.node (ho33_1 P) (.node (ho65_3 P) (.node (ho129_10 P) .nil .nil) .nil) (.node (ho97_6 P) .nil .nil)) (.node (ho49_2 P) (.node (ho81_3 P) .nil .nil) (.node (ho113_8 P) .nil .nil))) (.node (hb25 P) (.node (ho41_1 P) (.node (ho73_3 P) .nil .nil) (.node (ho105_7 P) .nil .nil)) (.node (ho57_3 P) (.node (ho89_4 P) .nil .nil) (.node (ho121_9 P) .nil .nil)))) (.node (hb13 P) (.node (hb21 P) (.node (ho37_1 P) (.node (ho69_3 P) .nil .nil) (.node (ho101_6 P) .nil .nil)) (.node (ho53_3 P) (.node (ho85_3 P) .nil .nil) (.node (ho117_9 P) .nil .nil))) (.node (ho29_10 P) (.node (ho45_2 P) (.node (ho77_3 P) .nil .nil) (.node (ho109_7 P) .nil .nil)) (.node (ho61_3 P) (.node (ho93_4 P) .nil .nil) (.node (ho125_10 P) .nil .nil)))))) (.node (hb2 P) (.node (hb4 P) (.node (hb8 P) (.node (hb16 P) (.node (ho32_1 P) (.node (ho64_3 P) (.node (ho128_10 P) .nil .nil) .nil) (.node (ho96_6 P) .nil .nil)) (.node (ho48_2 P) (.node (ho80_3 P) .nil .nil) (.node (ho112_8 P) .nil .nil))) (.node (hb24 P) (.node (ho40_1 P) (.node (ho72_3 P) .nil .nil) (.node (ho104_7 P) .nil .nil)) (.node (ho56_3 P) (.node (ho88_3 P) .nil .nil) (.node (ho120_9 P) .nil .nil)))) (.node (hb12 P) (.node (hb20 P) (.node (ho36_1 P) (.node (ho68_3 P) .nil .nil) (.node (ho100_6 P) .nil .nil)) (.node (ho52_3 P) (.node (ho84_3 P) .nil .nil) (.node (ho116_8 P) .nil .nil))) (.node (ho28_pre P) (.node (ho44_2 P) (.node (ho76_3 P) .nil .nil) (.node (ho108_7 P) .nil .nil)) (.node (ho60_3 P) (.node (ho92_4 P) .nil .nil) (.node (ho124_10 P) .nil .nil))))) (.node (hb6 P) (.node (hb10 P) (.node (hb18 P) (.node (ho34_1 P) (.node (ho66_3 P) (.node (ho130_10 P) .nil .nil) .nil) (.node (ho98_6 P) .nil .nil)) (.node (ho50_3 P) (.node (ho82_3 P) .nil .nil) (.node (ho114_8 P) .nil .nil))) (.node (hb26 P) (.node (ho42_1 P) (.node (ho74_3 P) .nil .nil) (.node (ho106_7 P) .nil .nil)) (.node (ho58_3 P) (.node (ho90_4 P) .nil .nil) (.node (ho122_9 P) .nil .nil)))) (.node (hb14 P) (.node (hb22 P) (.node (ho38_1 P) (.node (ho70_3 P) .nil .nil) (.node (ho102_6 P) .nil .nil)) (.node (ho54_3 P) (.node (ho86_3 P) .nil .nil) (.node (ho118_9 P) .nil .nil))) (.node (ho30_pre P) (.node (ho46_2 P) (.node (ho78_3 P) .nil .nil) (.node (ho110_8 P) .nil .nil)) (.node (ho62_3 P) (.node (ho94_4 P) .nil .nil) (.node (ho126_10 P) .nil .nil)))))))
noncomputable def me_11 : Params → List DictEntry := fun P => (me_10 P).set 0 ⟨(kh P "__name__"), (hsv "__name__" 165), (hsv "cpy313.smtplib" 2354)⟩
noncomputable def ho3_11 : Params → Obj := fun P => ⟨(.type "dict"), none, (.dict (me_11 P).toArray 19), #[]⟩
noncomputable def hT_11 : Params → BT := fun P => (.node (hb0 P) (.node (hb1 P) (.node (ho3_11 P) (.node (hb7 P) (.node (hb15 P) (.node (ho31_pre P) (.node (ho63_3 P) (.node (ho127_10 P) .nil .nil) .nil) (.node (ho95_4 P) .nil .nil)) (.node (ho47_2 P) (.node (ho79_3 P) .nil .nil) (.node (ho111_8 P) .nil .nil))) (.node (hb23 P) (.node (ho39_1 P) (.node (ho71_3 P) .nil .nil) (.node (ho103_7 P) .nil .nil)) (.node (ho55_3 P) (.node (ho87_3 P) .nil .nil) (.node (ho119_9 P) .nil .nil)))) (.node (hb11 P) (.node (hb19 P) (.node (ho35_1 P) (.node (ho67_3 P) .nil .nil) (.node (ho99_6 P) .nil .nil)) (.node (ho51_3 P) (.node (ho83_3 P) .nil .nil) (.node (ho115_8 P) .nil .nil))) (.node (hb27 P) (.node (ho43_2 P) (.node (ho75_3 P) .nil .nil) (.node (ho107_7 P) .nil .nil)) (.node (ho59_3 P) (.node (ho91_4 P) .nil .nil) (.node (ho123_9 P) .nil .nil))))) (.node (hb5 P) (.node (hb9 P) (.node (hb17 P) (.node (ho33_1 P) (.node (ho65_3 P) (.node (ho129_10 P) .nil .nil) .nil) (.node (ho97_6 P) .nil .nil)) (.node (ho49_2 P) (.node (ho81_3 P) .nil .nil) (.node (ho113_8 P) .nil .nil))) (.node (hb25 P) (.node (ho41_1 P) (.node (ho73_3 P) .nil .nil) (.node (ho105_7 P) .nil .nil)) (.node (ho57_3 P) (.node (ho89_4 P) .nil .nil) (.node (ho121_9 P) .nil .nil)))) (.node (hb13 P) (.node (hb21 P) (.node (ho37_1 P) (.node (ho69_3 P) .nil .nil) (.node (ho101_6 P) .nil .nil)) (.node (ho53_3 P) (.node (ho85_3 P) .nil .nil) (.node (ho117_9 P) .nil .nil))) (.node (ho29_10 P) (.node (ho45_2 P) (.node (ho77_3 P) .nil .nil) (.node (ho109_7 P) .nil .nil)) (.node (ho61_3 P) (.node (ho93_4 P) .nil .nil) (.node (ho125_10 P) .nil .nil)))))) (.node (hb2 P) (.node (hb4 P) (.node (hb8 P) (.node (hb16 P) (.node (ho32_1 P) (.node (ho64_3 P) (.node (ho128_10 P) .nil .nil) .nil) (.node (ho96_6 P) .nil .nil)) (.node (ho48_2 P) (.node (ho80_3 P) .nil .nil) (.node (ho112_8 P) .nil .nil))) (.node (hb24 P) (.node (ho40_1 P) (.node (ho72_3 P) .nil .nil) (.node (ho104_7 P) .nil .nil)) (.node (ho56_3 P) (.node (ho88_3 P) .nil .nil) (.node (ho120_9 P) .nil .nil)))) (.node (hb12 P) (.node (hb20 P) (.node (ho36_1 P) (.node (ho68_3 P) .nil .nil) (.node (ho100_6 P) .nil .nil)) (.node (ho52_3 P) (.node (ho84_3 P) .nil .nil) (.node (ho116_8 P) .nil .nil))) (.node (ho28_pre P) (.node (ho44_2 P) (.node (ho76_3 P) .nil .nil) (.node (ho108_7 P) .nil .nil)) (.node (ho60_3 P) (.node (ho92_4 P) .nil .nil) (.node (ho124_10 P) .nil .nil))))) (.node (hb6 P) (.node (hb10 P) (.node (hb18 P) (.node (ho34_1 P) (.node (ho66_3 P) (.node (ho130_10 P) .nil .nil) .nil) (.node (ho98_6 P) .nil .nil)) (.node (ho50_3 P) (.node (ho82_3 P) .nil .nil) (.node (ho114_8 P) .nil .nil))) (.node (hb26 P) (.node (ho42_1 P) (.node (ho74_3 P) .nil .nil) (.node (ho106_7 P) .nil .nil)) (.node (ho58_3 P) (.node (ho90_4 P) .nil .nil) (.node (ho122_9 P) .nil .nil)))) (.node (hb14 P) (.node (hb22 P) (.node (ho38_1 P) (.node (ho70_3 P) .nil .nil) (.node (ho102_6 P) .nil .nil)) (.node (ho54_3 P) (.node (ho86_3 P) .nil .nil) (.node (ho118_9 P) .nil .nil))) (.node (ho30_pre P) (.node (ho46_2 P) (.node (ho78_3 P) .nil .nil) (.node (ho110_8 P) .nil .nil)) (.node (ho62_3 P) (.node (ho94_4 P) .nil .nil) (.node (ho126_10 P) .nil .nil)))))))
noncomputable def me_12 : Params → List DictEntry := fun P => me_11 P ++ [⟨(kh P "_twin_re_1"), (hsv "_twin_re_1" 2371), (.ref 135)⟩]
noncomputable def ho3_12 : Params → Obj := fun P => ⟨(.type "dict"), none, (.dict (me_12 P).toArray 20), #[]⟩
noncomputable def ho131_12 : Params → Obj := fun _ => ⟨(.type "list"), none, (.seq #[(.int 14 2359), (.int 4 2360), (.int 0 2361), (.int 1 2362), (.int 1 2363), (.int 6 2364), (.int 1 2365), (.int 16 2366), (.int 46 2367), (.int 1 2368)] 0), #[]⟩
noncomputable def ho132_12 : Params → Obj := fun _ => ⟨(.type "dict"), none, (.dict #[] 0), #[]⟩
noncomputable def ho133_12 : Params → Obj := fun _ => ⟨(.type "tuple"), none, (.seq #[.none] 0), #[]⟩
noncomputable def ho134_12 : Params → Obj := fun _ => ⟨(.type "tuple"), none, (.seq #[(.int 14 0), (.int 4 0), (.int 0 0), (.int 1 0), (.int 1 0), (.int 6 0), (.int 1 0), (.int 16 0), (.int 46 0), (.int 1 0)] 0), #[]⟩
noncomputable def ho135_12 : Params → Obj := fun _ => ⟨(.type "re.Pattern"), none, (.fields #[(hsv "(?m)^\\." 2357), (.int 40 2370), (.int 0 0), .none, .none, (.ref 134), (.int 0 0)]), #[]⟩
noncomputable def hT_12 : Params → BT := fun P => (.node (hb0 P) (.node (hb1 P) (.node (ho3_12 P) (.node (hb7 P) (.node (hb15 P) (.node (ho31_pre P) (.node (ho63_3 P) (.node (ho127_10 P) .nil .nil) .nil) (.node (ho95_4 P) .nil .nil)) (.node (ho47_2 P) (.node (ho79_3 P) .nil .nil) (.node (ho111_8 P) .nil .nil))) (.node (hb23 P) (.node (ho39_1 P) (.node (ho71_3 P) (.node (ho135_12 P) .nil .nil) .nil) (.node (ho103_7 P) .nil .nil)) (.node (ho55_3 P) (.node (ho87_3 P) .nil .nil) (.node (ho119_9 P) .nil .nil)))) (.node (hb11 P) (.node (hb19 P) (.node (ho35_1 P) (.node (ho67_3 P) (.node (ho131_12 P) .nil .nil) .nil) (.node (ho99_6 P) .nil .nil)) (.node (ho51_3 P) (.node (ho83_3 P) .nil .nil) (.node (ho115_8 P) .nil .nil))) (.node (hb27 P) (.node (ho43_2 P) (.node (ho75_3 P) .nil .nil) (.node (ho107_7 P) .nil .nil)) (.node (ho59_3 P) (.node (ho91_4 P) .nil .nil) (.node (ho123_9 P) .nil .nil))))) (.node (hb5 P) (.node (hb9 P) (.node (hb17 P) (.node (ho33_1 P) (.node (ho65_3 P) (.node (ho129_10 P) .nil .nil) .nil) (.node (ho97_6 P) .nil .nil)) (.node (ho49_2 P) (.node (ho81_3 P) .nil .nil) (.node (ho113_8 P) .nil .nil))) (.node (hb25 P) (.node (ho41_1 P) (.node (ho73_3 P) .nil .nil) (.node (ho105_7 P) .nil .nil)) (.node (ho57_3 P) (.node (ho89_4 P) .nil .nil) (.node (ho121_9 P) .nil .nil)))) (.node (hb13 P) (.node (hb21 P) (.node (ho37_1 P) (.node (ho69_3 P) (.node (ho133_12 P) .nil .nil) .nil) (.node (ho101_6 P) .nil .nil)) (.node (ho53_3 P) (.node (ho85_3 P) .nil .nil) (.node (ho117_9 P) .nil .nil))) (.node (ho29_10 P) (.node (ho45_2 P) (.node (ho77_3 P) .nil .nil) (.node (ho109_7 P) .nil .nil)) (.node (ho61_3 P) (.node (ho93_4 P) .nil .nil) (.node (ho125_10 P) .nil .nil)))))) (.node (hb2 P) (.node (hb4 P) (.node (hb8 P) (.node (hb16 P) (.node (ho32_1 P) (.node (ho64_3 P) (.node (ho128_10 P) .nil .nil) .nil) (.node (ho96_6 P) .nil .nil)) (.node (ho48_2 P) (.node (ho80_3 P) .nil .nil) (.node (ho112_8 P) .nil .nil))) (.node (hb24 P) (.node (ho40_1 P) (.node (ho72_3 P) .nil .nil) (.node (ho104_7 P) .nil .nil)) (.node (ho56_3 P) (.node (ho88_3 P) .nil .nil) (.node (ho120_9 P) .nil .nil)))) (.node (hb12 P) (.node (hb20 P) (.node (ho36_1 P) (.node (ho68_3 P) (.node (ho132_12 P) .nil .nil) .nil) (.node (ho100_6 P) .nil .nil)) (.node (ho52_3 P) (.node (ho84_3 P) .nil .nil) (.node (ho116_8 P) .nil .nil))) (.node (ho28_pre P) (.node (ho44_2 P) (.node (ho76_3 P) .nil .nil) (.node (ho108_7 P) .nil .nil)) (.node (ho60_3 P) (.node (ho92_4 P) .nil .nil) (.node (ho124_10 P) .nil .nil))))) (.node (hb6 P) (.node (hb10 P) (.node (hb18 P) (.node (ho34_1 P) (.node (ho66_3 P) (.node (ho130_10 P) .nil .nil) .nil) (.node (ho98_6 P) .nil .nil)) (.node (ho50_3 P) (.node (ho82_3 P) .nil .nil) (.node (ho114_8 P) .nil .nil))) (.node (hb26 P) (.node (ho42_1 P) (.node (ho74_3 P) .nil .nil) (.node (ho106_7 P) .nil .nil)) (.node (ho58_3 P) (.node (ho90_4 P) .nil .nil) (.node (ho122_9 P) .nil .nil)))) (.node (hb14 P) (.node (hb22 P) (.node (ho38_1 P) (.node (ho70_3 P) (.node (ho134_12 P) .nil .nil) .nil) (.node (ho102_6 P) .nil .nil)) (.node (ho54_3 P) (.node (ho86_3 P) .nil .nil) (.node (ho118_9 P) .nil .nil))) (.node (ho30_pre P) (.node (ho46_2 P) (.node (ho78_3 P) .nil .nil) (.node (ho110_8 P) .nil .nil)) (.node (ho62_3 P) (.node (ho94_4 P) .nil .nil) (.node (ho126_10 P) .nil .nil)))))))
noncomputable def me_13 : Params → List DictEntry := fun P => me_12 P ++ [⟨(kh P "_twin_re_2"), (hsv "_twin_re_2" 2413), (.ref 140)⟩]
noncomputable def ho3_13 : Params → Obj := fun P => ⟨(.type "dict"), none, (.dict (me_13 P).toArray 21), #[]⟩
noncomputable def ho136_13 : Params → Obj := fun _ => ⟨(.type "list"), none, (.seq #[(.int 14 2375), (.int 9 2376), (.int 4 2377), (.int 1 2378), (.int 2 2379), (.int 16 2380), (.int 10 2381), (.int 16 2382), (.int 13 2383), (.int 0 2384), (.int 7 2385), (.int 7 2386), (.int 16 2387), (.int 13 2388), (.int 16 2389), (.int 10 2390), (.int 15 2391), (.int 18 2392), (.int 5 2393), (.int 16 2394), (.int 10 2395), (.int 15 2396), (.int 13 2397), (.int 11 2398), (.int 16 2399), (.int 13 2400), (.int 5 2401), (.int 5 2402), (.int 0 2403), (.int 16 2404), (.int 10 2405), (.int 1 2406), (.int 15 2407), (.int 2 2408), (.int 0 2409), (.int 1 2410)] 0), #[]⟩
noncomputable def ho137_13 : Params → Obj := fun _ => ⟨(.type "dict"), none, (.dict #[] 0), #[]⟩
noncomputable def ho138_13 : Params → Obj := fun _ => ⟨(.type "tuple"), none, (.seq #[.none] 0), #[]⟩
noncomputable def ho139_13 : Params → Obj := fun _ => ⟨(.type "tuple"), none, (.seq #[(.int 14 0), (.int 9 0), (.int 4 0), (.int 1 0), (.int 2 0), (.int 16 0), (.int 10 0), (.int 16 0), (.int 13 0), (.int 0 0), (.int 7 0), (.int 7 0), (.int 16 0), (.int 13 0), (.int 16 0), (.int 10 0), (.int 15 0), (.int 18 0), (.int 5 0), (.int 16 0), (.int 10 0), (.int 15 0), (.int 13 0), (.int 11 0), (.int 16 0), (.int 13 0), (.int 5 0), (.int 5 0), (.int 0 0), (.int 16 0), (.int 10 0), (.int 1 0), (.int 15 0), (.int 2 0), (.int 0 0), (.int 1 0)] 0), #[]⟩
noncomputable def ho140_13 : Params → Obj := fun _ => ⟨(.type "re.Pattern"), none, (.fields #[(hsv "(?:\\r\\n|\\n|\\r(?!\\n))" 2373), (.int 32 2412), (.int 0 0), .none, .none, (.ref 139), (.int 0 0)]), #[]⟩
noncomputable def hT_13 : Params → BT := fun P => (.node (hb0 P) (.node (hb1 P) (.node (ho3_13 P) (.node (hb7 P) (.node (hb15 P) (.node (ho31_pre P) (.node (ho63_3 P) (.node (ho127_10 P) .nil .nil) .nil) (.node (ho95_4 P) .nil .nil)) (.node (ho47_2 P) (.node (ho79_3 P) .nil .nil) (.node (ho111_8 P) .nil .nil))) (.node (hb23 P) (.node (ho39_1 P) (.node (ho71_3 P) (.node (ho135_12 P) .nil .nil) .nil) (.node (ho103_7 P) .nil .nil)) (.node (ho55_3 P) (.node (ho87_3 P) .nil .nil) (.node (ho119_9 P) .nil .nil)))) (.node (hb11 P) (.node (hb19 P) (.node (ho35_1 P) (.node (ho67_3 P) (.node (ho131_12 P) .nil .nil) .nil) (.node (ho99_6 P) .nil .nil)) (.node (ho51_3 P) (.node (ho83_3 P) .nil .nil) (.node (ho115_8 P) .nil .nil))) (.node (hb27 P) (.node (ho43_2 P) (.node (ho75_3 P) (.node (ho139_13 P) .nil .nil) .nil) (.node (ho107_7 P) .nil .nil)) (.node (ho59_3 P) (.node (ho91_4 P) .nil .nil) (.node (ho123_9 P) .nil .nil))))) (.node (hb5 P) (.node (hb9 P) (.node (hb17 P) (.node (ho33_1 P) (.node (ho65_3 P) (.node (ho129_10 P) .nil .nil) .nil) (.node (ho97_6 P) .nil .nil)) (.node (ho49_2 P) (.node (ho81_3 P) .nil .nil) (.node (ho113_8 P) .nil .nil))) (.node (hb25 P) (.node (ho41_1 P) (.node (ho73_3 P) (.node (ho137_13 P) .nil .nil) .nil) (.node (ho105_7 P) .nil .nil)) (.node (ho57_3 P) (.node (ho89_4 P) .nil .nil) (.node (ho121_9 P) .nil .nil)))) (.node (hb13 P) (.node (hb21 P) (.node (ho37_1 P) (.node (ho69_3 P) (.node (ho133_12 P) .nil .nil) .nil) (.node (ho101_6 P) .nil .nil)) (.node (ho53_3 P) (.node (ho85_3 P) .nil .nil) (.node (ho117_9 P) .nil .nil))) (.node (ho29_10 P) (.node (ho45_2 P) (.node (ho77_3 P) .nil .nil) (.node (ho109_7 P) .nil .nil)) (.node (ho61_3 P) (.node (ho93_4 P) .nil .nil) (.node (ho125_10 P) .nil .nil)))))) (.node (hb2 P) (.node (hb4 P) (.node (hb8 P) (.node (hb16 P) (.node (ho32_1 P) (.node (ho64_3 P) (.node (ho128_10 P) .nil .nil) .nil) (.node (ho96_6 P) .nil .nil)) (.node (ho48_2 P) (.node (ho80_3 P) .nil .nil) (.node (ho112_8 P) .nil .nil))) (.node (hb24 P) (.node (ho40_1 P) (.node (ho72_3 P) (.node (ho136_13 P) .nil .nil) .nil) (.node (ho104_7 P) .nil .nil)) (.node (ho56_3 P) (.node (ho88_3 P) .nil .nil) (.node (ho120_9 P) .nil .nil)))) (.node (hb12 P) (.node (hb20 P) (.node (ho36_1 P) (.node (ho68_3 P) (.node (ho132_12 P) .nil .nil) .nil) (.node (ho100_6 P) .nil .nil)) (.node (ho52_3 P) (.node (ho84_3 P) .nil .nil) (.node (ho116_8 P) .nil .nil))) (.node (ho28_pre P) (.node (ho44_2 P) (.node (ho76_3 P) (.node (ho140_13 P) .nil .nil) .nil) (.node (ho108_7 P) .nil .nil)) (.node (ho60_3 P) (.node (ho92_4 P) .nil .nil) (.node (ho124_10 P) .nil .nil))))) (.node (hb6 P) (.node (hb10 P) (.node (hb18 P) (.node (ho34_1 P) (.node (ho66_3 P) (.node (ho130_10 P) .nil .nil) .nil) (.node (ho98_6 P) .nil .nil)) (.node (ho50_3 P) (.node (ho82_3 P) .nil .nil) (.node (ho114_8 P) .nil .nil))) (.node (hb26 P) (.node (ho42_1 P) (.node (ho74_3 P) (.node (ho138_13 P) .nil .nil) .nil) (.node (ho106_7 P) .nil .nil)) (.node (ho58_3 P) (.node (ho90_4 P) .nil .nil) (.node (ho122_9 P) .nil .nil)))) (.node (hb14 P) (.node (hb22 P) (.node (ho38_1 P) (.node (ho70_3 P) (.node (ho134_12 P) .nil .nil) .nil) (.node (ho102_6 P) .nil .nil)) (.node (ho54_3 P) (.node (ho86_3 P) .nil .nil) (.node (ho118_9 P) .nil .nil))) (.node (ho30_pre P) (.node (ho46_2 P) (.node (ho78_3 P) .nil .nil) (.node (ho110_8 P) .nil .nil)) (.node (ho62_3 P) (.node (ho94_4 P) .nil .nil) (.node (ho126_10 P) .nil .nil)))))))
noncomputable def me_14 : Params → List DictEntry := fun P => me_13 P ++ [⟨(kh P "CRLF"), (hsv "CRLF" 2415), (hsv "\r\n" 2414)⟩]
noncomputable def ho3_14 : Params → Obj := fun P => ⟨(.type "dict"), none, (.dict (me_14 P).toArray 22), #[]⟩
noncomputable def hT_14 : Params → BT := fun P => (.node (hb0 P) (.node (hb1 P) (.node (ho3_14 P) (.node (hb7 P) (.node (hb15 P) (.node (ho31_pre P) (.node (ho63_3 P) (.node (ho127_10 P) .nil .nil) .nil) (.node (ho95_4 P) .nil .nil)) (.node (ho47_2 P) (.node (ho79_3 P) .nil .nil) (.node (ho111_8 P) .nil .nil))) (.node (hb23 P) (.node (ho39_1 P) (.node (ho71_3 P) (.node (ho135_12 P) .nil .nil) .nil) (.node (ho103_7 P) .nil .nil)) (.node (ho55_3 P) (.node (ho87_3 P) .nil .nil) (.node (ho119_9 P) .nil .nil)))) (.node (hb11 P) (.node (hb19 P) (.node (ho35_1 P) (.node (ho67_3 P) (.node (ho131_12 P) .nil .nil) .nil) (.node (ho99_6 P) .nil .nil)) (.node (ho51_3 P) (.node (ho83_3 P) .nil .nil) (.node (ho115_8 P) .nil .nil))) (.node (hb27 P) (.node (ho43_2 P) (.node (ho75_3 P) (.node (ho139_13 P) .nil .nil) .nil) (.node (ho107_7 P) .nil .nil)) (.node (ho59_3 P) (.node (ho91_4 P) .nil .nil) (.node (ho123_9 P) .nil .nil))))) (.node (hb5 P) (.node (hb9 P) (.node (hb17 P) (.node (ho33_1 P) (.node (ho65_3 P) (.node (ho129_10 P) .nil .nil) .nil) (.node (ho97_6 P) .nil .nil)) (.node (ho49_2 P) (.node (ho81_3 P) .nil .nil) (.node (ho113_8 P) .nil .nil))) (.node (hb25 P) (.node (ho41_1 P) (.node (ho73_3 P) (.node (ho137_13 P) .nil .nil) .nil) (.node (ho105_7 P) .nil .nil)) (.node (ho57_3 P) (.node (ho89_4 P) .nil .nil) (.node (ho121_9 P) .nil .nil)))) (.node (hb13 P) (.node (hb21 P) (.node (ho37_1 P) (.node (ho69_3 P) (.node (ho133_12 P) .nil .nil) .nil) (.node (ho101_6 P) .nil .nil)) (.node (ho53_3 P) (.node (ho85_3 P) .nil .nil) (.node (ho117_9 P) .nil .nil))) (.node (ho29_10 P) (.node (ho45_2 P) (.node (ho77_3 P) .nil .nil) (.node (ho109_7 P) .nil .nil)) (.node (ho61_3 P) (.node (ho93_4 P) .nil .nil) (.node (ho125_10 P) .nil .nil)))))) (.node (hb2 P) (.node (hb4 P) (.node (hb8 P) (.node (hb16 P) (.node (ho32_1 P) (.node (ho64_3 P) (.node (ho128_10 P) .nil .nil) .nil) (.node (ho96_6 P) .nil .nil)) (.node (ho48_2 P) (.node (ho80_3 P) .nil .nil) (.node (ho112_8 P) .nil .nil))) (.node (hb24 P) (.node (ho40_1 P) (.node (ho72_3 P) (.node (ho136_13 P) .nil .nil) .nil) (.node (ho104_7 P) .nil .nil)) (.node (ho56_3 P) (.node (ho88_3 P) .nil .nil) (.node (ho120_9 P) .nil .nil)))) (.node (hb12 P) (.node (hb20 P) (.node (ho36_1 P) (.node (ho68_3 P) (.node (ho132_12 P) .nil .nil) .nil) (.node (ho100_6 P) .nil .nil)) (.node (ho52_3 P) (.node (ho84_3 P) .nil .nil) (.node (ho116_8 P) .nil .nil))) (.node (ho28_pre P) (.node (ho44_2 P) (.node (ho76_3 P) (.node (ho140_13 P) .nil .nil) .nil) (.node (ho108_7 P) .nil .nil)) (.node (ho60_3 P) (.node (ho92_4 P) .nil .nil) (.node (ho124_10 P) .nil .nil))))) (.node (hb6 P) (.node (hb10 P) (.node (hb18 P) (.node (ho34_1 P) (.node (ho66_3 P) (.node (ho130_10 P) .nil .nil) .nil) (.node (ho98_6 P) .nil .nil)) (.node (ho50_3 P) (.node (ho82_3 P) .nil .nil) (.node (ho114_8 P) .nil .nil))) (.node (hb26 P) (.node (ho42_1 P) (.node (ho74_3 P) (.node (ho138_13 P) .nil .nil) .nil) (.node (ho106_7 P) .nil .nil)) (.node (ho58_3 P) (.node (ho90_4 P) .nil .nil) (.node (ho122_9 P) .nil .nil)))) (.node (hb14 P) (.node (hb22 P) (.node (ho38_1 P) (.node (ho70_3 P) (.node (ho134_12 P) .nil .nil) .nil) (.node (ho102_6 P) .nil .nil)) (.node (ho54_3 P) (.node (ho86_3 P) .nil .nil) (.node (ho118_9 P) .nil .nil))) (.node (ho30_pre P) (.node (ho46_2 P) (.node (ho78_3 P) .nil .nil) (.node (ho110_8 P) .nil .nil)) (.node (ho62_3 P) (.node (ho94_4 P) .nil .nil) (.node (ho126_10 P) .nil .nil)))))))
noncomputable def me_15 : Params → List DictEntry := fun P => me_14 P ++ [⟨(kh P "quotedata"), (hsv "quotedata" 2422), (.ref 147)⟩]
noncomputable def ho3_15 : Params → Obj := fun P => ⟨(.type "dict"), none, (.dict (me_15 P).toArray 23), #[]⟩
noncomputable def ho29_15 : Params → Obj := fun _ => ⟨.none, none, (.fields #[(.int 4 0), (.int 0 0), (.ref 48), (.int 7 0), (.int 0 0), (.ref 94), (.int 13 0), (.int 0 0), (.ref 101), (.int 15 0), (.int 0 0), (.ref 108), (.int 17 0), (.int 0 0), (.ref 115), (.int 19 0), (.int 0 0), (.ref 122), (.int 25 0), (.int 0 0), (.ref 129), (.int 32 0), (.int 0 0), (.ref 146)]), #[]⟩
noncomputable def ho141_15 : Params → Obj := fun _ => ⟨(.type "tuple"), none, (.seq #[] 0), #[]⟩
noncomputable def ho142_15 : Params → Obj := fun _ => ⟨.none, none, (.fields #[]), #[]⟩
noncomputable def ho143_15 : Params → Obj := fun _ => ⟨(.type "tuple"), none, (.seq #[(hsv "data" 2419)] 0), #[]⟩
noncomputable def ho144_15 : Params → Obj := fun _ => ⟨(.type "tuple"), none, (.seq #[] 0), #[]⟩
noncomputable def ho145_15 : Params → Obj := fun _ => ⟨.none, none, (.func ⟨(Str.ofString "quotedata"), (Str.ofString "quotedata"), q16.1.1, (.stmts q16.1.2.1), q16.1.2.2, 0, [], .none, .none, .none, .none, none, .none, .none, 0⟩), #[]⟩
noncomputable def ho146_15 : Params → Obj := fun _ => ⟨(.type "code"), none, (.fields #[(hsv "quotedata" 2416), (hsv "quotedata" 2417), (hsv "/claim/cut.py" 2418), (.int 32 0), (.int 1 0), (.int 0 0), (.int 0 0), (.int 3 0), (.ref 141), (.bool true), (.int 276 0), (.ref 142), .none, (.ref 143), (.ref 144), (.ref 145), (.int 2420 0), (.int 32 0), (hsv "/claim/cut.py" 2421)]), #[]⟩
noncomputable def ho147_15 : Params → Obj := fun _ => ⟨(.type "function"), none, (.func ⟨(Str.ofString "quotedata"), (Str.ofString "quotedata"), q16.1.1, (.stmts q16.1.2.1), q16.1.2.2, 3, [], .none, .none, .none, (hsv "cpy313.smtplib" 2354), none, (.ref 146), .none, 0⟩), #[]⟩
noncomputable def hT_15 : Params → BT := fun P => (.node (hb0 P) (.node (hb1 P) (.node (ho3_15 P) (.node (hb7 P) (.node (hb15 P) (.node (ho31_pre P) (.node (ho63_3 P) (.node (ho127_10 P) .nil .nil) .nil) (.node (ho95_4 P) .nil .nil)) (.node (ho47_2 P) (.node (ho79_3 P) (.node (ho143_15 P) .nil .nil) .nil) (.node (ho111_8 P) .nil .nil))) (.node (hb23 P) (.node (ho39_1 P) (.node (ho71_3 P) (.node (ho135_12 P) .nil .nil) .nil) (.node (ho103_7 P) .nil .nil)) (.node (ho55_3 P) (.node (ho87_3 P) .nil .nil) (.node (ho119_9 P) .nil .nil)))) (.node (hb11 P) (.node (hb19 P) (.node (ho35_1 P) (.node (ho67_3 P) (.node (ho131_12 P) .nil .nil) .nil) (.node (ho99_6 P) .nil .nil)) (.node (ho51_3 P) (.node (ho83_3 P) (.node (ho147_15 P) .nil .nil) .nil) (.node (ho115_8 P) .nil .nil))) (.node (hb27 P) (.node (ho43_2 P) (.node (ho75_3 P) (.node (ho139_13 P) .nil .nil) .nil) (.node (ho107_7 P) .nil .nil)) (.node (ho59_3 P) (.node (ho91_4 P) .nil .nil) (.node (ho123_9 P) .nil .nil))))) (.node (hb5 P) (.node (hb9 P) (.node (hb17 P) (.node (ho33_1 P) (.node (ho65_3 P) (.node (ho129_10 P) .nil .nil) .nil) (.node (ho97_6 P) .nil .nil)) (.node (ho49_2 P) (.node (ho81_3 P) (.node (ho145_15 P) .nil .nil) .nil) (.node (ho113_8 P) .nil .nil))) (.node (hb25 P) (.node (ho41_1 P) (.node (ho73_3 P) (.node (ho137_13 P) .nil .nil) .nil) (.node (ho105_7 P) .nil .nil)) (.node (ho57_3 P) (.node (ho89_4 P) .nil .nil) (.node (ho121_9 P) .nil .nil)))) (.node (hb13 P) (.node (hb21 P) (.node (ho37_1 P) (.node (ho69_3 P) (.node (ho133_12 P) .nil .nil) .nil) (.node (ho101_6 P) .nil .nil)) (.node (ho53_3 P) (.node (ho85_3 P) .nil .nil) (.node (ho117_9 P) .nil .nil))) (.node (ho29_15 P) (.node (ho45_2 P) (.node (ho77_3 P) (.node (ho141_15 P) .nil .nil) .nil) (.node (ho109_7 P) .nil .nil)) (.node (ho61_3 P) (.node (ho93_4 P) .nil .nil) (.node (ho125_10 P) .nil .nil)))))) (.node (hb2 P) (.node (hb4 P) (.node (hb8 P) (.node (hb16 P) (.node (ho32_1 P) (.node (ho64_3 P) (.node (ho128_10 P) .nil .nil) .nil) (.node (ho96_6 P) .nil .nil)) (.node (ho48_2 P) (.node (ho80_3 P) (.node (ho144_15 P) .nil .nil) .nil) (.node (ho112_8 P) .nil .nil))) (.node (hb24 P) (.node (ho40_1 P) (.node (ho72_3 P) (.node (ho136_13 P) .nil .nil) .nil) (.node (ho104_7 P) .nil .nil)) (.node (ho56_3 P) (.node (ho88_3 P) .nil .nil) (.node (ho120_9 P) .nil .nil)))) (.node (hb12 P) (.node (hb20 P) (.node (ho36_1 P) (.node (ho68_3 P) (.node (ho132_12 P) .nil .nil) .nil) (.node (ho100_6 P) .nil .nil)) (.node (ho52_3 P) (.node (ho84_3 P) .nil .nil) (.node (ho116_8 P) .nil .nil))) (.node (ho28_pre P) (.node (ho44_2 P) (.node (ho76_3 P) (.node (ho140_13 P) .nil .nil) .nil) (.node (ho108_7 P) .nil .nil)) (.node (ho60_3 P) (.node (ho92_4 P) .nil .nil) (.node (ho124_10 P) .nil .nil))))) (.node (hb6 P) (.node (hb10 P) (.node (hb18 P) (.node (ho34_1 P) (.node (ho66_3 P) (.node (ho130_10 P) .nil .nil) .nil) (.node (ho98_6 P) .nil .nil)) (.node (ho50_3 P) (.node (ho82_3 P) (.node (ho146_15 P) .nil .nil) .nil) (.node (ho114_8 P) .nil .nil))) (.node (hb26 P) (.node (ho42_1 P) (.node (ho74_3 P) (.node (ho138_13 P) .nil .nil) .nil) (.node (ho106_7 P) .nil .nil)) (.node (ho58_3 P) (.node (ho90_4 P) .nil .nil) (.node (ho122_9 P) .nil .nil)))) (.node (hb14 P) (.node (hb22 P) (.node (ho38_1 P) (.node (ho70_3 P) (.node (ho134_12 P) .nil .nil) .nil) (.node (ho102_6 P) .nil .nil)) (.node (ho54_3 P) (.node (ho86_3 P) .nil .nil) (.node (ho118_9 P) .nil .nil))) (.node (ho30_pre P) (.node (ho46_2 P) (.node (ho78_3 P) (.node (ho142_15 P) .nil .nil) .nil) (.node (ho110_8 P) .nil .nil)) (.node (ho62_3 P) (.node (ho94_4 P) .nil .nil) (.node (ho126_10 P) .nil .nil)))))))
noncomputable def me_16 : Params → List DictEntry := fun P => (me_15 P).set 0 ⟨(kh P "__name__"), (hsv "__name__" 165), (hsv "law_ti0026_01" 2423)⟩
noncomputable def ho3_16 : Params → Obj := fun P => ⟨(.type "dict"), none, (.dict (me_16 P).toArray 23), #[]⟩
noncomputable def hT_16 : Params → BT := fun P => (.node (hb0 P) (.node (hb1 P) (.node (ho3_16 P) (.node (hb7 P) (.node (hb15 P) (.node (ho31_pre P) (.node (ho63_3 P) (.node (ho127_10 P) .nil .nil) .nil) (.node (ho95_4 P) .nil .nil)) (.node (ho47_2 P) (.node (ho79_3 P) (.node (ho143_15 P) .nil .nil) .nil) (.node (ho111_8 P) .nil .nil))) (.node (hb23 P) (.node (ho39_1 P) (.node (ho71_3 P) (.node (ho135_12 P) .nil .nil) .nil) (.node (ho103_7 P) .nil .nil)) (.node (ho55_3 P) (.node (ho87_3 P) .nil .nil) (.node (ho119_9 P) .nil .nil)))) (.node (hb11 P) (.node (hb19 P) (.node (ho35_1 P) (.node (ho67_3 P) (.node (ho131_12 P) .nil .nil) .nil) (.node (ho99_6 P) .nil .nil)) (.node (ho51_3 P) (.node (ho83_3 P) (.node (ho147_15 P) .nil .nil) .nil) (.node (ho115_8 P) .nil .nil))) (.node (hb27 P) (.node (ho43_2 P) (.node (ho75_3 P) (.node (ho139_13 P) .nil .nil) .nil) (.node (ho107_7 P) .nil .nil)) (.node (ho59_3 P) (.node (ho91_4 P) .nil .nil) (.node (ho123_9 P) .nil .nil))))) (.node (hb5 P) (.node (hb9 P) (.node (hb17 P) (.node (ho33_1 P) (.node (ho65_3 P) (.node (ho129_10 P) .nil .nil) .nil) (.node (ho97_6 P) .nil .nil)) (.node (ho49_2 P) (.node (ho81_3 P) (.node (ho145_15 P) .nil .nil) .nil) (.node (ho113_8 P) .nil .nil))) (.node (hb25 P) (.node (ho41_1 P) (.node (ho73_3 P) (.node (ho137_13 P) .nil .nil) .nil) (.node (ho105_7 P) .nil .nil)) (.node (ho57_3 P) (.node (ho89_4 P) .nil .nil) (.node (ho121_9 P) .nil .nil)))) (.node (hb13 P) (.node (hb21 P) (.node (ho37_1 P) (.node (ho69_3 P) (.node (ho133_12 P) .nil .nil) .nil) (.node (ho101_6 P) .nil .nil)) (.node (ho53_3 P) (.node (ho85_3 P) .nil .nil) (.node (ho117_9 P) .nil .nil))) (.node (ho29_15 P) (.node (ho45_2 P) (.node (ho77_3 P) (.node (ho141_15 P) .nil .nil) .nil) (.node (ho109_7 P) .nil .nil)) (.node (ho61_3 P) (.node (ho93_4 P) .nil .nil) (.node (ho125_10 P) .nil .nil)))))) (.node (hb2 P) (.node (hb4 P) (.node (hb8 P) (.node (hb16 P) (.node (ho32_1 P) (.node (ho64_3 P) (.node (ho128_10 P) .nil .nil) .nil) (.node (ho96_6 P) .nil .nil)) (.node (ho48_2 P) (.node (ho80_3 P) (.node (ho144_15 P) .nil .nil) .nil) (.node (ho112_8 P) .nil .nil))) (.node (hb24 P) (.node (ho40_1 P) (.node (ho72_3 P) (.node (ho136_13 P) .nil .nil) .nil) (.node (ho104_7 P) .nil .nil)) (.node (ho56_3 P) (.node (ho88_3 P) .nil .nil) (.node (ho120_9 P) .nil .nil)))) (.node (hb12 P) (.node (hb20 P) (.node (ho36_1 P) (.node (ho68_3 P) (.node (ho132_12 P) .nil .nil) .nil) (.node (ho100_6 P) .nil .nil)) (.node (ho52_3 P) (.node (ho84_3 P) .nil .nil) (.node (ho116_8 P) .nil .nil))) (.node (ho28_pre P) (.node (ho44_2 P) (.node (ho76_3 P) (.node (ho140_13 P) .nil .nil) .nil) (.node (ho108_7 P) .nil .nil)) (.node (ho60_3 P) (.node (ho92_4 P) .nil .nil) (.node (ho124_10 P) .nil .nil))))) (.node (hb6 P) (.node (hb10 P) (.node (hb18 P) (.node (ho34_1 P) (.node (ho66_3 P) (.node (ho130_10 P) .nil .nil) .nil) (.node (ho98_6 P) .nil .nil)) (.node (ho50_3 P) (.node (ho82_3 P) (.node (ho146_15 P) .nil .nil) .nil) (.node (ho114_8 P) .nil .nil))) (.node (hb26 P) (.node (ho42_1 P) (.node (ho74_3 P) (.node (ho138_13 P) .nil .nil) .nil) (.node (ho106_7 P) .nil .nil)) (.node (ho58_3 P) (.node (ho90_4 P) .nil .nil) (.node (ho122_9 P) .nil .nil)))) (.node (hb14 P) (.node (hb22 P) (.node (ho38_1 P) (.node (ho70_3 P) (.node (ho134_12 P) .nil .nil) .nil) (.node (ho102_6 P) .nil .nil)) (.node (ho54_3 P) (.node (ho86_3 P) .nil .nil) (.node (ho118_9 P) .nil .nil))) (.node (ho30_pre P) (.node (ho46_2 P) (.node (ho78_3 P) (.node (ho142_15 P) .nil .nil) .nil) (.node (ho110_8 P) .nil .nil)) (.node (ho62_3 P) (.node (ho94_4 P) .nil .nil) (.node (ho126_10 P) .nil .nil)))))))
noncomputable def me_17 : Params → List DictEntry := fun P => me_16 P ++ [⟨(kh P "_law_name"), (hsv "_law_name" 2434), (.ref 154)⟩]
noncomputable def ho3_17 : Params → Obj := fun P => ⟨(.type "dict"), none, (.dict (me_17 P).toArray 24), #[]⟩
noncomputable def ho29_17 : Params → Obj := fun _ => ⟨.none, none, (.fields #[(.int 4 0), (.int 0 0), (.ref 48), (.int 7 0), (.int 0 0), (.ref 94), (.int 13 0), (.int 0 0), (.ref 101), (.int 15 0), (.int 0 0), (.ref 108), (.int 17 0), (.int 0 0), (.ref 115), (.int 19 0), (.int 0 0), (.ref 122), (.int 25 0), (.int 0 0), (.ref 129), (.int 32 0), (.int 0 0), (.ref 146), (.int 35 0), (.int 0 0), (.ref 153)]), #[]⟩
noncomputable def ho148_17 : Params → Obj := fun _ => ⟨(.type "tuple"), none, (.seq #[] 0), #[]⟩
noncomputable def ho149_17 : Params → Obj := fun _ => ⟨.none, none, (.fields #[]), #[]⟩
noncomputable def ho150_17 : Params → Obj := fun _ => ⟨(.type "tuple"), none, (.seq #[(hsv "rest" 2428), (hsv "beside" 2429), (hsv "stay" 2430), (hsv "letter" 2431)] 0), #[]⟩
noncomputable def ho151_17 : Params → Obj := fun _ => ⟨(.type "tuple"), none, (.seq #[] 0), #[]⟩
noncomputable def ho152_17 : Params → Obj := fun _ => ⟨.none, none, (.func ⟨(Str.ofString "_law_name"), (Str.ofString "_law_name"), q18.1.1, (.stmts q18.1.2.1), q18.1.2.2, 0, [], .none, .none, .none, .none, none, .none, .none, 0⟩), #[]⟩
noncomputable def ho153_17 : Params → Obj := fun _ => ⟨(.type "code"), none, (.fields #[(hsv "_law_name" 2425), (hsv "_law_name" 2426), (hsv "/claim/cut.py" 2427), (.int 35 0), (.int 1 0), (.int 0 0), (.int 0 0), (.int 3 0), (.ref 148), (.bool true), (.int 276 0), (.ref 149), .none, (.ref 150), (.ref 151), (.ref 152), (.int 2432 0), (.int 35 0), (hsv "/claim/cut.py" 2433)]), #[]⟩
noncomputable def ho154_17 : Params → Obj := fun _ => ⟨(.type "function"), none, (.func ⟨(Str.ofString "_law_name"), (Str.ofString "_law_name"), q18.1.1, (.stmts q18.1.2.1), q18.1.2.2, 3, [], .none, .none, .none, (hsv "law_ti0026_01" 2423), none, (.ref 153), .none, 0⟩), #[]⟩
noncomputable def hT_17 : Params → BT := fun P => (.node (hb0 P) (.node (hb1 P) (.node (ho3_17 P) (.node (hb7 P) (.node (hb15 P) (.node (ho31_pre P) (.node (ho63_3 P) (.node (ho127_10 P) .nil .nil) .nil) (.node (ho95_4 P) .nil .nil)) (.node (ho47_2 P) (.node (ho79_3 P) (.node (ho143_15 P) .nil .nil) .nil) (.node (ho111_8 P) .nil .nil))) (.node (hb23 P) (.node (ho39_1 P) (.node (ho71_3 P) (.node (ho135_12 P) .nil .nil) .nil) (.node (ho103_7 P) .nil .nil)) (.node (ho55_3 P) (.node (ho87_3 P) (.node (ho151_17 P) .nil .nil) .nil) (.node (ho119_9 P) .nil .nil)))) (.node (hb11 P) (.node (hb19 P) (.node (ho35_1 P) (.node (ho67_3 P) (.node (ho131_12 P) .nil .nil) .nil) (.node (ho99_6 P) .nil .nil)) (.node (ho51_3 P) (.node (ho83_3 P) (.node (ho147_15 P) .nil .nil) .nil) (.node (ho115_8 P) .nil .nil))) (.node (hb27 P) (.node (ho43_2 P) (.node (ho75_3 P) (.node (ho139_13 P) .nil .nil) .nil) (.node (ho107_7 P) .nil .nil)) (.node (ho59_3 P) (.node (ho91_4 P) .nil .nil) (.node (ho123_9 P) .nil .nil))))) (.node (hb5 P) (.node (hb9 P) (.node (hb17 P) (.node (ho33_1 P) (.node (ho65_3 P) (.node (ho129_10 P) .nil .nil) .nil) (.node (ho97_6 P) .nil .nil)) (.node (ho49_2 P) (.node (ho81_3 P) (.node (ho145_15 P) .nil .nil) .nil) (.node (ho113_8 P) .nil .nil))) (.node (hb25 P) (.node (ho41_1 P) (.node (ho73_3 P) (.node (ho137_13 P) .nil .nil) .nil) (.node (ho105_7 P) .nil .nil)) (.node (ho57_3 P) (.node (ho89_4 P) (.node (ho153_17 P) .nil .nil) .nil) (.node (ho121_9 P) .nil .nil)))) (.node (hb13 P) (.node (hb21 P) (.node (ho37_1 P) (.node (ho69_3 P) (.node (ho133_12 P) .nil .nil) .nil) (.node (ho101_6 P) .nil .nil)) (.node (ho53_3 P) (.node (ho85_3 P) (.node (ho149_17 P) .nil .nil) .nil) (.node (ho117_9 P) .nil .nil))) (.node (ho29_17 P) (.node (ho45_2 P) (.node (ho77_3 P) (.node (ho141_15 P) .nil .nil) .nil) (.node (ho109_7 P) .nil .nil)) (.node (ho61_3 P) (.node (ho93_4 P) .nil .nil) (.node (ho125_10 P) .nil .nil)))))) (.node (hb2 P) (.node (hb4 P) (.node (hb8 P) (.node (hb16 P) (.node (ho32_1 P) (.node (ho64_3 P) (.node (ho128_10 P) .nil .nil) .nil) (.node (ho96_6 P) .nil .nil)) (.node (ho48_2 P) (.node (ho80_3 P) (.node (ho144_15 P) .nil .nil) .nil) (.node (ho112_8 P) .nil .nil))) (.node (hb24 P) (.node (ho40_1 P) (.node (ho72_3 P) (.node (ho136_13 P) .nil .nil) .nil) (.node (ho104_7 P) .nil .nil)) (.node (ho56_3 P) (.node (ho88_3 P) (.node (ho152_17 P) .nil .nil) .nil) (.node (ho120_9 P) .nil .nil)))) (.node (hb12 P) (.node (hb20 P) (.node (ho36_1 P) (.node (ho68_3 P) (.node (ho132_12 P) .nil .nil) .nil) (.node (ho100_6 P) .nil .nil)) (.node (ho52_3 P) (.node (ho84_3 P) (.node (ho148_17 P) .nil .nil) .nil) (.node (ho116_8 P) .nil .nil))) (.node (ho28_pre P) (.node (ho44_2 P) (.node (ho76_3 P) (.node (ho140_13 P) .nil .nil) .nil) (.node (ho108_7 P) .nil .nil)) (.node (ho60_3 P) (.node (ho92_4 P) .nil .nil) (.node (ho124_10 P) .nil .nil))))) (.node (hb6 P) (.node (hb10 P) (.node (hb18 P) (.node (ho34_1 P) (.node (ho66_3 P) (.node (ho130_10 P) .nil .nil) .nil) (.node (ho98_6 P) .nil .nil)) (.node (ho50_3 P) (.node (ho82_3 P) (.node (ho146_15 P) .nil .nil) .nil) (.node (ho114_8 P) .nil .nil))) (.node (hb26 P) (.node (ho42_1 P) (.node (ho74_3 P) (.node (ho138_13 P) .nil .nil) .nil) (.node (ho106_7 P) .nil .nil)) (.node (ho58_3 P) (.node (ho90_4 P) (.node (ho154_17 P) .nil .nil) .nil) (.node (ho122_9 P) .nil .nil)))) (.node (hb14 P) (.node (hb22 P) (.node (ho38_1 P) (.node (ho70_3 P) (.node (ho134_12 P) .nil .nil) .nil) (.node (ho102_6 P) .nil .nil)) (.node (ho54_3 P) (.node (ho86_3 P) (.node (ho150_17 P) .nil .nil) .nil) (.node (ho118_9 P) .nil .nil))) (.node (ho30_pre P) (.node (ho46_2 P) (.node (ho78_3 P) (.node (ho142_15 P) .nil .nil) .nil) (.node (ho110_8 P) .nil .nil)) (.node (ho62_3 P) (.node (ho94_4 P) .nil .nil) (.node (ho126_10 P) .nil .nil)))))))
noncomputable def me_18 : Params → List DictEntry := fun P => me_17 P ++ [⟨(kh P "_law_unseen"), (hsv "_law_unseen" 2441), (.ref 161)⟩]
noncomputable def ho3_18 : Params → Obj := fun P => ⟨(.type "dict"), none, (.dict (me_18 P).toArray 25), #[]⟩
noncomputable def ho29_18 : Params → Obj := fun _ => ⟨.none, none, (.fields #[(.int 4 0), (.int 0 0), (.ref 48), (.int 7 0), (.int 0 0), (.ref 94), (.int 13 0), (.int 0 0), (.ref 101), (.int 15 0), (.int 0 0), (.ref 108), (.int 17 0), (.int 0 0), (.ref 115), (.int 19 0), (.int 0 0), (.ref 122), (.int 25 0), (.int 0 0), (.ref 129), (.int 32 0), (.int 0 0), (.ref 146), (.int 35 0), (.int 0 0), (.ref 153), (.int 46 0), (.int 0 0), (.ref 160)]), #[]⟩
noncomputable def ho155_18 : Params → Obj := fun _ => ⟨(.type "tuple"), none, (.seq #[] 0), #[]⟩
noncomputable def ho156_18 : Params → Obj := fun _ => ⟨.none, none, (.fields #[]), #[]⟩
noncomputable def ho157_18 : Params → Obj := fun _ => ⟨(.type "tuple"), none, (.seq #[(hsv "number" 2438)] 0), #[]⟩
noncomputable def ho158_18 : Params → Obj := fun _ => ⟨(.type "tuple"), none, (.seq #[] 0), #[]⟩
noncomputable def ho159_18 : Params → Obj := fun _ => ⟨.none, none, (.func ⟨(Str.ofString "_law_unseen"), (Str.ofString "_law_unseen"), q19.1.1, (.stmts q19.1.2.1), q19.1.2.2, 0, [], .none, .none, .none, .none, none, .none, .none, 0⟩), #[]⟩
noncomputable def ho160_18 : Params → Obj := fun _ => ⟨(.type "code"), none, (.fields #[(hsv "_law_unseen" 2435), (hsv "_law_unseen" 2436), (hsv "/claim/cut.py" 2437), (.int 46 0), (.int 1 0), (.int 0 0), (.int 0 0), (.int 3 0), (.ref 155), (.bool true), (.int 276 0), (.ref 156), .none, (.ref 157), (.ref 158), (.ref 159), (.int 2439 0), (.int 46 0), (hsv "/claim/cut.py" 2440)]), #[]⟩
noncomputable def ho161_18 : Params → Obj := fun _ => ⟨(.type "function"), none, (.func ⟨(Str.ofString "_law_unseen"), (Str.ofString "_law_unseen"), q19.1.1, (.stmts q19.1.2.1), q19.1.2.2, 3, [], .none, .none, .none, (hsv "law_ti0026_01" 2423), none, (.ref 160), .none, 0⟩), #[]⟩
noncomputable def hT_18 : Params → BT := fun P => (.node (hb0 P) (.node (hb1 P) (.node (ho3_18 P) (.node (hb7 P) (.node (hb15 P) (.node (ho31_pre P) (.node (ho63_3 P) (.node (ho127_10 P) .nil .nil) .nil) (.node (ho95_4 P) (.node (ho159_18 P) .nil .nil) .nil)) (.node (ho47_2 P) (.node (ho79_3 P) (.node (ho143_15 P) .nil .nil) .nil) (.node (ho111_8 P) .nil .nil))) (.node (hb23 P) (.node (ho39_1 P) (.node (ho71_3 P) (.node (ho135_12 P) .nil .nil) .nil) (.node (ho103_7 P) .nil .nil)) (.node (ho55_3 P) (.node (ho87_3 P) (.node (ho151_17 P) .nil .nil) .nil) (.node (ho119_9 P) .nil .nil)))) (.node (hb11 P) (.node (hb19 P) (.node (ho35_1 P) (.node (ho67_3 P) (.node (ho131_12 P) .nil .nil) .nil) (.node (ho99_6 P) .nil .nil)) (.node (ho51_3 P) (.node (ho83_3 P) (.node (ho147_15 P) .nil .nil) .nil) (.node (ho115_8 P) .nil .nil))) (.node (hb27 P) (.node (ho43_2 P) (.node (ho75_3 P) (.node (ho139_13 P) .nil .nil) .nil) (.node (ho107_7 P) .nil .nil)) (.node (ho59_3 P) (.node (ho91_4 P) (.node (ho155_18 P) .nil .nil) .nil) (.node (ho123_9 P) .nil .nil))))) (.node (hb5 P) (.node (hb9 P) (.node (hb17 P) (.node (ho33_1 P) (.node (ho65_3 P) (.node (ho129_10 P) .nil .nil) .nil) (.node (ho97_6 P) (.node (ho161_18 P) .nil .nil) .nil)) (.node (ho49_2 P) (.node (ho81_3 P) (.node (ho145_15 P) .nil .nil) .nil) (.node (ho113_8 P) .nil .nil))) (.node (hb25 P) (.node (ho41_1 P) (.node (ho73_3 P) (.node (ho137_13 P) .nil .nil) .nil) (.node (ho105_7 P) .nil .nil)) (.node (ho57_3 P) (.node (ho89_4 P) (.node (ho153_17 P) .nil .nil) .nil) (.node (ho121_9 P) .nil .nil)))) (.node (hb13 P) (.node (hb21 P) (.node (ho37_1 P) (.node (ho69_3 P) (.node (ho133_12 P) .nil .nil) .nil) (.node (ho101_6 P) .nil .nil)) (.node (ho53_3 P) (.node (ho85_3 P) (.node (ho149_17 P) .nil .nil) .nil) (.node (ho117_9 P) .nil .nil))) (.node (ho29_18 P) (.node (ho45_2 P) (.node (ho77_3 P) (.node (ho141_15 P) .nil .nil) .nil) (.node (ho109_7 P) .nil .nil)) (.node (ho61_3 P) (.node (ho93_4 P) (.node (ho157_18 P) .nil .nil) .nil) (.node (ho125_10 P) .nil .nil)))))) (.node (hb2 P) (.node (hb4 P) (.node (hb8 P) (.node (hb16 P) (.node (ho32_1 P) (.node (ho64_3 P) (.node (ho128_10 P) .nil .nil) .nil) (.node (ho96_6 P) (.node (ho160_18 P) .nil .nil) .nil)) (.node (ho48_2 P) (.node (ho80_3 P) (.node (ho144_15 P) .nil .nil) .nil) (.node (ho112_8 P) .nil .nil))) (.node (hb24 P) (.node (ho40_1 P) (.node (ho72_3 P) (.node (ho136_13 P) .nil .nil) .nil) (.node (ho104_7 P) .nil .nil)) (.node (ho56_3 P) (.node (ho88_3 P) (.node (ho152_17 P) .nil .nil) .nil) (.node (ho120_9 P) .nil .nil)))) (.node (hb12 P) (.node (hb20 P) (.node (ho36_1 P) (.node (ho68_3 P) (.node (ho132_12 P) .nil .nil) .nil) (.node (ho100_6 P) .nil .nil)) (.node (ho52_3 P) (.node (ho84_3 P) (.node (ho148_17 P) .nil .nil) .nil) (.node (ho116_8 P) .nil .nil))) (.node (ho28_pre P) (.node (ho44_2 P) (.node (ho76_3 P) (.node (ho140_13 P) .nil .nil) .nil) (.node (ho108_7 P) .nil .nil)) (.node (ho60_3 P) (.node (ho92_4 P) (.node (ho156_18 P) .nil .nil) .nil) (.node (ho124_10 P) .nil .nil))))) (.node (hb6 P) (.node (hb10 P) (.node (hb18 P) (.node (ho34_1 P) (.node (ho66_3 P) (.node (ho130_10 P) .nil .nil) .nil) (.node (ho98_6 P) .nil .nil)) (.node (ho50_3 P) (.node (ho82_3 P) (.node (ho146_15 P) .nil .nil) .nil) (.node (ho114_8 P) .nil .nil))) (.node (hb26 P) (.node (ho42_1 P) (.node (ho74_3 P) (.node (ho138_13 P) .nil .nil) .nil) (.node (ho106_7 P) .nil .nil)) (.node (ho58_3 P) (.node (ho90_4 P) (.node (ho154_17 P) .nil .nil) .nil) (.node (ho122_9 P) .nil .nil)))) (.node (hb14 P) (.node (hb22 P) (.node (ho38_1 P) (.node (ho70_3 P) (.node (ho134_12 P) .nil .nil) .nil) (.node (ho102_6 P) .nil .nil)) (.node (ho54_3 P) (.node (ho86_3 P) (.node (ho150_17 P) .nil .nil) .nil) (.node (ho118_9 P) .nil .nil))) (.node (ho30_pre P) (.node (ho46_2 P) (.node (ho78_3 P) (.node (ho142_15 P) .nil .nil) .nil) (.node (ho110_8 P) .nil .nil)) (.node (ho62_3 P) (.node (ho94_4 P) (.node (ho158_18 P) .nil .nil) .nil) (.node (ho126_10 P) .nil .nil)))))))
noncomputable def me_19 : Params → List DictEntry := fun P => me_18 P ++ [⟨(kh P "_law_prepared"), (hsv "_law_prepared" 2451), (.ref 168)⟩]
noncomputable def ho3_19 : Params → Obj := fun P => ⟨(.type "dict"), none, (.dict (me_19 P).toArray 26), #[]⟩
noncomputable def ho29_19 : Params → Obj := fun _ => ⟨.none, none, (.fields #[(.int 4 0), (.int 0 0), (.ref 48), (.int 7 0), (.int 0 0), (.ref 94), (.int 13 0), (.int 0 0), (.ref 101), (.int 15 0), (.int 0 0), (.ref 108), (.int 17 0), (.int 0 0), (.ref 115), (.int 19 0), (.int 0 0), (.ref 122), (.int 25 0), (.int 0 0), (.ref 129), (.int 32 0), (.int 0 0), (.ref 146), (.int 35 0), (.int 0 0), (.ref 153), (.int 46 0), (.int 0 0), (.ref 160), (.int 48 0), (.int 0 0), (.ref 167)]), #[]⟩
noncomputable def ho162_19 : Params → Obj := fun _ => ⟨(.type "tuple"), none, (.seq #[] 0), #[]⟩
noncomputable def ho163_19 : Params → Obj := fun _ => ⟨.none, none, (.fields #[]), #[]⟩
noncomputable def ho164_19 : Params → Obj := fun _ => ⟨(.type "tuple"), none, (.seq #[(hsv "text" 2445), (hsv "kept" 2446), (hsv "sign" 2447), (hsv "held" 2448)] 0), #[]⟩
noncomputable def ho165_19 : Params → Obj := fun _ => ⟨(.type "tuple"), none, (.seq #[] 0), #[]⟩
noncomputable def ho166_19 : Params → Obj := fun _ => ⟨.none, none, (.func ⟨(Str.ofString "_law_prepared"), (Str.ofString "_law_prepared"), q20.1.1, (.stmts q20.1.2.1), q20.1.2.2, 0, [], .none, .none, .none, .none, none, .none, .none, 0⟩), #[]⟩
noncomputable def ho167_19 : Params → Obj := fun _ => ⟨(.type "code"), none, (.fields #[(hsv "_law_prepared" 2442), (hsv "_law_prepared" 2443), (hsv "/claim/cut.py" 2444), (.int 48 0), (.int 1 0), (.int 0 0), (.int 0 0), (.int 3 0), (.ref 162), (.bool true), (.int 276 0), (.ref 163), .none, (.ref 164), (.ref 165), (.ref 166), (.int 2449 0), (.int 48 0), (hsv "/claim/cut.py" 2450)]), #[]⟩
noncomputable def ho168_19 : Params → Obj := fun _ => ⟨(.type "function"), none, (.func ⟨(Str.ofString "_law_prepared"), (Str.ofString "_law_prepared"), q20.1.1, (.stmts q20.1.2.1), q20.1.2.2, 3, [], .none, .none, .none, (hsv "law_ti0026_01" 2423), none, (.ref 167), .none, 0⟩), #[]⟩
noncomputable def hT_19 : Params → BT := fun P => (.node (hb0 P) (.node (hb1 P) (.node (ho3_19 P) (.node (hb7 P) (.node (hb15 P) (.node (ho31_pre P) (.node (ho63_3 P) (.node (ho127_10 P) .nil .nil) .nil) (.node (ho95_4 P) (.node (ho159_18 P) .nil .nil) .nil)) (.node (ho47_2 P) (.node (ho79_3 P) (.node (ho143_15 P) .nil .nil) .nil) (.node (ho111_8 P) .nil .nil))) (.node (hb23 P) (.node (ho39_1 P) (.node (ho71_3 P) (.node (ho135_12 P) .nil .nil) .nil) (.node (ho103_7 P) (.node (ho167_19 P) .nil .nil) .nil)) (.node (ho55_3 P) (.node (ho87_3 P) (.node (ho151_17 P) .nil .nil) .nil) (.node (ho119_9 P) .nil .nil)))) (.node (hb11 P) (.node (hb19 P) (.node (ho35_1 P) (.node (ho67_3 P) (.node (ho131_12 P) .nil .nil) .nil) (.node (ho99_6 P) (.node (ho163_19 P) .nil .nil) .nil)) (.node (ho51_3 P) (.node (ho83_3 P) (.node (ho147_15 P) .nil .nil) .nil) (.node (ho115_8 P) .nil .nil))) (.node (hb27 P) (.node (ho43_2 P) (.node (ho75_3 P) (.node (ho139_13 P) .nil .nil) .nil) (.node (ho107_7 P) .nil .nil)) (.node (ho59_3 P) (.node (ho91_4 P) (.node (ho155_18 P) .nil .nil) .nil) (.node (ho123_9 P) .nil .nil))))) (.node (hb5 P) (.node (hb9 P) (.node (hb17 P) (.node (ho33_1 P) (.node (ho65_3 P) (.node (ho129_10 P) .nil .nil) .nil) (.node (ho97_6 P) (.node (ho161_18 P) .nil .nil) .nil)) (.node (ho49_2 P) (.node (ho81_3 P) (.node (ho145_15 P) .nil .nil) .nil) (.node (ho113_8 P) .nil .nil))) (.node (hb25 P) (.node (ho41_1 P) (.node (ho73_3 P) (.node (ho137_13 P) .nil .nil) .nil) (.node (ho105_7 P) .nil .nil)) (.node (ho57_3 P) (.node (ho89_4 P) (.node (ho153_17 P) .nil .nil) .nil) (.node (ho121_9 P) .nil .nil)))) (.node (hb13 P) (.node (hb21 P) (.node (ho37_1 P) (.node (ho69_3 P) (.node (ho133_12 P) .nil .nil) .nil) (.node (ho101_6 P) (.node (ho165_19 P) .nil .nil) .nil)) (.node (ho53_3 P) (.node (ho85_3 P) (.node (ho149_17 P) .nil .nil) .nil) (.node (ho117_9 P) .nil .nil))) (.node (ho29_19 P) (.node (ho45_2 P) (.node (ho77_3 P) (.node (ho141_15 P) .nil .nil) .nil) (.node (ho109_7 P) .nil .nil)) (.node (ho61_3 P) (.node (ho93_4 P) (.node (ho157_18 P) .nil .nil) .nil) (.node (ho125_10 P) .nil .nil)))))) (.node (hb2 P) (.node (hb4 P) (.node (hb8 P) (.node (hb16 P) (.node (ho32_1 P) (.node (ho64_3 P) (.node (ho128_10 P) .nil .nil) .nil) (.node (ho96_6 P) (.node (ho160_18 P) .nil .nil) .nil)) (.node (ho48_2 P) (.node (ho80_3 P) (.node (ho144_15 P) .nil .nil) .nil) (.node (ho112_8 P) .nil .nil))) (.node (hb24 P) (.node (ho40_1 P) (.node (ho72_3 P) (.node (ho136_13 P) .nil .nil) .nil) (.node (ho104_7 P) (.node (ho168_19 P) .nil .nil) .nil)) (.node (ho56_3 P) (.node (ho88_3 P) (.node (ho152_17 P) .nil .nil) .nil) (.node (ho120_9 P) .nil .nil)))) (.node (hb12 P) (.node (hb20 P) (.node (ho36_1 P) (.node (ho68_3 P) (.node (ho132_12 P) .nil .nil) .nil) (.node (ho100_6 P) (.node (ho164_19 P) .nil .nil) .nil)) (.node (ho52_3 P) (.node (ho84_3 P) (.node (ho148_17 P) .nil .nil) .nil) (.node (ho116_8 P) .nil .nil))) (.node (ho28_pre P) (.node (ho44_2 P) (.node (ho76_3 P) (.node (ho140_13 P) .nil .nil) .nil) (.node (ho108_7 P) .nil .nil)) (.node (ho60_3 P) (.node (ho92_4 P) (.node (ho156_18 P) .nil .nil) .nil) (.node (ho124_10 P) .nil .nil))))) (.node (hb6 P) (.node (hb10 P) (.node (hb18 P) (.node (ho34_1 P) (.node (ho66_3 P) (.node (ho130_10 P) .nil .nil) .nil) (.node (ho98_6 P) (.node (ho162_19 P) .nil .nil) .nil)) (.node (ho50_3 P) (.node (ho82_3 P) (.node (ho146_15 P) .nil .nil) .nil) (.node (ho114_8 P) .nil .nil))) (.node (hb26 P) (.node (ho42_1 P) (.node (ho74_3 P) (.node (ho138_13 P) .nil .nil) .nil) (.node (ho106_7 P) .nil .nil)) (.node (ho58_3 P) (.node (ho90_4 P) (.node (ho154_17 P) .nil .nil) .nil) (.node (ho122_9 P) .nil .nil)))) (.node (hb14 P) (.node (hb22 P) (.node (ho38_1 P) (.node (ho70_3 P) (.node (ho134_12 P) .nil .nil) .nil) (.node (ho102_6 P) (.node (ho166_19 P) .nil .nil) .nil)) (.node (ho54_3 P) (.node (ho86_3 P) (.node (ho150_17 P) .nil .nil) .nil) (.node (ho118_9 P) .nil .nil))) (.node (ho30_pre P) (.node (ho46_2 P) (.node (ho78_3 P) (.node (ho142_15 P) .nil .nil) .nil) (.node (ho110_8 P) .nil .nil)) (.node (ho62_3 P) (.node (ho94_4 P) (.node (ho158_18 P) .nil .nil) .nil) (.node (ho126_10 P) .nil .nil)))))))
noncomputable def me_20 : Params → List DictEntry := fun P => me_19 P ++ [⟨(kh P "_law_turn"), (hsv "_law_turn" 2466), (.ref 175)⟩]
noncomputable def ho3_20 : Params → Obj := fun P => ⟨(.type "dict"), none, (.dict (me_20 P).toArray 27), #[]⟩
noncomputable def ho29_20 : Params → Obj := fun _ => ⟨.none, none, (.fields #[(.int 4 0), (.int 0 0), (.ref 48), (.int 7 0), (.int 0 0), (.ref 94), (.int 13 0), (.int 0 0), (.ref 101), (.int 15 0), (.int 0 0), (.ref 108), (.int 17 0), (.int 0 0), (.ref 115), (.int 19 0), (.int 0 0), (.ref 122), (.int 25 0), (.int 0 0), (.ref 129), (.int 32 0), (.int 0 0), (.ref 146), (.int 35 0), (.int 0 0), (.ref 153), (.int 46 0), (.int 0 0), (.ref 160), (.int 48 0), (.int 0 0), (.ref 167), (.int 57 0), (.int 0 0), (.ref 174)]), #[]⟩
noncomputable def ho169_20 : Params → Obj := fun _ => ⟨(.type "tuple"), none, (.seq #[] 0), #[]⟩
noncomputable def ho170_20 : Params → Obj := fun _ => ⟨.none, none, (.fields #[]), #[]⟩
noncomputable def ho171_20 : Params → Obj := fun _ => ⟨(.type "tuple"), none, (.seq #[(hsv "rows" 2455), (hsv "bare" 2456), (hsv "rests" 2457), (hsv "turn" 2458), (hsv "times" 2459), (hsv "mail" 2460), (hsv "j" 2461), (hsv "ends" 2462), (hsv "sending" 2463)] 0), #[]⟩
noncomputable def ho172_20 : Params → Obj := fun _ => ⟨(.type "tuple"), none, (.seq #[] 0), #[]⟩
noncomputable def ho173_20 : Params → Obj := fun _ => ⟨.none, none, (.func ⟨(Str.ofString "_law_turn"), (Str.ofString "_law_turn"), q21.1.1, (.stmts q21.1.2.1), q21.1.2.2, 0, [], .none, .none, .none, .none, none, .none, .none, 0⟩), #[]⟩
noncomputable def ho174_20 : Params → Obj := fun _ => ⟨(.type "code"), none, (.fields #[(hsv "_law_turn" 2452), (hsv "_law_turn" 2453), (hsv "/claim/cut.py" 2454), (.int 57 0), (.int 5 0), (.int 0 0), (.int 0 0), (.int 3 0), (.ref 169), (.bool true), (.int 276 0), (.ref 170), .none, (.ref 171), (.ref 172), (.ref 173), (.int 2464 0), (.int 57 0), (hsv "/claim/cut.py" 2465)]), #[]⟩
noncomputable def ho175_20 : Params → Obj := fun _ => ⟨(.type "function"), none, (.func ⟨(Str.ofString "_law_turn"), (Str.ofString "_law_turn"), q21.1.1, (.stmts q21.1.2.1), q21.1.2.2, 3, [], .none, .none, .none, (hsv "law_ti0026_01" 2423), none, (.ref 174), .none, 0⟩), #[]⟩
noncomputable def hT_20 : Params → BT := fun P => (.node (hb0 P) (.node (hb1 P) (.node (ho3_20 P) (.node (hb7 P) (.node (hb15 P) (.node (ho31_pre P) (.node (ho63_3 P) (.node (ho127_10 P) .nil .nil) .nil) (.node (ho95_4 P) (.node (ho159_18 P) .nil .nil) .nil)) (.node (ho47_2 P) (.node (ho79_3 P) (.node (ho143_15 P) .nil .nil) .nil) (.node (ho111_8 P) (.node (ho175_20 P) .nil .nil) .nil))) (.node (hb23 P) (.node (ho39_1 P) (.node (ho71_3 P) (.node (ho135_12 P) .nil .nil) .nil) (.node (ho103_7 P) (.node (ho167_19 P) .nil .nil) .nil)) (.node (ho55_3 P) (.node (ho87_3 P) (.node (ho151_17 P) .nil .nil) .nil) (.node (ho119_9 P) .nil .nil)))) (.node (hb11 P) (.node (hb19 P) (.node (ho35_1 P) (.node (ho67_3 P) (.node (ho131_12 P) .nil .nil) .nil) (.node (ho99_6 P) (.node (ho163_19 P) .nil .nil) .nil)) (.node (ho51_3 P) (.node (ho83_3 P) (.node (ho147_15 P) .nil .nil) .nil) (.node (ho115_8 P) .nil .nil))) (.node (hb27 P) (.node (ho43_2 P) (.node (ho75_3 P) (.node (ho139_13 P) .nil .nil) .nil) (.node (ho107_7 P) (.node (ho171_20 P) .nil .nil) .nil)) (.node (ho59_3 P) (.node (ho91_4 P) (.node (ho155_18 P) .nil .nil) .nil) (.node (ho123_9 P) .nil .nil))))) (.node (hb5 P) (.node (hb9 P) (.node (hb17 P) (.node (ho33_1 P) (.node (ho65_3 P) (.node (ho129_10 P) .nil .nil) .nil) (.node (ho97_6 P) (.node (ho161_18 P) .nil .nil) .nil)) (.node (ho49_2 P) (.node (ho81_3 P) (.node (ho145_15 P) .nil .nil) .nil) (.node (ho113_8 P) .nil .nil))) (.node (hb25 P) (.node (ho41_1 P) (.node (ho73_3 P) (.node (ho137_13 P) .nil .nil) .nil) (.node (ho105_7 P) (.node (ho169_20 P) .nil .nil) .nil)) (.node (ho57_3 P) (.node (ho89_4 P) (.node (ho153_17 P) .nil .nil) .nil) (.node (ho121_9 P) .nil .nil)))) (.node (hb13 P) (.node (hb21 P) (.node (ho37_1 P) (.node (ho69_3 P) (.node (ho133_12 P) .nil .nil) .nil) (.node (ho101_6 P) (.node (ho165_19 P) .nil .nil) .nil)) (.node (ho53_3 P) (.node (ho85_3 P) (.node (ho149_17 P) .nil .nil) .nil) (.node (ho117_9 P) .nil .nil))) (.node (ho29_20 P) (.node (ho45_2 P) (.node (ho77_3 P) (.node (ho141_15 P) .nil .nil) .nil) (.node (ho109_7 P) (.node (ho173_20 P) .nil .nil) .nil)) (.node (ho61_3 P) (.node (ho93_4 P) (.node (ho157_18 P) .nil .nil) .nil) (.node (ho125_10 P) .nil .nil)))))) (.node (hb2 P) (.node (hb4 P) (.node (hb8 P) (.node (hb16 P) (.node (ho32_1 P) (.node (ho64_3 P) (.node (ho128_10 P) .nil .nil) .nil) (.node (ho96_6 P) (.node (ho160_18 P) .nil .nil) .nil)) (.node (ho48_2 P) (.node (ho80_3 P) (.node (ho144_15 P) .nil .nil) .nil) (.node (ho112_8 P) .nil .nil))) (.node (hb24 P) (.node (ho40_1 P) (.node (ho72_3 P) (.node (ho136_13 P) .nil .nil) .nil) (.node (ho104_7 P) (.node (ho168_19 P) .nil .nil) .nil)) (.node (ho56_3 P) (.node (ho88_3 P) (.node (ho152_17 P) .nil .nil) .nil) (.node (ho120_9 P) .nil .nil)))) (.node (hb12 P) (.node (hb20 P) (.node (ho36_1 P) (.node (ho68_3 P) (.node (ho132_12 P) .nil .nil) .nil) (.node (ho100_6 P) (.node (ho164_19 P) .nil .nil) .nil)) (.node (ho52_3 P) (.node (ho84_3 P) (.node (ho148_17 P) .nil .nil) .nil) (.node (ho116_8 P) .nil .nil))) (.node (ho28_pre P) (.node (ho44_2 P) (.node (ho76_3 P) (.node (ho140_13 P) .nil .nil) .nil) (.node (ho108_7 P) (.node (ho172_20 P) .nil .nil) .nil)) (.node (ho60_3 P) (.node (ho92_4 P) (.node (ho156_18 P) .nil .nil) .nil) (.node (ho124_10 P) .nil .nil))))) (.node (hb6 P) (.node (hb10 P) (.node (hb18 P) (.node (ho34_1 P) (.node (ho66_3 P) (.node (ho130_10 P) .nil .nil) .nil) (.node (ho98_6 P) (.node (ho162_19 P) .nil .nil) .nil)) (.node (ho50_3 P) (.node (ho82_3 P) (.node (ho146_15 P) .nil .nil) .nil) (.node (ho114_8 P) .nil .nil))) (.node (hb26 P) (.node (ho42_1 P) (.node (ho74_3 P) (.node (ho138_13 P) .nil .nil) .nil) (.node (ho106_7 P) (.node (ho170_20 P) .nil .nil) .nil)) (.node (ho58_3 P) (.node (ho90_4 P) (.node (ho154_17 P) .nil .nil) .nil) (.node (ho122_9 P) .nil .nil)))) (.node (hb14 P) (.node (hb22 P) (.node (ho38_1 P) (.node (ho70_3 P) (.node (ho134_12 P) .nil .nil) .nil) (.node (ho102_6 P) (.node (ho166_19 P) .nil .nil) .nil)) (.node (ho54_3 P) (.node (ho86_3 P) (.node (ho150_17 P) .nil .nil) .nil) (.node (ho118_9 P) .nil .nil))) (.node (ho30_pre P) (.node (ho46_2 P) (.node (ho78_3 P) (.node (ho142_15 P) .nil .nil) .nil) (.node (ho110_8 P) (.node (ho174_20 P) .nil .nil) .nil)) (.node (ho62_3 P) (.node (ho94_4 P) (.node (ho158_18 P) .nil .nil) .nil) (.node (ho126_10 P) .nil .nil)))))))
noncomputable def me_21 : Params → List DictEntry := fun P => me_20 P ++ [⟨(kh P "_law_refused"), (hsv "_law_refused" 2474), (.ref 182)⟩]
noncomputable def ho3_21 : Params → Obj := fun P => ⟨(.type "dict"), none, (.dict (me_21 P).toArray 28), #[]⟩
noncomputable def ho29_21 : Params → Obj := fun _ => ⟨.none, none, (.fields #[(.int 4 0), (.int 0 0), (.ref 48), (.int 7 0), (.int 0 0), (.ref 94), (.int 13 0), (.int 0 0), (.ref 101), (.int 15 0), (.int 0 0), (.ref 108), (.int 17 0), (.int 0 0), (.ref 115), (.int 19 0), (.int 0 0), (.ref 122), (.int 25 0), (.int 0 0), (.ref 129), (.int 32 0), (.int 0 0), (.ref 146), (.int 35 0), (.int 0 0), (.ref 153), (.int 46 0), (.int 0 0), (.ref 160), (.int 48 0), (.int 0 0), (.ref 167), (.int 57 0), (.int 0 0), (.ref 174), (.int 68 0), (.int 0 0), (.ref 181)]), #[]⟩
noncomputable def ho176_21 : Params → Obj := fun _ => ⟨(.type "tuple"), none, (.seq #[] 0), #[]⟩
noncomputable def ho177_21 : Params → Obj := fun _ => ⟨.none, none, (.fields #[]), #[]⟩
noncomputable def ho178_21 : Params → Obj := fun _ => ⟨(.type "tuple"), none, (.seq #[(hsv "row" 2470), (hsv "sign" 2471)] 0), #[]⟩
noncomputable def ho179_21 : Params → Obj := fun _ => ⟨(.type "tuple"), none, (.seq #[] 0), #[]⟩
noncomputable def ho180_21 : Params → Obj := fun _ => ⟨.none, none, (.func ⟨(Str.ofString "_law_refused"), (Str.ofString "_law_refused"), q22.1.1, (.stmts q22.1.2.1), q22.1.2.2, 0, [], .none, .none, .none, .none, none, .none, .none, 0⟩), #[]⟩
noncomputable def ho181_21 : Params → Obj := fun _ => ⟨(.type "code"), none, (.fields #[(hsv "_law_refused" 2467), (hsv "_law_refused" 2468), (hsv "/claim/cut.py" 2469), (.int 68 0), (.int 2 0), (.int 0 0), (.int 0 0), (.int 3 0), (.ref 176), (.bool true), (.int 276 0), (.ref 177), .none, (.ref 178), (.ref 179), (.ref 180), (.int 2472 0), (.int 68 0), (hsv "/claim/cut.py" 2473)]), #[]⟩
noncomputable def ho182_21 : Params → Obj := fun _ => ⟨(.type "function"), none, (.func ⟨(Str.ofString "_law_refused"), (Str.ofString "_law_refused"), q22.1.1, (.stmts q22.1.2.1), q22.1.2.2, 3, [], .none, .none, .none, (hsv "law_ti0026_01" 2423), none, (.ref 181), .none, 0⟩), #[]⟩
noncomputable def hT_21 : Params → BT := fun P => (.node (hb0 P) (.node (hb1 P) (.node (ho3_21 P) (.node (hb7 P) (.node (hb15 P) (.node (ho31_pre P) (.node (ho63_3 P) (.node (ho127_10 P) .nil .nil) .nil) (.node (ho95_4 P) (.node (ho159_18 P) .nil .nil) .nil)) (.node (ho47_2 P) (.node (ho79_3 P) (.node (ho143_15 P) .nil .nil) .nil) (.node (ho111_8 P) (.node (ho175_20 P) .nil .nil) .nil))) (.node (hb23 P) (.node (ho39_1 P) (.node (ho71_3 P) (.node (ho135_12 P) .nil .nil) .nil) (.node (ho103_7 P) (.node (ho167_19 P) .nil .nil) .nil)) (.node (ho55_3 P) (.node (ho87_3 P) (.node (ho151_17 P) .nil .nil) .nil) (.node (ho119_9 P) .nil .nil)))) (.node (hb11 P) (.node (hb19 P) (.node (ho35_1 P) (.node (ho67_3 P) (.node (ho131_12 P) .nil .nil) .nil) (.node (ho99_6 P) (.node (ho163_19 P) .nil .nil) .nil)) (.node (ho51_3 P) (.node (ho83_3 P) (.node (ho147_15 P) .nil .nil) .nil) (.node (ho115_8 P) (.node (ho179_21 P) .nil .nil) .nil))) (.node (hb27 P) (.node (ho43_2 P) (.node (ho75_3 P) (.node (ho139_13 P) .nil .nil) .nil) (.node (ho107_7 P) (.node (ho171_20 P) .nil .nil) .nil)) (.node (ho59_3 P) (.node (ho91_4 P) (.node (ho155_18 P) .nil .nil) .nil) (.node (ho123_9 P) .nil .nil))))) (.node (hb5 P) (.node (hb9 P) (.node (hb17 P) (.node (ho33_1 P) (.node (ho65_3 P) (.node (ho129_10 P) .nil .nil) .nil) (.node (ho97_6 P) (.node (ho161_18 P) .nil .nil) .nil)) (.node (ho49_2 P) (.node (ho81_3 P) (.node (ho145_15 P) .nil .nil) .nil) (.node (ho113_8 P) (.node (ho177_21 P) .nil .nil) .nil))) (.node (hb25 P) (.node (ho41_1 P) (.node (ho73_3 P) (.node (ho137_13 P) .nil .nil) .nil) (.node (ho105_7 P) (.node (ho169_20 P) .nil .nil) .nil)) (.node (ho57_3 P) (.node (ho89_4 P) (.node (ho153_17 P) .nil .nil) .nil) (.node (ho121_9 P) .nil .nil)))) (.node (hb13 P) (.node (hb21 P) (.node (ho37_1 P) (.node (ho69_3 P) (.node (ho133_12 P) .nil .nil) .nil) (.node (ho101_6 P) (.node (ho165_19 P) .nil .nil) .nil)) (.node (ho53_3 P) (.node (ho85_3 P) (.node (ho149_17 P) .nil .nil) .nil) (.node (ho117_9 P) (.node (ho181_21 P) .nil .nil) .nil))) (.node (ho29_21 P) (.node (ho45_2 P) (.node (ho77_3 P) (.node (ho141_15 P) .nil .nil) .nil) (.node (ho109_7 P) (.node (ho173_20 P) .nil .nil) .nil)) (.node (ho61_3 P) (.node (ho93_4 P) (.node (ho157_18 P) .nil .nil) .nil) (.node (ho125_10 P) .nil .nil)))))) (.node (hb2 P) (.node (hb4 P) (.node (hb8 P) (.node (hb16 P) (.node (ho32_1 P) (.node (ho64_3 P) (.node (ho128_10 P) .nil .nil) .nil) (.node (ho96_6 P) (.node (ho160_18 P) .nil .nil) .nil)) (.node (ho48_2 P) (.node (ho80_3 P) (.node (ho144_15 P) .nil .nil) .nil) (.node (ho112_8 P) (.node (ho176_21 P) .nil .nil) .nil))) (.node (hb24 P) (.node (ho40_1 P) (.node (ho72_3 P) (.node (ho136_13 P) .nil .nil) .nil) (.node (ho104_7 P) (.node (ho168_19 P) .nil .nil) .nil)) (.node (ho56_3 P) (.node (ho88_3 P) (.node (ho152_17 P) .nil .nil) .nil) (.node (ho120_9 P) .nil .nil)))) (.node (hb12 P) (.node (hb20 P) (.node (ho36_1 P) (.node (ho68_3 P) (.node (ho132_12 P) .nil .nil) .nil) (.node (ho100_6 P) (.node (ho164_19 P) .nil .nil) .nil)) (.node (ho52_3 P) (.node (ho84_3 P) (.node (ho148_17 P) .nil .nil) .nil) (.node (ho116_8 P) (.node (ho180_21 P) .nil .nil) .nil))) (.node (ho28_pre P) (.node (ho44_2 P) (.node (ho76_3 P) (.node (ho140_13 P) .nil .nil) .nil) (.node (ho108_7 P) (.node (ho172_20 P) .nil .nil) .nil)) (.node (ho60_3 P) (.node (ho92_4 P) (.node (ho156_18 P) .nil .nil) .nil) (.node (ho124_10 P) .nil .nil))))) (.node (hb6 P) (.node (hb10 P) (.node (hb18 P) (.node (ho34_1 P) (.node (ho66_3 P) (.node (ho130_10 P) .nil .nil) .nil) (.node (ho98_6 P) (.node (ho162_19 P) .nil .nil) .nil)) (.node (ho50_3 P) (.node (ho82_3 P) (.node (ho146_15 P) .nil .nil) .nil) (.node (ho114_8 P) (.node (ho178_21 P) .nil .nil) .nil))) (.node (hb26 P) (.node (ho42_1 P) (.node (ho74_3 P) (.node (ho138_13 P) .nil .nil) .nil) (.node (ho106_7 P) (.node (ho170_20 P) .nil .nil) .nil)) (.node (ho58_3 P) (.node (ho90_4 P) (.node (ho154_17 P) .nil .nil) .nil) (.node (ho122_9 P) .nil .nil)))) (.node (hb14 P) (.node (hb22 P) (.node (ho38_1 P) (.node (ho70_3 P) (.node (ho134_12 P) .nil .nil) .nil) (.node (ho102_6 P) (.node (ho166_19 P) .nil .nil) .nil)) (.node (ho54_3 P) (.node (ho86_3 P) (.node (ho150_17 P) .nil .nil) .nil) (.node (ho118_9 P) (.node (ho182_21 P) .nil .nil) .nil))) (.node (ho30_pre P) (.node (ho46_2 P) (.node (ho78_3 P) (.node (ho142_15 P) .nil .nil) .nil) (.node (ho110_8 P) (.node (ho174_20 P) .nil .nil) .nil)) (.node (ho62_3 P) (.node (ho94_4 P) (.node (ho158_18 P) .nil .nil) .nil) (.node (ho126_10 P) .nil .nil)))))))
noncomputable def me_22 : Params → List DictEntry := fun P => me_21 P ++ [⟨(kh P "_law_place"), (hsv "_law_place" 2484), (.ref 189)⟩]
noncomputable def ho3_22 : Params → Obj := fun P => ⟨(.type "dict"), none, (.dict (me_22 P).toArray 29), #[]⟩
noncomputable def ho29_22 : Params → Obj := fun _ => ⟨.none, none, (.fields #[(.int 4 0), (.int 0 0), (.ref 48), (.int 7 0), (.int 0 0), (.ref 94), (.int 13 0), (.int 0 0), (.ref 101), (.int 15 0), (.int 0 0), (.ref 108), (.int 17 0), (.int 0 0), (.ref 115), (.int 19 0), (.int 0 0), (.ref 122), (.int 25 0), (.int 0 0), (.ref 129), (.int 32 0), (.int 0 0), (.ref 146), (.int 35 0), (.int 0 0), (.ref 153), (.int 46 0), (.int 0 0), (.ref 160), (.int 48 0), (.int 0 0), (.ref 167), (.int 57 0), (.int 0 0), (.ref 174), (.int 68 0), (.int 0 0), (.ref 181), (.int 74 0), (.int 0 0), (.ref 188)]), #[]⟩
noncomputable def ho183_22 : Params → Obj := fun _ => ⟨(.type "tuple"), none, (.seq #[] 0), #[]⟩
noncomputable def ho184_22 : Params → Obj := fun _ => ⟨.none, none, (.fields #[]), #[]⟩
noncomputable def ho185_22 : Params → Obj := fun _ => ⟨(.type "tuple"), none, (.seq #[(hsv "row" 2478), (hsv "name" 2479), (hsv "unseen" 2480), (hsv "place" 2481)] 0), #[]⟩
noncomputable def ho186_22 : Params → Obj := fun _ => ⟨(.type "tuple"), none, (.seq #[] 0), #[]⟩
noncomputable def ho187_22 : Params → Obj := fun _ => ⟨.none, none, (.func ⟨(Str.ofString "_law_place"), (Str.ofString "_law_place"), q23.1.1, (.stmts q23.1.2.1), q23.1.2.2, 0, [], .none, .none, .none, .none, none, .none, .none, 0⟩), #[]⟩
noncomputable def ho188_22 : Params → Obj := fun _ => ⟨(.type "code"), none, (.fields #[(hsv "_law_place" 2475), (hsv "_law_place" 2476), (hsv "/claim/cut.py" 2477), (.int 74 0), (.int 3 0), (.int 0 0), (.int 0 0), (.int 3 0), (.ref 183), (.bool true), (.int 276 0), (.ref 184), .none, (.ref 185), (.ref 186), (.ref 187), (.int 2482 0), (.int 74 0), (hsv "/claim/cut.py" 2483)]), #[]⟩
noncomputable def ho189_22 : Params → Obj := fun _ => ⟨(.type "function"), none, (.func ⟨(Str.ofString "_law_place"), (Str.ofString "_law_place"), q23.1.1, (.stmts q23.1.2.1), q23.1.2.2, 3, [], .none, .none, .none, (hsv "law_ti0026_01" 2423), none, (.ref 188), .none, 0⟩), #[]⟩
noncomputable def hT_22 : Params → BT := fun P => (.node (hb0 P) (.node (hb1 P) (.node (ho3_22 P) (.node (hb7 P) (.node (hb15 P) (.node (ho31_pre P) (.node (ho63_3 P) (.node (ho127_10 P) .nil .nil) .nil) (.node (ho95_4 P) (.node (ho159_18 P) .nil .nil) .nil)) (.node (ho47_2 P) (.node (ho79_3 P) (.node (ho143_15 P) .nil .nil) .nil) (.node (ho111_8 P) (.node (ho175_20 P) .nil .nil) .nil))) (.node (hb23 P) (.node (ho39_1 P) (.node (ho71_3 P) (.node (ho135_12 P) .nil .nil) .nil) (.node (ho103_7 P) (.node (ho167_19 P) .nil .nil) .nil)) (.node (ho55_3 P) (.node (ho87_3 P) (.node (ho151_17 P) .nil .nil) .nil) (.node (ho119_9 P) (.node (ho183_22 P) .nil .nil) .nil)))) (.node (hb11 P) (.node (hb19 P) (.node (ho35_1 P) (.node (ho67_3 P) (.node (ho131_12 P) .nil .nil) .nil) (.node (ho99_6 P) (.node (ho163_19 P) .nil .nil) .nil)) (.node (ho51_3 P) (.node (ho83_3 P) (.node (ho147_15 P) .nil .nil) .nil) (.node (ho115_8 P) (.node (ho179_21 P) .nil .nil) .nil))) (.node (hb27 P) (.node (ho43_2 P) (.node (ho75_3 P) (.node (ho139_13 P) .nil .nil) .nil) (.node (ho107_7 P) (.node (ho171_20 P) .nil .nil) .nil)) (.node (ho59_3 P) (.node (ho91_4 P) (.node (ho155_18 P) .nil .nil) .nil) (.node (ho123_9 P) (.node (ho187_22 P) .nil .nil) .nil))))) (.node (hb5 P) (.node (hb9 P) (.node (hb17 P) (.node (ho33_1 P) (.node (ho65_3 P) (.node (ho129_10 P) .nil .nil) .nil) (.node (ho97_6 P) (.node (ho161_18 P) .nil .nil) .nil)) (.node (ho49_2 P) (.node (ho81_3 P) (.node (ho145_15 P) .nil .nil) .nil) (.node (ho113_8 P) (.node (ho177_21 P) .nil .nil) .nil))) (.node (hb25 P) (.node (ho41_1 P) (.node (ho73_3 P) (.node (ho137_13 P) .nil .nil) .nil) (.node (ho105_7 P) (.node (ho169_20 P) .nil .nil) .nil)) (.node (ho57_3 P) (.node (ho89_4 P) (.node (ho153_17 P) .nil .nil) .nil) (.node (ho121_9 P) (.node (ho185_22 P) .nil .nil) .nil)))) (.node (hb13 P) (.node (hb21 P) (.node (ho37_1 P) (.node (ho69_3 P) (.node (ho133_12 P) .nil .nil) .nil) (.node (ho101_6 P) (.node (ho165_19 P) .nil .nil) .nil)) (.node (ho53_3 P) (.node (ho85_3 P) (.node (ho149_17 P) .nil .nil) .nil) (.node (ho117_9 P) (.node (ho181_21 P) .nil .nil) .nil))) (.node (ho29_22 P) (.node (ho45_2 P) (.node (ho77_3 P) (.node (ho141_15 P) .nil .nil) .nil) (.node (ho109_7 P) (.node (ho173_20 P) .nil .nil) .nil)) (.node (ho61_3 P) (.node (ho93_4 P) (.node (ho157_18 P) .nil .nil) .nil) (.node (ho125_10 P) (.node (ho189_22 P) .nil .nil) .nil)))))) (.node (hb2 P) (.node (hb4 P) (.node (hb8 P) (.node (hb16 P) (.node (ho32_1 P) (.node (ho64_3 P) (.node (ho128_10 P) .nil .nil) .nil) (.node (ho96_6 P) (.node (ho160_18 P) .nil .nil) .nil)) (.node (ho48_2 P) (.node (ho80_3 P) (.node (ho144_15 P) .nil .nil) .nil) (.node (ho112_8 P) (.node (ho176_21 P) .nil .nil) .nil))) (.node (hb24 P) (.node (ho40_1 P) (.node (ho72_3 P) (.node (ho136_13 P) .nil .nil) .nil) (.node (ho104_7 P) (.node (ho168_19 P) .nil .nil) .nil)) (.node (ho56_3 P) (.node (ho88_3 P) (.node (ho152_17 P) .nil .nil) .nil) (.node (ho120_9 P) (.node (ho184_22 P) .nil .nil) .nil)))) (.node (hb12 P) (.node (hb20 P) (.node (ho36_1 P) (.node (ho68_3 P) (.node (ho132_12 P) .nil .nil) .nil) (.node (ho100_6 P) (.node (ho164_19 P) .nil .nil) .nil)) (.node (ho52_3 P) (.node (ho84_3 P) (.node (ho148_17 P) .nil .nil) .nil) (.node (ho116_8 P) (.node (ho180_21 P) .nil .nil) .nil))) (.node (ho28_pre P) (.node (ho44_2 P) (.node (ho76_3 P) (.node (ho140_13 P) .nil .nil) .nil) (.node (ho108_7 P) (.node (ho172_20 P) .nil .nil) .nil)) (.node (ho60_3 P) (.node (ho92_4 P) (.node (ho156_18 P) .nil .nil) .nil) (.node (ho124_10 P) (.node (ho188_22 P) .nil .nil) .nil))))) (.node (hb6 P) (.node (hb10 P) (.node (hb18 P) (.node (ho34_1 P) (.node (ho66_3 P) (.node (ho130_10 P) .nil .nil) .nil) (.node (ho98_6 P) (.node (ho162_19 P) .nil .nil) .nil)) (.node (ho50_3 P) (.node (ho82_3 P) (.node (ho146_15 P) .nil .nil) .nil) (.node (ho114_8 P) (.node (ho178_21 P) .nil .nil) .nil))) (.node (hb26 P) (.node (ho42_1 P) (.node (ho74_3 P) (.node (ho138_13 P) .nil .nil) .nil) (.node (ho106_7 P) (.node (ho170_20 P) .nil .nil) .nil)) (.node (ho58_3 P) (.node (ho90_4 P) (.node (ho154_17 P) .nil .nil) .nil) (.node (ho122_9 P) (.node (ho186_22 P) .nil .nil) .nil)))) (.node (hb14 P) (.node (hb22 P) (.node (ho38_1 P) (.node (ho70_3 P) (.node (ho134_12 P) .nil .nil) .nil) (.node (ho102_6 P) (.node (ho166_19 P) .nil .nil) .nil)) (.node (ho54_3 P) (.node (ho86_3 P) (.node (ho150_17 P) .nil .nil) .nil) (.node (ho118_9 P) (.node (ho182_21 P) .nil .nil) .nil))) (.node (ho30_pre P) (.node (ho46_2 P) (.node (ho78_3 P) (.node (ho142_15 P) .nil .nil) .nil) (.node (ho110_8 P) (.node (ho174_20 P) .nil .nil) .nil)) (.node (ho62_3 P) (.node (ho94_4 P) (.node (ho158_18 P) .nil .nil) .nil) (.node (ho126_10 P) .nil .nil)))))))
noncomputable def me_23 : Params → List DictEntry := fun P => me_22 P ++ [⟨(kh P "_law_determinant"), (hsv "_law_determinant" 2490), (.ref 194)⟩]
noncomputable def ho3_23 : Params → Obj := fun P => ⟨(.type "dict"), none, (.dict (me_23 P).toArray 30), #[]⟩
noncomputable def ho29_23 : Params → Obj := fun _ => ⟨.none, none, (.fields #[(.int 4 0), (.int 0 0), (.ref 48), (.int 7 0), (.int 0 0), (.ref 94), (.int 13 0), (.int 0 0), (.ref 101), (.int 15 0), (.int 0 0), (.ref 108), (.int 17 0), (.int 0 0), (.ref 115), (.int 19 0), (.int 0 0), (.ref 122), (.int 25 0), (.int 0 0), (.ref 129), (.int 32 0), (.int 0 0), (.ref 146), (.int 35 0), (.int 0 0), (.ref 153), (.int 46 0), (.int 0 0), (.ref 160), (.int 48 0), (.int 0 0), (.ref 167), (.int 57 0), (.int 0 0), (.ref 174), (.int 68 0), (.int 0 0), (.ref 181), (.int 74 0), (.int 0 0), (.ref 188), (.int 79 0), (.int 0 0), (.ref 193)]), #[]⟩
noncomputable def ho190_23 : Params → Obj := fun _ => ⟨(.type "tuple"), none, (.seq #[] 0), #[]⟩
noncomputable def ho191_23 : Params → Obj := fun _ => ⟨.none, none, (.fields #[]), #[]⟩
noncomputable def ho192_23 : Params → Obj := fun _ => ⟨.none, none, (.func ⟨(Str.ofString "_law_determinant"), (Str.ofString "_law_determinant"), q24.1.1, (.stmts q24.1.2.1), q24.1.2.2, 0, [], .none, .none, .none, .none, none, .none, .none, 0⟩), #[]⟩
noncomputable def ho193_23 : Params → Obj := fun _ => ⟨(.type "code"), none, (.fields #[(hsv "_law_determinant" 2485), (hsv "_law_determinant" 2486), (hsv "/claim/cut.py" 2487), (.int 79 0), (.int 2 0), (.int 0 0), (.int 0 0), (.int 3 0), (.ref 190), (.bool true), (.int 276 0), (.ref 191), .none, .none, .none, (.ref 192), (.int 2488 0), (.int 79 0), (hsv "/claim/cut.py" 2489)]), #[]⟩
noncomputable def ho194_23 : Params → Obj := fun _ => ⟨(.type "function"), none, (.func ⟨(Str.ofString "_law_determinant"), (Str.ofString "_law_determinant"), q24.1.1, (.stmts q24.1.2.1), q24.1.2.2, 3, [], .none, .none, .none, (hsv "law_ti0026_01" 2423), none, (.ref 193), .none, 0⟩), #[]⟩
noncomputable def hT_23 : Params → BT := fun P => (.node (hb0 P) (.node (hb1 P) (.node (ho3_23 P) (.node (hb7 P) (.node (hb15 P) (.node (ho31_pre P) (.node (ho63_3 P) (.node (ho127_10 P) .nil .nil) (.node (ho191_23 P) .nil .nil)) (.node (ho95_4 P) (.node (ho159_18 P) .nil .nil) .nil)) (.node (ho47_2 P) (.node (ho79_3 P) (.node (ho143_15 P) .nil .nil) .nil) (.node (ho111_8 P) (.node (ho175_20 P) .nil .nil) .nil))) (.node (hb23 P) (.node (ho39_1 P) (.node (ho71_3 P) (.node (ho135_12 P) .nil .nil) .nil) (.node (ho103_7 P) (.node (ho167_19 P) .nil .nil) .nil)) (.node (ho55_3 P) (.node (ho87_3 P) (.node (ho151_17 P) .nil .nil) .nil) (.node (ho119_9 P) (.node (ho183_22 P) .nil .nil) .nil)))) (.node (hb11 P) (.node (hb19 P) (.node (ho35_1 P) (.node (ho67_3 P) (.node (ho131_12 P) .nil .nil) .nil) (.node (ho99_6 P) (.node (ho163_19 P) .nil .nil) .nil)) (.node (ho51_3 P) (.node (ho83_3 P) (.node (ho147_15 P) .nil .nil) .nil) (.node (ho115_8 P) (.node (ho179_21 P) .nil .nil) .nil))) (.node (hb27 P) (.node (ho43_2 P) (.node (ho75_3 P) (.node (ho139_13 P) .nil .nil) .nil) (.node (ho107_7 P) (.node (ho171_20 P) .nil .nil) .nil)) (.node (ho59_3 P) (.node (ho91_4 P) (.node (ho155_18 P) .nil .nil) .nil) (.node (ho123_9 P) (.node (ho187_22 P) .nil .nil) .nil))))) (.node (hb5 P) (.node (hb9 P) (.node (hb17 P) (.node (ho33_1 P) (.node (ho65_3 P) (.node (ho129_10 P) .nil .nil) (.node (ho193_23 P) .nil .nil)) (.node (ho97_6 P) (.node (ho161_18 P) .nil .nil) .nil)) (.node (ho49_2 P) (.node (ho81_3 P) (.node (ho145_15 P) .nil .nil) .nil) (.node (ho113_8 P) (.node (ho177_21 P) .nil .nil) .nil))) (.node (hb25 P) (.node (ho41_1 P) (.node (ho73_3 P) (.node (ho137_13 P) .nil .nil) .nil) (.node (ho105_7 P) (.node (ho169_20 P) .nil .nil) .nil)) (.node (ho57_3 P) (.node (ho89_4 P) (.node (ho153_17 P) .nil .nil) .nil) (.node (ho121_9 P) (.node (ho185_22 P) .nil .nil) .nil)))) (.node (hb13 P) (.node (hb21 P) (.node (ho37_1 P) (.node (ho69_3 P) (.node (ho133_12 P) .nil .nil) .nil) (.node (ho101_6 P) (.node (ho165_19 P) .nil .nil) .nil)) (.node (ho53_3 P) (.node (ho85_3 P) (.node (ho149_17 P) .nil .nil) .nil) (.node (ho117_9 P) (.node (ho181_21 P) .nil .nil) .nil))) (.node (ho29_23 P) (.node (ho45_2 P) (.node (ho77_3 P) (.node (ho141_15 P) .nil .nil) .nil) (.node (ho109_7 P) (.node (ho173_20 P) .nil .nil) .nil)) (.node (ho61_3 P) (.node (ho93_4 P) (.node (ho157_18 P) .nil .nil) .nil) (.node (ho125_10 P) (.node (ho189_22 P) .nil .nil) .nil)))))) (.node (hb2 P) (.node (hb4 P) (.node (hb8 P) (.node (hb16 P) (.node (ho32_1 P) (.node (ho64_3 P) (.node (ho128_10 P) .nil .nil) (.node (ho192_23 P) .nil .nil)) (.node (ho96_6 P) (.node (ho160_18 P) .nil .nil) .nil)) (.node (ho48_2 P) (.node (ho80_3 P) (.node (ho144_15 P) .nil .nil) .nil) (.node (ho112_8 P) (.node (ho176_21 P) .nil .nil) .nil))) (.node (hb24 P) (.node (ho40_1 P) (.node (ho72_3 P) (.node (ho136_13 P) .nil .nil) .nil) (.node (ho104_7 P) (.node (ho168_19 P) .nil .nil) .nil)) (.node (ho56_3 P) (.node (ho88_3 P) (.node (ho152_17 P) .nil .nil) .nil) (.node (ho120_9 P) (.node (ho184_22 P) .nil .nil) .nil)))) (.node (hb12 P) (.node (hb20 P) (.node (ho36_1 P) (.node (ho68_3 P) (.node (ho132_12 P) .nil .nil) .nil) (.node (ho100_6 P) (.node (ho164_19 P) .nil .nil) .nil)) (.node (ho52_3 P) (.node (ho84_3 P) (.node (ho148_17 P) .nil .nil) .nil) (.node (ho116_8 P) (.node (ho180_21 P) .nil .nil) .nil))) (.node (ho28_pre P) (.node (ho44_2 P) (.node (ho76_3 P) (.node (ho140_13 P) .nil .nil) .nil) (.node (ho108_7 P) (.node (ho172_20 P) .nil .nil) .nil)) (.node (ho60_3 P) (.node (ho92_4 P) (.node (ho156_18 P) .nil .nil) .nil) (.node (ho124_10 P) (.node (ho188_22 P) .nil .nil) .nil))))) (.node (hb6 P) (.node (hb10 P) (.node (hb18 P) (.node (ho34_1 P) (.node (ho66_3 P) (.node (ho130_10 P) .nil .nil) (.node (ho194_23 P) .nil .nil)) (.node (ho98_6 P) (.node (ho162_19 P) .nil .nil) .nil)) (.node (ho50_3 P) (.node (ho82_3 P) (.node (ho146_15 P) .nil .nil) .nil) (.node (ho114_8 P) (.node (ho178_21 P) .nil .nil) .nil))) (.node (hb26 P) (.node (ho42_1 P) (.node (ho74_3 P) (.node (ho138_13 P) .nil .nil) .nil) (.node (ho106_7 P) (.node (ho170_20 P) .nil .nil) .nil)) (.node (ho58_3 P) (.node (ho90_4 P) (.node (ho154_17 P) .nil .nil) .nil) (.node (ho122_9 P) (.node (ho186_22 P) .nil .nil) .nil)))) (.node (hb14 P) (.node (hb22 P) (.node (ho38_1 P) (.node (ho70_3 P) (.node (ho134_12 P) .nil .nil) .nil) (.node (ho102_6 P) (.node (ho166_19 P) .nil .nil) .nil)) (.node (ho54_3 P) (.node (ho86_3 P) (.node (ho150_17 P) .nil .nil) .nil) (.node (ho118_9 P) (.node (ho182_21 P) .nil .nil) .nil))) (.node (ho30_pre P) (.node (ho46_2 P) (.node (ho78_3 P) (.node (ho142_15 P) .nil .nil) .nil) (.node (ho110_8 P) (.node (ho174_20 P) .nil .nil) .nil)) (.node (ho62_3 P) (.node (ho94_4 P) (.node (ho158_18 P) .nil .nil) .nil) (.node (ho126_10 P) (.node (ho190_23 P) .nil .nil) .nil)))))))
noncomputable def me_24 : Params → List DictEntry := fun P => me_23 P ++ [⟨(kh P "_law_factor"), (hsv "_law_factor" 2496), (.ref 199)⟩]
noncomputable def ho3_24 : Params → Obj := fun P => ⟨(.type "dict"), none, (.dict (me_24 P).toArray 31), #[]⟩
noncomputable def ho29_24 : Params → Obj := fun _ => ⟨.none, none, (.fields #[(.int 4 0), (.int 0 0), (.ref 48), (.int 7 0), (.int 0 0), (.ref 94), (.int 13 0), (.int 0 0), (.ref 101), (.int 15 0), (.int 0 0), (.ref 108), (.int 17 0), (.int 0 0), (.ref 115), (.int 19 0), (.int 0 0), (.ref 122), (.int 25 0), (.int 0 0), (.ref 129), (.int 32 0), (.int 0 0), (.ref 146), (.int 35 0), (.int 0 0), (.ref 153), (.int 46 0), (.int 0 0), (.ref 160), (.int 48 0), (.int 0 0), (.ref 167), (.int 57 0), (.int 0 0), (.ref 174), (.int 68 0), (.int 0 0), (.ref 181), (.int 74 0), (.int 0 0), (.ref 188), (.int 79 0), (.int 0 0), (.ref 193), (.int 87 0), (.int 0 0), (.ref 198)]), #[]⟩
noncomputable def ho195_24 : Params → Obj := fun _ => ⟨(.type "tuple"), none, (.seq #[] 0), #[]⟩
noncomputable def ho196_24 : Params → Obj := fun _ => ⟨.none, none, (.fields #[]), #[]⟩
noncomputable def ho197_24 : Params → Obj := fun _ => ⟨.none, none, (.func ⟨(Str.ofString "_law_factor"), (Str.ofString "_law_factor"), q25.1.1, (.stmts q25.1.2.1), q25.1.2.2, 0, [], .none, .none, .none, .none, none, .none, .none, 0⟩), #[]⟩
noncomputable def ho198_24 : Params → Obj := fun _ => ⟨(.type "code"), none, (.fields #[(hsv "_law_factor" 2491), (hsv "_law_factor" 2492), (hsv "/claim/cut.py" 2493), (.int 87 0), (.int 3 0), (.int 0 0), (.int 0 0), (.int 3 0), (.ref 195), (.bool true), (.int 276 0), (.ref 196), .none, .none, .none, (.ref 197), (.int 2494 0), (.int 87 0), (hsv "/claim/cut.py" 2495)]), #[]⟩
noncomputable def ho199_24 : Params → Obj := fun _ => ⟨(.type "function"), none, (.func ⟨(Str.ofString "_law_factor"), (Str.ofString "_law_factor"), q25.1.1, (.stmts q25.1.2.1), q25.1.2.2, 3, [], .none, .none, .none, (hsv "law_ti0026_01" 2423), none, (.ref 198), .none, 0⟩), #[]⟩
noncomputable def hT_24 : Params → BT := fun P => (.node (hb0 P) (.node (hb1 P) (.node (ho3_24 P) (.node (hb7 P) (.node (hb15 P) (.node (ho31_pre P) (.node (ho63_3 P) (.node (ho127_10 P) .nil .nil) (.node (ho191_23 P) .nil .nil)) (.node (ho95_4 P) (.node (ho159_18 P) .nil .nil) .nil)) (.node (ho47_2 P) (.node (ho79_3 P) (.node (ho143_15 P) .nil .nil) .nil) (.node (ho111_8 P) (.node (ho175_20 P) .nil .nil) .nil))) (.node (hb23 P) (.node (ho39_1 P) (.node (ho71_3 P) (.node (ho135_12 P) .nil .nil) (.node (ho199_24 P) .nil .nil)) (.node (ho103_7 P) (.node (ho167_19 P) .nil .nil) .nil)) (.node (ho55_3 P) (.node (ho87_3 P) (.node (ho151_17 P) .nil .nil) .nil) (.node (ho119_9 P) (.node (ho183_22 P) .nil .nil) .nil)))) (.node (hb11 P) (.node (hb19 P) (.node (ho35_1 P) (.node (ho67_3 P) (.node (ho131_12 P) .nil .nil) (.node (ho195_24 P) .nil .nil)) (.node (ho99_6 P) (.node (ho163_19 P) .nil .nil) .nil)) (.node (ho51_3 P) (.node (ho83_3 P) (.node (ho147_15 P) .nil .nil) .nil) (.node (ho115_8 P) (.node (ho179_21 P) .nil .nil) .nil))) (.node (hb27 P) (.node (ho43_2 P) (.node (ho75_3 P) (.node (ho139_13 P) .nil .nil) .nil) (.node (ho107_7 P) (.node (ho171_20 P) .nil .nil) .nil)) (.node (ho59_3 P) (.node (ho91_4 P) (.node (ho155_18 P) .nil .nil) .nil) (.node (ho123_9 P) (.node (ho187_22 P) .nil .nil) .nil))))) (.node (hb5 P) (.node (hb9 P) (.node (hb17 P) (.node (ho33_1 P) (.node (ho65_3 P) (.node (ho129_10 P) .nil .nil) (.node (ho193_23 P) .nil .nil)) (.node (ho97_6 P) (.node (ho161_18 P) .nil .nil) .nil)) (.node (ho49_2 P) (.node (ho81_3 P) (.node (ho145_15 P) .nil .nil) .nil) (.node (ho113_8 P) (.node (ho177_21 P) .nil .nil) .nil))) (.node (hb25 P) (.node (ho41_1 P) (.node (ho73_3 P) (.node (ho137_13 P) .nil .nil) .nil) (.node (ho105_7 P) (.node (ho169_20 P) .nil .nil) .nil)) (.node (ho57_3 P) (.node (ho89_4 P) (.node (ho153_17 P) .nil .nil) .nil) (.node (ho121_9 P) (.node (ho185_22 P) .nil .nil) .nil)))) (.node (hb13 P) (.node (hb21 P) (.node (ho37_1 P) (.node (ho69_3 P) (.node (ho133_12 P) .nil .nil) (.node (ho197_24 P) .nil .nil)) (.node (ho101_6 P) (.node (ho165_19 P) .nil .nil) .nil)) (.node (ho53_3 P) (.node (ho85_3 P) (.node (ho149_17 P) .nil .nil) .nil) (.node (ho117_9 P) (.node (ho181_21 P) .nil .nil) .nil))) (.node (ho29_24 P) (.node (ho45_2 P) (.node (ho77_3 P) (.node (ho141_15 P) .nil .nil) .nil) (.node (ho109_7 P) (.node (ho173_20 P) .nil .nil) .nil)) (.node (ho61_3 P) (.node (ho93_4 P) (.node (ho157_18 P) .nil .nil) .nil) (.node (ho125_10 P) (.node (ho189_22 P) .nil .nil) .nil)))))) (.node (hb2 P) (.node (hb4 P) (.node (hb8 P) (.node (hb16 P) (.node (ho32_1 P) (.node (ho64_3 P) (.node (ho128_10 P) .nil .nil) (.node (ho192_23 P) .nil .nil)) (.node (ho96_6 P) (.node (ho160_18 P) .nil .nil) .nil)) (.node (ho48_2 P) (.node (ho80_3 P) (.node (ho144_15 P) .nil .nil) .nil) (.node (ho112_8 P) (.node (ho176_21 P) .nil .nil) .nil))) (.node (hb24 P) (.node (ho40_1 P) (.node (ho72_3 P) (.node (ho136_13 P) .nil .nil) .nil) (.node (ho104_7 P) (.node (ho168_19 P) .nil .nil) .nil)) (.node (ho56_3 P) (.node (ho88_3 P) (.node (ho152_17 P) .nil .nil) .nil) (.node (ho120_9 P) (.node (ho184_22 P) .nil .nil) .nil)))) (.node (hb12 P) (.node (hb20 P) (.node (ho36_1 P) (.node (ho68_3 P) (.node (ho132_12 P) .nil .nil) (.node (ho196_24 P) .nil .nil)) (.node (ho100_6 P) (.node (ho164_19 P) .nil .nil) .nil)) (.node (ho52_3 P) (.node (ho84_3 P) (.node (ho148_17 P) .nil .nil) .nil) (.node (ho116_8 P) (.node (ho180_21 P) .nil .nil) .nil))) (.node (ho28_pre P) (.node (ho44_2 P) (.node (ho76_3 P) (.node (ho140_13 P) .nil .nil) .nil) (.node (ho108_7 P) (.node (ho172_20 P) .nil .nil) .nil)) (.node (ho60_3 P) (.node (ho92_4 P) (.node (ho156_18 P) .nil .nil) .nil) (.node (ho124_10 P) (.node (ho188_22 P) .nil .nil) .nil))))) (.node (hb6 P) (.node (hb10 P) (.node (hb18 P) (.node (ho34_1 P) (.node (ho66_3 P) (.node (ho130_10 P) .nil .nil) (.node (ho194_23 P) .nil .nil)) (.node (ho98_6 P) (.node (ho162_19 P) .nil .nil) .nil)) (.node (ho50_3 P) (.node (ho82_3 P) (.node (ho146_15 P) .nil .nil) .nil) (.node (ho114_8 P) (.node (ho178_21 P) .nil .nil) .nil))) (.node (hb26 P) (.node (ho42_1 P) (.node (ho74_3 P) (.node (ho138_13 P) .nil .nil) .nil) (.node (ho106_7 P) (.node (ho170_20 P) .nil .nil) .nil)) (.node (ho58_3 P) (.node (ho90_4 P) (.node (ho154_17 P) .nil .nil) .nil) (.node (ho122_9 P) (.node (ho186_22 P) .nil .nil) .nil)))) (.node (hb14 P) (.node (hb22 P) (.node (ho38_1 P) (.node (ho70_3 P) (.node (ho134_12 P) .nil .nil) (.node (ho198_24 P) .nil .nil)) (.node (ho102_6 P) (.node (ho166_19 P) .nil .nil) .nil)) (.node (ho54_3 P) (.node (ho86_3 P) (.node (ho150_17 P) .nil .nil) .nil) (.node (ho118_9 P) (.node (ho182_21 P) .nil .nil) .nil))) (.node (ho30_pre P) (.node (ho46_2 P) (.node (ho78_3 P) (.node (ho142_15 P) .nil .nil) .nil) (.node (ho110_8 P) (.node (ho174_20 P) .nil .nil) .nil)) (.node (ho62_3 P) (.node (ho94_4 P) (.node (ho158_18 P) .nil .nil) .nil) (.node (ho126_10 P) (.node (ho190_23 P) .nil .nil) .nil)))))))
noncomputable def me_25 : Params → List DictEntry := fun P => me_24 P ++ [⟨(kh P "law"), (hsv "law" 2502), (.ref 204)⟩]
noncomputable def ho3_25 : Params → Obj := fun P => ⟨(.type "dict"), none, (.dict (me_25 P).toArray 32), #[]⟩
noncomputable def ho29_25 : Params → Obj := fun _ => ⟨.none, none, (.fields #[(.int 4 0), (.int 0 0), (.ref 48), (.int 7 0), (.int 0 0), (.ref 94), (.int 13 0), (.int 0 0), (.ref 101), (.int 15 0), (.int 0 0), (.ref 108), (.int 17 0), (.int 0 0), (.ref 115), (.int 19 0), (.int 0 0), (.ref 122), (.int 25 0), (.int 0 0), (.ref 129), (.int 32 0), (.int 0 0), (.ref 146), (.int 35 0), (.int 0 0), (.ref 153), (.int 46 0), (.int 0 0), (.ref 160), (.int 48 0), (.int 0 0), (.ref 167), (.int 57 0), (.int 0 0), (.ref 174), (.int 68 0), (.int 0 0), (.ref 181), (.int 74 0), (.int 0 0), (.ref 188), (.int 79 0), (.int 0 0), (.ref 193), (.int 87 0), (.int 0 0), (.ref 198), (.int 94 0), (.int 0 0), (.ref 203)]), #[]⟩
noncomputable def ho200_25 : Params → Obj := fun _ => ⟨(.type "tuple"), none, (.seq #[] 0), #[]⟩
noncomputable def ho201_25 : Params → Obj := fun _ => ⟨.none, none, (.fields #[]), #[]⟩
noncomputable def ho202_25 : Params → Obj := fun _ => ⟨.none, none, (.func ⟨(Str.ofString "law"), (Str.ofString "law"), q26.1.1, (.stmts q26.1.2.1), q26.1.2.2, 0, [], .none, .none, .none, .none, none, .none, .none, 0⟩), #[]⟩
noncomputable def ho203_25 : Params → Obj := fun _ => ⟨(.type "code"), none, (.fields #[(hsv "law" 2497), (hsv "law" 2498), (hsv "/claim/cut.py" 2499), (.int 94 0), (.int 1 0), (.int 0 0), (.int 0 0), (.int 3 0), (.ref 200), (.bool true), (.int 276 0), (.ref 201), .none, .none, .none, (.ref 202), (.int 2500 0), (.int 94 0), (hsv "/claim/cut.py" 2501)]), #[]⟩
noncomputable def ho204_25 : Params → Obj := fun _ => ⟨(.type "function"), none, (.func ⟨(Str.ofString "law"), (Str.ofString "law"), q26.1.1, (.stmts q26.1.2.1), q26.1.2.2, 3, [], .none, .none, .none, (hsv "law_ti0026_01" 2423), none, (.ref 203), .none, 0⟩), #[]⟩
noncomputable def hT_25 : Params → BT := fun P => (.node (hb0 P) (.node (hb1 P) (.node (ho3_25 P) (.node (hb7 P) (.node (hb15 P) (.node (ho31_pre P) (.node (ho63_3 P) (.node (ho127_10 P) .nil .nil) (.node (ho191_23 P) .nil .nil)) (.node (ho95_4 P) (.node (ho159_18 P) .nil .nil) .nil)) (.node (ho47_2 P) (.node (ho79_3 P) (.node (ho143_15 P) .nil .nil) .nil) (.node (ho111_8 P) (.node (ho175_20 P) .nil .nil) .nil))) (.node (hb23 P) (.node (ho39_1 P) (.node (ho71_3 P) (.node (ho135_12 P) .nil .nil) (.node (ho199_24 P) .nil .nil)) (.node (ho103_7 P) (.node (ho167_19 P) .nil .nil) .nil)) (.node (ho55_3 P) (.node (ho87_3 P) (.node (ho151_17 P) .nil .nil) .nil) (.node (ho119_9 P) (.node (ho183_22 P) .nil .nil) .nil)))) (.node (hb11 P) (.node (hb19 P) (.node (ho35_1 P) (.node (ho67_3 P) (.node (ho131_12 P) .nil .nil) (.node (ho195_24 P) .nil .nil)) (.node (ho99_6 P) (.node (ho163_19 P) .nil .nil) .nil)) (.node (ho51_3 P) (.node (ho83_3 P) (.node (ho147_15 P) .nil .nil) .nil) (.node (ho115_8 P) (.node (ho179_21 P) .nil .nil) .nil))) (.node (hb27 P) (.node (ho43_2 P) (.node (ho75_3 P) (.node (ho139_13 P) .nil .nil) (.node (ho203_25 P) .nil .nil)) (.node (ho107_7 P) (.node (ho171_20 P) .nil .nil) .nil)) (.node (ho59_3 P) (.node (ho91_4 P) (.node (ho155_18 P) .nil .nil) .nil) (.node (ho123_9 P) (.node (ho187_22 P) .nil .nil) .nil))))) (.node (hb5 P) (.node (hb9 P) (.node (hb17 P) (.node (ho33_1 P) (.node (ho65_3 P) (.node (ho129_10 P) .nil .nil) (.node (ho193_23 P) .nil .nil)) (.node (ho97_6 P) (.node (ho161_18 P) .nil .nil) .nil)) (.node (ho49_2 P) (.node (ho81_3 P) (.node (ho145_15 P) .nil .nil) .nil) (.node (ho113_8 P) (.node (ho177_21 P) .nil .nil) .nil))) (.node (hb25 P) (.node (ho41_1 P) (.node (ho73_3 P) (.node (ho137_13 P) .nil .nil) (.node (ho201_25 P) .nil .nil)) (.node (ho105_7 P) (.node (ho169_20 P) .nil .nil) .nil)) (.node (ho57_3 P) (.node (ho89_4 P) (.node (ho153_17 P) .nil .nil) .nil) (.node (ho121_9 P) (.node (ho185_22 P) .nil .nil) .nil)))) (.node (hb13 P) (.node (hb21 P) (.node (ho37_1 P) (.node (ho69_3 P) (.node (ho133_12 P) .nil .nil) (.node (ho197_24 P) .nil .nil)) (.node (ho101_6 P) (.node (ho165_19 P) .nil .nil) .nil)) (.node (ho53_3 P) (.node (ho85_3 P) (.node (ho149_17 P) .nil .nil) .nil) (.node (ho117_9 P) (.node (ho181_21 P) .nil .nil) .nil))) (.node (ho29_25 P) (.node (ho45_2 P) (.node (ho77_3 P) (.node (ho141_15 P) .nil .nil) .nil) (.node (ho109_7 P) (.node (ho173_20 P) .nil .nil) .nil)) (.node (ho61_3 P) (.node (ho93_4 P) (.node (ho157_18 P) .nil .nil) .nil) (.node (ho125_10 P) (.node (ho189_22 P) .nil .nil) .nil)))))) (.node (hb2 P) (.node (hb4 P) (.node (hb8 P) (.node (hb16 P) (.node (ho32_1 P) (.node (ho64_3 P) (.node (ho128_10 P) .nil .nil) (.node (ho192_23 P) .nil .nil)) (.node (ho96_6 P) (.node (ho160_18 P) .nil .nil) .nil)) (.node (ho48_2 P) (.node (ho80_3 P) (.node (ho144_15 P) .nil .nil) .nil) (.node (ho112_8 P) (.node (ho176_21 P) .nil .nil) .nil))) (.node (hb24 P) (.node (ho40_1 P) (.node (ho72_3 P) (.node (ho136_13 P) .nil .nil) (.node (ho200_25 P) .nil .nil)) (.node (ho104_7 P) (.node (ho168_19 P) .nil .nil) .nil)) (.node (ho56_3 P) (.node (ho88_3 P) (.node (ho152_17 P) .nil .nil) .nil) (.node (ho120_9 P) (.node (ho184_22 P) .nil .nil) .nil)))) (.node (hb12 P) (.node (hb20 P) (.node (ho36_1 P) (.node (ho68_3 P) (.node (ho132_12 P) .nil .nil) (.node (ho196_24 P) .nil .nil)) (.node (ho100_6 P) (.node (ho164_19 P) .nil .nil) .nil)) (.node (ho52_3 P) (.node (ho84_3 P) (.node (ho148_17 P) .nil .nil) .nil) (.node (ho116_8 P) (.node (ho180_21 P) .nil .nil) .nil))) (.node (ho28_pre P) (.node (ho44_2 P) (.node (ho76_3 P) (.node (ho140_13 P) .nil .nil) (.node (ho204_25 P) .nil .nil)) (.node (ho108_7 P) (.node (ho172_20 P) .nil .nil) .nil)) (.node (ho60_3 P) (.node (ho92_4 P) (.node (ho156_18 P) .nil .nil) .nil) (.node (ho124_10 P) (.node (ho188_22 P) .nil .nil) .nil))))) (.node (hb6 P) (.node (hb10 P) (.node (hb18 P) (.node (ho34_1 P) (.node (ho66_3 P) (.node (ho130_10 P) .nil .nil) (.node (ho194_23 P) .nil .nil)) (.node (ho98_6 P) (.node (ho162_19 P) .nil .nil) .nil)) (.node (ho50_3 P) (.node (ho82_3 P) (.node (ho146_15 P) .nil .nil) .nil) (.node (ho114_8 P) (.node (ho178_21 P) .nil .nil) .nil))) (.node (hb26 P) (.node (ho42_1 P) (.node (ho74_3 P) (.node (ho138_13 P) .nil .nil) (.node (ho202_25 P) .nil .nil)) (.node (ho106_7 P) (.node (ho170_20 P) .nil .nil) .nil)) (.node (ho58_3 P) (.node (ho90_4 P) (.node (ho154_17 P) .nil .nil) .nil) (.node (ho122_9 P) (.node (ho186_22 P) .nil .nil) .nil)))) (.node (hb14 P) (.node (hb22 P) (.node (ho38_1 P) (.node (ho70_3 P) (.node (ho134_12 P) .nil .nil) (.node (ho198_24 P) .nil .nil)) (.node (ho102_6 P) (.node (ho166_19 P) .nil .nil) .nil)) (.node (ho54_3 P) (.node (ho86_3 P) (.node (ho150_17 P) .nil .nil) .nil) (.node (ho118_9 P) (.node (ho182_21 P) .nil .nil) .nil))) (.node (ho30_pre P) (.node (ho46_2 P) (.node (ho78_3 P) (.node (ho142_15 P) .nil .nil) .nil) (.node (ho110_8 P) (.node (ho174_20 P) .nil .nil) .nil)) (.node (ho62_3 P) (.node (ho94_4 P) (.node (ho158_18 P) .nil .nil) .nil) (.node (ho126_10 P) (.node (ho190_23 P) .nil .nil) .nil)))))))
end MyLaw
end
end
section
open PySem PySem.Spec PySem.Calls PySem.W PySem.W.X PyProof.Rows
noncomputable section
namespace MyLaw
theorem h_imp : ∀ w : World, importEnds treeTable (opening PySem.Challenge.pw_ti0026_01) w 799 (start (opening PySem.Challenge.pw_ti0026_01)).1 (start (opening PySem.Challenge.pw_ti0026_01)).2 = some ⟨hEnd w.params, #[], hDrawn, 276, (start (opening PySem.Challenge.pw_ti0026_01)).1.os⟩ := by
  intro w
  rw [PySem.W.Fast.te10274390034422433532, PySem.W.Fast.te14364793385576792824]
  kernel_rfl
end MyLaw
end
end
section
open PySem PySem.Spec PySem.Calls PySem.W PySem.W.X PyProof.Rows
noncomputable section
namespace MyLaw
abbrev hP : Program := PySem.Challenge.pw_ti0026_01
def hEnv : Env := { scope := hP.main.scope, locals := mainNs, globals := mainNs, cells := [], code := .ref 30, frame := some 31 }
def hC : Code := .body (behindTheImports hP) hEnv
def hSt (i : Nat) : List Stmt := ((behindTheImports hP).drop i).take 1
theorem h_fence : ∀ w : World, (fun os => (fenceModules? hP ⟨hEnd w.params, #[], hDrawn, 276, os⟩).map (fun s => (s.heap, s.gens, s.drawn, s.toks))) = fun _ => some (hS0 w.params, #[], hDrawn, 276) := by
  intro w
  kernel_rfl
theorem h_pre : ∀ (w : World) (os : OsState), topGo treeTable hP w 28 (some (.ref 6)) 12 ⟨hS0 w.params, #[], hDrawn, 276, os⟩ (topStub hP) = some (⟨hPre w.params, #[], hDrawn, 282, os⟩, ⟨denote treeTable hC, hC, ⟨0, 0, 0, 0⟩, [topFrame ⟨0, 0, 0, 0⟩]⟩) := by
  intro w os
  kernel_rfl
theorem h_block : ∀ (w : World) (os : OsState), segRun treeTable hP w 28 (some (.ref 6)) 1 1 ⟨hPre w.params, #[], hDrawn, 282, os⟩ (blockOf (behindTheImports hP) hEnv hC ⟨0, 0, 0, 0⟩ [topFrame ⟨0, 0, 0, 0⟩]) = some (.next, (SharedT.abs ⟨hT_block w.params, 32, hLife, #[], hDrawn, 282, os⟩), hC, ⟨0, 0, 0, 0⟩) := by
  intro w os
  kernel_rfl
theorem h_0 : ∀ (w : World) (os : OsState), segRunT treeTable hP w 28 (some (.ref 6)) 1 10 ⟨hT_block w.params, 32, hLife, #[], hDrawn, 282, os⟩ (piecesOf (hSt 0) hEnv hC ⟨0, 0, 0, 0⟩ [topFrame ⟨0, 0, 0, 0⟩]) = some (.next, ⟨hT_0 w.params, 32, hLife, #[], hDrawn, 284, os⟩, hC, ⟨2, 0, 2, 8⟩) := by
  intro w os
  kernel_rfl
theorem h_2 : ∀ (w : World) (os : OsState), segRunT treeTable hP w 28 (some (.ref 6)) 1 30 ⟨hT_1 w.params, 43, hLife, #[], hDrawn, 344, os⟩ (piecesOf (hSt 2) hEnv hC ⟨3, 0, 3, 6⟩ [topFrame ⟨0, 0, 0, 0⟩]) = some (.next, ⟨hT_2 w.params, 50, hLife, #[], hDrawn, 351, os⟩, hC, ⟨4, 0, 5, 30⟩) := by
  intro w os
  kernel_rfl
theorem h_4 : ∀ (w : World) (os : OsState), segRunT treeTable hP w 28 (some (.ref 6)) 1 31 ⟨hT_3 w.params, 89, hLife, #[], hDrawn, 2302, os⟩ (piecesOf (hSt 4) hEnv hC ⟨6, 0, 6, 13⟩ [topFrame ⟨0, 0, 0, 0⟩]) = some (.next, ⟨hT_4 w.params, 96, hLife, #[], hDrawn, 2310, os⟩, hC, ⟨7, 0, 11, 23⟩) := by
  intro w os
  kernel_rfl
theorem h_5 : ∀ (w : World) (os : OsState), segRunT treeTable hP w 28 (some (.ref 6)) 1 10 ⟨hT_4 w.params, 96, hLife, #[], hDrawn, 2310, os⟩ (piecesOf (hSt 5) hEnv hC ⟨7, 0, 11, 23⟩ [topFrame ⟨0, 0, 0, 0⟩]) = some (.next, ⟨hT_5 w.params, 96, hLife, #[], hDrawn, 2312, os⟩, hC, ⟨12, 0, 12, 8⟩) := by
  intro w os
  kernel_rfl
theorem h_6 : ∀ (w : World) (os : OsState), segRunT treeTable hP w 28 (some (.ref 6)) 1 31 ⟨hT_5 w.params, 96, hLife, #[], hDrawn, 2312, os⟩ (piecesOf (hSt 6) hEnv hC ⟨12, 0, 12, 8⟩ [topFrame ⟨0, 0, 0, 0⟩]) = some (.next, ⟨hT_6 w.params, 103, hLife, #[], hDrawn, 2320, os⟩, hC, ⟨13, 0, 14, 16⟩) := by
  intro w os
  kernel_rfl
theorem h_7 : ∀ (w : World) (os : OsState), segRunT treeTable hP w 28 (some (.ref 6)) 1 31 ⟨hT_6 w.params, 103, hLife, #[], hDrawn, 2320, os⟩ (piecesOf (hSt 7) hEnv hC ⟨13, 0, 14, 16⟩ [topFrame ⟨0, 0, 0, 0⟩]) = some (.next, ⟨hT_7 w.params, 110, hLife, #[], hDrawn, 2328, os⟩, hC, ⟨15, 0, 16, 16⟩) := by
  intro w os
  kernel_rfl
theorem h_8 : ∀ (w : World) (os : OsState), segRunT treeTable hP w 28 (some (.ref 6)) 1 31 ⟨hT_7 w.params, 110, hLife, #[], hDrawn, 2328, os⟩ (piecesOf (hSt 8) hEnv hC ⟨15, 0, 16, 16⟩ [topFrame ⟨0, 0, 0, 0⟩]) = some (.next, ⟨hT_8 w.params, 117, hLife, #[], hDrawn, 2336, os⟩, hC, ⟨17, 0, 18, 16⟩) := by
  intro w os
  kernel_rfl
theorem h_9 : ∀ (w : World) (os : OsState), segRunT treeTable hP w 28 (some (.ref 6)) 1 33 ⟨hT_8 w.params, 117, hLife, #[], hDrawn, 2336, os⟩ (piecesOf (hSt 9) hEnv hC ⟨17, 0, 18, 16⟩ [topFrame ⟨0, 0, 0, 0⟩]) = some (.next, ⟨hT_9 w.params, 124, hLife, #[], hDrawn, 2346, os⟩, hC, ⟨19, 0, 24, 64⟩) := by
  intro w os
  kernel_rfl
theorem h_10 : ∀ (w : World) (os : OsState), segRunT treeTable hP w 28 (some (.ref 6)) 1 31 ⟨hT_9 w.params, 124, hLife, #[], hDrawn, 2346, os⟩ (piecesOf (hSt 10) hEnv hC ⟨19, 0, 24, 64⟩ [topFrame ⟨0, 0, 0, 0⟩]) = some (.next, ⟨hT_10 w.params, 131, hLife, #[], hDrawn, 2354, os⟩, hC, ⟨25, 0, 27, 12⟩) := by
  intro w os
  kernel_rfl
theorem h_11 : ∀ (w : World) (os : OsState), segRunT treeTable hP w 28 (some (.ref 6)) 1 10 ⟨hT_10 w.params, 131, hLife, #[], hDrawn, 2354, os⟩ (piecesOf (hSt 11) hEnv hC ⟨25, 0, 27, 12⟩ [topFrame ⟨0, 0, 0, 0⟩]) = some (.next, ⟨hT_11 w.params, 131, hLife, #[], hDrawn, 2356, os⟩, hC, ⟨28, 0, 28, 8⟩) := by
  intro w os
  kernel_rfl
theorem h_12 : ∀ (w : World) (os : OsState), segRunT treeTable hP w 28 (some (.ref 6)) 1 60 ⟨hT_11 w.params, 131, hLife, #[], hDrawn, 2356, os⟩ (piecesOf (hSt 12) hEnv hC ⟨28, 0, 28, 8⟩ [topFrame ⟨0, 0, 0, 0⟩]) = some (.next, ⟨hT_12 w.params, 136, hLife, #[], hDrawn, 2372, os⟩, hC, ⟨29, 0, 29, 10⟩) := by
  intro w os
  kernel_rfl
theorem h_13 : ∀ (w : World) (os : OsState), segRunT treeTable hP w 28 (some (.ref 6)) 1 86 ⟨hT_12 w.params, 136, hLife, #[], hDrawn, 2372, os⟩ (piecesOf (hSt 13) hEnv hC ⟨29, 0, 29, 10⟩ [topFrame ⟨0, 0, 0, 0⟩]) = some (.next, ⟨hT_13 w.params, 141, hLife, #[], hDrawn, 2414, os⟩, hC, ⟨30, 0, 30, 10⟩) := by
  intro w os
  kernel_rfl
theorem h_14 : ∀ (w : World) (os : OsState), segRunT treeTable hP w 28 (some (.ref 6)) 1 10 ⟨hT_13 w.params, 141, hLife, #[], hDrawn, 2414, os⟩ (piecesOf (hSt 14) hEnv hC ⟨30, 0, 30, 10⟩ [topFrame ⟨0, 0, 0, 0⟩]) = some (.next, ⟨hT_14 w.params, 141, hLife, #[], hDrawn, 2416, os⟩, hC, ⟨31, 0, 31, 4⟩) := by
  intro w os
  kernel_rfl
theorem h_15 : ∀ (w : World) (os : OsState), segRunT treeTable hP w 28 (some (.ref 6)) 1 30 ⟨hT_14 w.params, 141, hLife, #[], hDrawn, 2416, os⟩ (piecesOf (hSt 15) hEnv hC ⟨31, 0, 31, 4⟩ [topFrame ⟨0, 0, 0, 0⟩]) = some (.next, ⟨hT_15 w.params, 148, hLife, #[], hDrawn, 2423, os⟩, hC, ⟨32, 0, 33, 59⟩) := by
  intro w os
  kernel_rfl
theorem h_16 : ∀ (w : World) (os : OsState), segRunT treeTable hP w 28 (some (.ref 6)) 1 10 ⟨hT_15 w.params, 148, hLife, #[], hDrawn, 2423, os⟩ (piecesOf (hSt 16) hEnv hC ⟨32, 0, 33, 59⟩ [topFrame ⟨0, 0, 0, 0⟩]) = some (.next, ⟨hT_16 w.params, 148, hLife, #[], hDrawn, 2425, os⟩, hC, ⟨34, 0, 34, 8⟩) := by
  intro w os
  kernel_rfl
theorem h_17 : ∀ (w : World) (os : OsState), segRunT treeTable hP w 28 (some (.ref 6)) 1 33 ⟨hT_16 w.params, 148, hLife, #[], hDrawn, 2425, os⟩ (piecesOf (hSt 17) hEnv hC ⟨34, 0, 34, 8⟩ [topFrame ⟨0, 0, 0, 0⟩]) = some (.next, ⟨hT_17 w.params, 155, hLife, #[], hDrawn, 2435, os⟩, hC, ⟨35, 0, 45, 117⟩) := by
  intro w os
  kernel_rfl
theorem h_18 : ∀ (w : World) (os : OsState), segRunT treeTable hP w 28 (some (.ref 6)) 1 30 ⟨hT_17 w.params, 155, hLife, #[], hDrawn, 2435, os⟩ (piecesOf (hSt 18) hEnv hC ⟨35, 0, 45, 117⟩ [topFrame ⟨0, 0, 0, 0⟩]) = some (.next, ⟨hT_18 w.params, 162, hLife, #[], hDrawn, 2442, os⟩, hC, ⟨46, 0, 47, 124⟩) := by
  intro w os
  kernel_rfl
theorem h_19 : ∀ (w : World) (os : OsState), segRunT treeTable hP w 28 (some (.ref 6)) 1 33 ⟨hT_18 w.params, 162, hLife, #[], hDrawn, 2442, os⟩ (piecesOf (hSt 19) hEnv hC ⟨46, 0, 47, 124⟩ [topFrame ⟨0, 0, 0, 0⟩]) = some (.next, ⟨hT_19 w.params, 169, hLife, #[], hDrawn, 2452, os⟩, hC, ⟨48, 0, 56, 24⟩) := by
  intro w os
  kernel_rfl
theorem h_20 : ∀ (w : World) (os : OsState), segRunT treeTable hP w 28 (some (.ref 6)) 1 38 ⟨hT_19 w.params, 169, hLife, #[], hDrawn, 2452, os⟩ (piecesOf (hSt 20) hEnv hC ⟨48, 0, 56, 24⟩ [topFrame ⟨0, 0, 0, 0⟩]) = some (.next, ⟨hT_20 w.params, 176, hLife, #[], hDrawn, 2467, os⟩, hC, ⟨57, 0, 67, 44⟩) := by
  intro w os
  kernel_rfl
theorem h_21 : ∀ (w : World) (os : OsState), segRunT treeTable hP w 28 (some (.ref 6)) 1 31 ⟨hT_20 w.params, 176, hLife, #[], hDrawn, 2467, os⟩ (piecesOf (hSt 21) hEnv hC ⟨57, 0, 67, 44⟩ [topFrame ⟨0, 0, 0, 0⟩]) = some (.next, ⟨hT_21 w.params, 183, hLife, #[], hDrawn, 2475, os⟩, hC, ⟨68, 0, 73, 16⟩) := by
  intro w os
  kernel_rfl
theorem h_22 : ∀ (w : World) (os : OsState), segRunT treeTable hP w 28 (some (.ref 6)) 1 33 ⟨hT_21 w.params, 183, hLife, #[], hDrawn, 2475, os⟩ (piecesOf (hSt 22) hEnv hC ⟨68, 0, 73, 16⟩ [topFrame ⟨0, 0, 0, 0⟩]) = some (.next, ⟨hT_22 w.params, 190, hLife, #[], hDrawn, 2485, os⟩, hC, ⟨74, 0, 78, 16⟩) := by
  intro w os
  kernel_rfl
theorem h_23 : ∀ (w : World) (os : OsState), segRunT treeTable hP w 28 (some (.ref 6)) 1 27 ⟨hT_22 w.params, 190, hLife, #[], hDrawn, 2485, os⟩ (piecesOf (hSt 23) hEnv hC ⟨74, 0, 78, 16⟩ [topFrame ⟨0, 0, 0, 0⟩]) = some (.next, ⟨hT_23 w.params, 195, hLife, #[], hDrawn, 2491, os⟩, hC, ⟨79, 0, 86, 26⟩) := by
  intro w os
  kernel_rfl
theorem h_24 : ∀ (w : World) (os : OsState), segRunT treeTable hP w 28 (some (.ref 6)) 1 27 ⟨hT_23 w.params, 195, hLife, #[], hDrawn, 2491, os⟩ (piecesOf (hSt 24) hEnv hC ⟨79, 0, 86, 26⟩ [topFrame ⟨0, 0, 0, 0⟩]) = some (.next, ⟨hT_24 w.params, 200, hLife, #[], hDrawn, 2497, os⟩, hC, ⟨87, 0, 93, 20⟩) := by
  intro w os
  kernel_rfl
theorem h_25 : ∀ (w : World) (os : OsState), segRunT treeTable hP w 28 (some (.ref 6)) 1 27 ⟨hT_24 w.params, 200, hLife, #[], hDrawn, 2497, os⟩ (piecesOf (hSt 25) hEnv hC ⟨87, 0, 93, 20⟩ [topFrame ⟨0, 0, 0, 0⟩]) = some (.next, ⟨hT_25 w.params, 205, hLife, #[], hDrawn, 2503, os⟩, hC, ⟨94, 0, 128, 44⟩) := by
  intro w os
  kernel_rfl
end MyLaw
end
end
section
open PySem PySem.Spec PySem.Calls PySem.W PySem.W.X PyProof.Rows
noncomputable section
namespace MyLaw
def hP1 (w : World) : Prop := ∀ os : OsState, segRunT treeTable hP w 28 (some (.ref 6)) 1 999 ⟨hT_0 w.params, 32, hLife, #[], hDrawn, 284, os⟩ (piecesOf (hSt 1) hEnv hC ⟨2, 0, 2, 8⟩ [topFrame ⟨0, 0, 0, 0⟩]) = some (.next, ⟨hT_1 w.params, 43, hLife, #[], hDrawn, 344, os⟩, hC, ⟨3, 0, 3, 6⟩)
theorem h_1a (w : World) : hP1 ((w.withFollow "special-get-raises" false).withFollow "set-order" false) := by
  intro os; show segRunT _ _ _ _ _ _ _ _ _ = _; rw [PySem.W.Fast.te10110043849684766642, PySem.W.Fast.te14364793385576792824]; kernel_rfl
theorem h_1b (w : World) : hP1 ((w.withFollow "special-get-raises" true).withFollow "set-order" false) := by
  intro os; show segRunT _ _ _ _ _ _ _ _ _ = _; rw [PySem.W.Fast.te10110043849684766642, PySem.W.Fast.te14364793385576792824]; kernel_rfl
theorem h_1c (w : World) : hP1 ((w.withFollow "special-get-raises" false).withFollow "set-order" true) := by
  intro os; show segRunT _ _ _ _ _ _ _ _ _ = _; rw [PySem.W.Fast.te10110043849684766642, PySem.W.Fast.te14364793385576792824]; kernel_rfl
theorem h_1d (w : World) : hP1 ((w.withFollow "special-get-raises" true).withFollow "set-order" true) := by
  intro os; show segRunT _ _ _ _ _ _ _ _ _ = _; rw [PySem.W.Fast.te10110043849684766642, PySem.W.Fast.te14364793385576792824]; kernel_rfl
theorem h_1 : ∀ w : World, hP1 w := by
  refine byRow2 "set-order" (P := hP1) ?_ ?_
  · refine byRow2 "special-get-raises" (P := fun w => hP1 (w.withFollow "set-order" false)) ?_ ?_
    · exact h_1a
    · exact h_1b
  · refine byRow2 "special-get-raises" (P := fun w => hP1 (w.withFollow "set-order" true)) ?_ ?_
    · exact h_1c
    · exact h_1d
end MyLaw
end
end
section
open PySem PySem.Spec PySem.Calls PySem.W PyProof.Rows
noncomputable section
namespace MyLaw
abbrev hB : List Frame := [topFrame ⟨0, 0, 0, 0⟩]
abbrev hTop (w : World) (N : Nat) (s : Shared) (p : Pos) (cur : Sem Fin) : Option Shared := topRun treeTable hP w 28 (some (.ref 6)) N s ⟨cur, hC, p, hB⟩
def Rn {α : Type} (w : World) (c : Nat) (s : Shared) (p : Pos) (x : Sem α) (v : α) (s' : Shared) (p' : Pos) : Prop :=
  ∀ (K : α → Sem Fin) (H : Value → Sem Fin) (gd : Bool → Bool) (lv : List Value → List Value) (N : Nat), hTop w (N + c) s p (x.wrap K H gd lv) = hTop w N s' p' (K v)
theorem run_go {tb : String → Option Builtin} {p : Program} {w : World} {n₀ : Nat} {ann : Option Value} {n : Nat} {s s2 : Shared} {t t2 : Thread} (h1 : through t = false) (h2 : stepOk n₀ ann t = true) (h3 : step (denote tb) p w s t = .go s2 t2) : topRun tb p w n₀ ann (n + 1) s t = topRun tb p w n₀ ann n s2 t2 := by
  rw [topRun, h1, h2, h3]
section
variable {α β : Type} {w : World} {c c1 c2 : Nat} {s s1 s' : Shared} {p p1 p' : Pos} {v : α} {u : β}
theorem Rn.pure : Rn w 0 s p (.pure v) v s p := fun _ _ _ _ _ => rfl
theorem Rn.ret : Rn w 0 s p (Pure.pure v : Sem α) v s p := fun _ _ _ _ _ => rfl
theorem Rn.bind {x : Sem β} {f : β → Sem α} (h1 : Rn w c1 s p x u s1 p1) (h2 : Rn w c2 s1 p1 (f u) v s' p') : Rn w (c2 + c1) s p (x >>= f) v s' p' := fun K H gd lv N => by
  rw [Sem.bind_eq_wrap', Sem.wrap_wrap, ← Nat.add_assoc]
  exact (h1 _ _ _ _ (N + c2)).trans (h2 K H gd lv N)
theorem Rn.keep {x : Sem α} {vs : List Value} (h : Rn w c s p x v s' p') : Rn w c s p (x.keep vs) v s' p' := fun K H gd lv N => by
  rw [Sem.keep_eq_wrap, Sem.wrap_wrap]
  exact h _ _ _ _ N
theorem Rn.holding {x : Sem α} {vs : List Value} (h : Rn w c s p x v s' p') : Rn w c s p (PySem.holding vs x) v s' p' := by
  unfold PySem.holding
  split
  · exact h
  · exact h.keep
theorem Rn.onRaise {x : Sem α} {r : Value → Sem Unit} (h : Rn w c s p x v s' p') : Rn w c s p (x.onRaise r) v s' p' := fun K H gd lv N => by
  rw [Sem.onRaise_eq_wrap, Sem.wrap_wrap]
  exact h _ _ _ _ N
theorem Rn.load {a : Addr} {o : Obj} {q : Option Value} {k : Obj → Sem α} (ho : s.heap.get? a = some o) (h : Rn w c s p (k o) v s' p') : Rn w (c + 1) s p (.load a q k) v s' p' := fun K H gd lv N => by
  obtain ⟨heap, gens, drawn, toks, os⟩ := s
  refine (run_go (t := ⟨.load a q (fun o => (k o).wrap K H gd lv), hC, p, hB⟩) rfl rfl ?_).trans (h K H gd lv N)
  dsimp only at ho
  simp only [step, ho]
theorem Rn.update {a : Addr} {o : Obj} {q : Option Value} {f : Obj → Obj} {k : Unit → Sem α} (ha : 28 ≤ a) (ho : s.heap.get? a = some o) (h : Rn w c { s with heap := s.heap.update a f } p (k ()) v s' p') : Rn w (c + 1) s p (.update a q f k) v s' p' := fun K H gd lv N => by
  obtain ⟨heap, gens, drawn, toks, os⟩ := s
  refine (run_go (t := ⟨.update a q f (fun o => (k o).wrap K H gd lv), hC, p, hB⟩) rfl ?_ ?_).trans (h K H gd lv N)
  · show (_ && (Nat.ble 28 a || _ || _ || _)) = true
    rw [Nat.ble_eq_true_of_le ha]
    rfl
  · dsimp only at ho
    simp only [step, ho, Option.isSome_some, if_true]
theorem Rn.at {q : Pos} {k : Unit → Sem α} (h : Rn w c s q (k ()) v s' p') : Rn w (c + 1) s p (.at q k) v s' p' := fun K H gd lv N => by
  obtain ⟨heap, gens, drawn, toks, os⟩ := s
  exact h K H gd lv N
theorem Rn.rule {q : String} {k : Unit → Sem α} (h : Rn w c s p (k ()) v s' p') : Rn w (c + 1) s p (.rule q k) v s' p' := fun K H gd lv N => by
  obtain ⟨heap, gens, drawn, toks, os⟩ := s
  exact h K H gd lv N
theorem Rn.point {l : List Value} {k : Unit → Sem α} (h : Rn w c s p (k ()) v s' p') : Rn w (c + 1) s p (.point l k) v s' p' := fun K H gd lv N => by
  obtain ⟨heap, gens, drawn, toks, os⟩ := s
  exact h K H gd lv N
theorem Rn.alloc {o : Obj} {k : Addr → Sem α} (h : Rn w c { s with heap := s.heap.push o } p (k s.heap.objs.size) v s' p') : Rn w (c + 1) s p (.alloc o k) v s' p' := fun K H gd lv N => by
  obtain ⟨heap, gens, drawn, toks, os⟩ := s
  exact h K H gd lv N
theorem Rn.fresh {k : Tok → Sem α} (h : Rn w c { s with toks := s.toks + 1 } p (k s.toks) v s' p') : Rn w (c + 1) s p (.fresh k) v s' p' := fun K H gd lv N => by
  obtain ⟨heap, gens, drawn, toks, os⟩ := s
  exact h K H gd lv N
theorem Rn.cast {x : Sem α} {c' : Nat} (h : Rn w c s p x v s' p') (e : c = c') : Rn w c' s p x v s' p' := e ▸ h
end
end MyLaw
end
end
section
open PySem PySem.Spec PySem.Calls PySem.W PyProof.Rows
noncomputable section
namespace MyLaw
def kHashP (w : World) : Prop := ∀ (s : Shared) (p : Pos) (k : Int) (t : Tok) (K : Int → Sem Fin) (H : Value → Sem Fin) (gd : Bool → Bool) (lv : List Value → List Value) (N : Nat),
  hTop w (N + 5) s p ((pyHash (.int k t)).wrap K H gd lv) = hTop w N { s with toks := s.toks + 1 } p ((pyHashByItsType.reduced (rawHash k)).wrap K H gd lv)
theorem hash_run : ∀ w : World, kHashP w := by
  refine byRow2 "special-get-raises" (P := kHashP) ?_ ?_
  · intro w s p k t K H gd lv N
    kernel_rfl
  · intro w s p k t K H gd lv N
    kernel_rfl
abbrev dO (es : Array DictEntry) (n : Nat) : Obj := ⟨.type "dict", none, .dict es n, #[]⟩
theorem upd_self {h : Heap} {a : Addr} {o : Obj} (e : h.get? a = some o) : h.update a (fun _ => o) = h := by
  obtain ⟨objs, l⟩ := h
  have e' : objs[a]? = some o := by
    unfold Heap.get? at e
    dsimp only at e
    split at e
    · cases e
    · exact e
  show Heap.mk _ _ = Heap.mk _ _
  congr 1
  apply Array.ext
  · simp
  · intro i h1 h2
    rw [Array.getElem_modify]
    split
    · rename_i hia
      subst hia
      rw [Array.getElem?_eq_getElem h2] at e'
      exact (Option.some.inj e').symm
    · rfl
theorem upd_upd (h : Heap) (a : Addr) (o : Obj) (f : Obj → Obj) : (h.update a (fun _ => o)).update a f = h.update a (fun _ => f o) := by
  obtain ⟨objs, l⟩ := h
  show Heap.mk _ _ = Heap.mk _ _
  congr 1
  apply Array.ext
  · simp
  · intro i h1 h2
    simp only [Array.getElem_modify]
    split <;> rfl
theorem get_upd {h : Heap} {a : Addr} {o o' : Obj} (e : h.get? a = some o) (hf : o'.isFreed = false) : (h.update a (fun _ => o')).get? a = some o' := Heap.get?_update_self (fun _ => o') e hf
theorem get_upd_ne {h : Heap} {a b : Addr} {o : Obj} (f : Obj → Obj) (e : h.get? b = some o) (hab : a ≠ b) : (h.update a f).get? b = some o := by rw [Heap.get?_update_other h f hab]; exact e
theorem places_none {es : Array DictEntry} {h : Int} (hf : ∀ e ∈ es, e.hash ≠ h) : placesWithHash es.size (fun i => es[i]?.map (·.hash)) h = [] := by
  unfold placesWithHash
  refine List.filter_eq_nil_iff.mpr fun i hi => ?_
  have hi : i < es.size := List.mem_range.mp hi
  dsimp only
  rw [Array.getElem?_eq_getElem hi]
  have := hf es[i] (Array.getElem_mem hi)
  simp [this]
theorem find_shape (d : Addr) (k : Int) (t : Tok) (h : Int) : ∃ F : Array DictEntry → Sem (Option Nat), dictFind d (.int k t) h = (dictEntries d (keyPart (.int k t)) >>= F) ∧
    ∀ es : Array DictEntry, placesWithHash es.size (fun i => es[i]?.map (·.hash)) h = [] → F es = pure none := by
  refine ⟨_, rfl, fun es hp => ?_⟩
  dsimp only
  rw [hp]
  rfl
section
variable {w : World} {s : Shared} {p : Pos} {d : Addr} {es : Array DictEntry} {n : Nat} {k : Int} {t : Tok} {h : Int}
theorem Rn.entries {q : Option Value} (hd : s.heap.get? d = some (dO es n)) : Rn w 1 s p (dictEntries d q) es s p := Rn.load hd Rn.ret
theorem Rn.epoch {q : Option Value} (hd : s.heap.get? d = some (dO es n)) : Rn w 1 s p (dictEpoch d q) n s p := Rn.load hd Rn.ret
theorem Rn.find (hd : s.heap.get? d = some (dO es n)) (hf : ∀ e ∈ es, e.hash ≠ h) : Rn w 1 s p (dictFind d (.int k t) h) none s p := by
  obtain ⟨F, e, hF⟩ := find_shape d k t h
  rw [e]
  have r : Rn w 0 s p (F es) none s p := by rw [hF es (places_none hf)]; exact Rn.ret
  exact Rn.bind (Rn.entries hd) r
theorem Rn.push {q : Option Value} {x : DictEntry} (h28 : 28 ≤ d) (hd : s.heap.get? d = some (dO es n)) (hsz : es.size ≤ 1000) :
    Rn w 3 s p (updateDictKeys d (·.push x) q) () { s with heap := s.heap.update d (fun _ => dO (es.push x) (n + 1)) } p := by
  have e : s.heap.update d (Obj.mapDictKeys (·.push x)) = s.heap.update d (fun _ => dO (es.push x) (n + 1)) := by
    rw [← upd_self hd, upd_upd]
    conv => rhs; rw [upd_upd]
    rfl
  refine Rn.load (c := 2) hd ?_
  refine Rn.update (c := 1) h28 hd ?_
  rw [e]
  refine Rn.load (c := 0) (get_upd hd rfl) ?_
  show Rn w 0 _ p ((match (Data.dict (es.push x) (n + 1)).pastItsLine with | some what => unsupported what | _ => Pure.pure ()) : Sem Unit) () _ p
  have e2 : (Data.dict (es.push x) (n + 1)).pastItsLine = none := by
    show (if (es.push x).size > sizeLine + 1 then some _ else none) = none
    rw [if_neg]
    rw [Array.size_push]
    have : 1000 ≤ sizeLine := Nat.le_of_ble_eq_true rfl
    omega
  rw [e2]
  exact Rn.ret
theorem Rn.put {v : Value} (h28 : 28 ≤ d) (hd : s.heap.get? d = some (dO es n)) (hf : ∀ e ∈ es, e.hash ≠ h) (hsz : es.size ≤ 1000) :
    Rn w 4 s p (dictPut d h (.int k t) v) () { s with heap := s.heap.update d (fun _ => dO (es.push ⟨h, .int k t, v⟩) (n + 1)) } p :=
  Rn.bind (c1 := 1) (c2 := 3) (Rn.find hd hf) (Rn.push h28 hd hsz)
theorem Rn.setHashed {v : Value} (h28 : 28 ≤ d) (hd : s.heap.get? d = some (dO es n)) (hf : ∀ e ∈ es, e.hash ≠ h) (hsz : es.size ≤ 1000) :
    Rn w 5 s p (dictSetHashed d (.int k t) h v) () { s with heap := s.heap.update d (fun _ => dO (es.push ⟨h, .int k t, v⟩) (n + 1)) } p :=
  Rn.holding (Rn.bind (c1 := 1) (c2 := 4) (Rn.find hd hf) (Rn.rule (c := 3) (Rn.push h28 hd hsz)))
theorem Rn.hash (h0 : 0 ≤ k) (h1 : k < 2 ^ 60) : Rn w 5 s p (pyHash (.int k t)) k { s with toks := s.toks + 1 } p := fun K H gd lv N => by
  have e : rawHash k = k := by
    have h2 : (k.natAbs : Int) % ((2 ^ 61 - 1 : Nat) : Int) = k := by
      have h3 : (k.natAbs : Int) = k := Int.natAbs_of_nonneg h0
      rw [h3]
      exact Int.emod_eq_of_lt h0 (by omega)
    unfold rawHash
    rw [h2]
    dsimp only
    rw [if_neg (show ¬ k < 0 by omega)]
    exact if_neg (by simp; omega)
  have e2 : pyHashByItsType.reduced k = Pure.pure k := by
    unfold pyHashByItsType.reduced
    have a1 : (-(2 ^ 63 : Int) ≤ k && k < 2 ^ 63) = true := by simp; omega
    have a2 : (k == -1) = false := by simp; omega
    rw [a1, a2]
    rfl
  rw [hash_run w s p k t K H gd lv N, e, e2]
  rfl
theorem Rn.set {v : Value} (h28 : 28 ≤ d) (hd : s.heap.get? d = some (dO es n)) (h0 : 0 ≤ k) (h1 : k < 2 ^ 60) (hf : ∀ e ∈ es, e.hash ≠ k) (hsz : es.size ≤ 1000) :
    Rn w 10 s p (dictSet d (.int k t) v) () { s with heap := s.heap.update d (fun _ => dO (es.push ⟨k, .int k t, v⟩) (n + 1)), toks := s.toks + 1 } p :=
  Rn.holding (Rn.bind (c1 := 5) (c2 := 5) (Rn.hash h0 h1) (Rn.setHashed (s := { s with toks := s.toks + 1 }) h28 hd hf hsz))
end
end MyLaw
end
end
section
open PySem PySem.Spec PySem.Calls PySem.W PyProof.Rows
noncomputable section
namespace MyLaw
abbrev dL (l : List DictEntry) (n : Nat) : Obj := dO l.toArray n
noncomputable def laid3 : Nat → List (Int × Str) → List DictEntry
  | _, [] => []
  | t, (k, x) :: r => ⟨k, .int k t, .str x (t + 1)⟩ :: laid3 (t + 3) r
theorem laid3_len : ∀ (c : List (Int × Str)) (t : Nat), (laid3 t c).length = c.length
  | [], _ => rfl
  | (_, _) :: r, t => by rw [laid3, List.length_cons, laid3_len r, List.length_cons]
theorem laid3_key (c : List (Int × Str)) : ∀ (t : Nat) (e : DictEntry), e ∈ laid3 t c → ∃ q ∈ c, e.hash = q.1 ∧ ∃ u, e.key = .int q.1 u := by
  induction c with
  | nil => intro t e h; rw [laid3] at h; cases h
  | cons a r ih =>
    intro t e h
    rw [laid3] at h
    rcases List.mem_cons.mp h with h | h
    · subst h
      exact ⟨_, .head _, rfl, _, rfl⟩
    · obtain ⟨q, hq, h2⟩ := ih _ e h
      exact ⟨q, .tail _ hq, h2⟩
theorem push_upd (h : Heap) (o o' : Obj) : (h.push o).update h.objs.size (fun _ => o') = h.push o' := by
  obtain ⟨objs, l⟩ := h
  show Heap.mk _ _ = Heap.mk _ _
  congr 1
  apply Array.ext
  · simp
  · intro i h1 h2
    rw [Array.getElem_modify, Array.getElem_push, Array.getElem_push]
    simp at h2
    split
    · rename_i e; subst e; simp
    · split
      · rfl
      · rename_i e1 e2
        dsimp only at e1
        omega
def kS (k : Int) : Sem Value := constValue hEnv (.int k)
def vS (P : Pos) (x : Str) : Sem Value := do let v ← constValue hEnv (.str x); standAt P; pure v
def item (P : Pos) (q : Int × Str) : Sem Value × Sem Value := (kS q.1, vS P q.2)
section
variable {w : World} {s : Shared} {p P : Pos} {d : Addr} {n : Nat}
theorem Rn.key {k : Int} : Rn w 1 s p (kS k) (.int k s.toks) { s with toks := s.toks + 1 } p := Rn.fresh Rn.ret
theorem Rn.val {x : Str} : Rn w 2 s p (vS P x) (.str x s.toks) { s with toks := s.toks + 1 } P := Rn.bind (c1 := 1) (c2 := 1) (Rn.fresh Rn.ret) (Rn.at Rn.ret)
structure Up (l : List DictEntry) (c : List (Int × Str)) : Prop where
  small : ∀ q ∈ c, 0 ≤ q.1 ∧ q.1 < 2 ^ 60
  grow : c.Pairwise fun q r => q.1 < r.1
  above : ∀ e ∈ l, ∀ q ∈ c, e.hash < q.1
theorem Up.next {l : List DictEntry} {k : Int} {x : Str} {c : List (Int × Str)} {e : DictEntry} (U : Up l ((k, x) :: c)) (he : e.hash = k) : Up (l ++ [e]) c :=
  ⟨fun q hq => U.small q (.tail _ hq), (List.pairwise_cons.mp U.grow).2, fun e' he' q hq => by
    rcases List.mem_append.mp he' with he' | he'
    · exact U.above e' he' q (.tail _ hq)
    · rw [List.mem_singleton.mp he', he]
      exact (List.pairwise_cons.mp U.grow).1 q hq⟩
theorem Up.free {l : List DictEntry} {k : Int} {x : Str} {c : List (Int × Str)} (U : Up l ((k, x) :: c)) : ∀ e ∈ l.toArray, e.hash ≠ k := fun e he => by
  have := U.above e (by simpa using he) (k, x) (.head _)
  exact Int.ne_of_lt this
theorem Rn.longLoop {B : Sem Value × Sem Value → PUnit → Sem (ForInStep PUnit)} {h : Heap}
    (hB : ∀ k v, B (k, v) PUnit.unit = (do let kv ← k; let vv ← PySem.holding [kv] v; PySem.holding [kv, vv] (dictSet h.objs.size kv vv); Pure.pure (ForInStep.yield PUnit.unit))) (h28 : 28 ≤ h.objs.size) :
    ∀ (c : List (Int × Str)) (l : List DictEntry) (n : Nat) (s : Shared), s.heap = h.push (dL l n) → Up l c → l.length + c.length ≤ 1000 →
      Rn w (13 * c.length) s P (forIn (c.map (item P)) PUnit.unit B) PUnit.unit { s with heap := h.push (dL (l ++ laid3 s.toks c) (n + c.length)), toks := s.toks + 3 * c.length } P
  | [], l, n, s, hh, _, _ => by
    have e : ({ s with heap := h.push (dL (l ++ laid3 s.toks []) (n + 0)), toks := s.toks + 0 } : Shared) = s := by
      obtain ⟨a, b, c, d, e⟩ := s
      dsimp only at hh
      subst hh
      simp [laid3]
    show Rn w 0 s P (Pure.pure PUnit.unit) PUnit.unit ({ s with heap := h.push (dL (l ++ laid3 s.toks []) (n + 0)), toks := s.toks + 0 } : Shared) P
    rw [e]
    exact Rn.ret
  | (k, x) :: c, l, n, s, hh, U, hsz => by
    have hk := U.small (k, x) (.head _)
    rw [List.map_cons, List.forIn_cons]
    have hget : (h.push (dL l n)).get? h.objs.size = some (dL l n) := Heap.get?_push_size _ rfl
    have one : Rn w 13 s P (B (item P (k, x)) PUnit.unit) (ForInStep.yield PUnit.unit) { s with heap := h.push (dL (l ++ [⟨k, .int k s.toks, .str x (s.toks + 1)⟩]) (n + 1)), toks := s.toks + 3 } P := by
      rw [show item P (k, x) = (kS k, vS P x) from rfl, hB]
      refine Rn.bind (c1 := 1) (c2 := 12) Rn.key (Rn.bind (c1 := 2) (c2 := 10) (Rn.holding Rn.val) (Rn.bind (c1 := 10) (c2 := 0) (Rn.holding (Rn.set (es := l.toArray) (n := n) h28 ?_ hk.1 hk.2 U.free ?_)) ?_))
      · show s.heap.get? _ = _
        rw [hh]; exact hget
      · have : l.length ≤ 1000 := by omega
        simpa using this
      · have e : s.heap.update h.objs.size (fun _ => dO (l.toArray.push ⟨k, .int k s.toks, .str x (s.toks + 1)⟩) (n + 1)) = h.push (dL (l ++ [⟨k, .int k s.toks, .str x (s.toks + 1)⟩]) (n + 1)) := by
          rw [hh, push_upd]; simp
        dsimp only
        rw [e]
        exact Rn.ret
    have rest := Rn.longLoop hB h28 c (l ++ [⟨k, .int k s.toks, .str x (s.toks + 1)⟩]) (n + 1) { s with heap := h.push (dL (l ++ [⟨k, .int k s.toks, .str x (s.toks + 1)⟩]) (n + 1)), toks := s.toks + 3 } rfl (U.next rfl) (by simp at hsz ⊢; omega)
    dsimp only at rest
    have e2 : n + 1 + c.length = n + (c.length + 1) := by omega
    have e3 : s.toks + 3 + 3 * c.length = s.toks + 3 * (c.length + 1) := by omega
    rw [e2, e3, List.append_assoc] at rest
    refine Rn.cast (Rn.bind one ?_) (show 13 * c.length + 13 = 13 * (c.length + 1) by omega)
    exact rest
theorem Rn.subLong {c : List (Int × Str)} (h28 : 28 ≤ s.heap.objs.size) (hc : c.length = 17) (U : Up [] c) :
    Rn w 223 s P (subDict (c.map (item P))) s.heap.objs.size { s with heap := s.heap.push (dL (laid3 s.toks c) 17), toks := s.toks + 51 } P := by
  unfold subDict
  refine Rn.bind (c1 := 1) (c2 := 222) (Rn.alloc Rn.ret) (Rn.bind (c1 := 222) (c2 := 0) (u := ()) (Rn.holding ?_) Rn.ret)
  rw [if_neg (by rw [List.length_map, hc]; decide)]
  refine Rn.bind (c1 := 1) (c2 := 221) (Rn.rule Rn.ret) (Rn.bind (c1 := 221) (c2 := 0) (u := PUnit.unit) ?_ Rn.ret)
  have r := Rn.longLoop (w := w) (P := P) (h := s.heap) (B := fun x _ => match x with | (k, v) => do let kv ← k; let vv ← PySem.holding [kv] v; PySem.holding [kv, vv] (dictSet s.heap.objs.size kv vv); Pure.pure (ForInStep.yield PUnit.unit)) (fun _ _ => rfl) h28 c [] 0 { s with heap := s.heap.push (dL [] 0) } rfl U (by simp; omega)
  rw [hc] at r
  exact r
end
end MyLaw
end
end
section
open PySem PySem.Spec PySem.Calls PySem.W PyProof.Rows
noncomputable section
namespace MyLaw
noncomputable def laid2 : Nat → List (Int × Str) → List DictEntry
  | _, [] => []
  | t, (k, x) :: r => ⟨k, .int k t, .str x (t + 1)⟩ :: laid2 (t + 2) r
theorem laid2_len : ∀ (c : List (Int × Str)) (t : Nat), (laid2 t c).length = c.length
  | [], _ => rfl
  | (_, _) :: r, t => by rw [laid2, List.length_cons, laid2_len r, List.length_cons]
theorem laid2_key (c : List (Int × Str)) : ∀ (t : Nat) (e : DictEntry), e ∈ laid2 t c → ∃ q ∈ c, e.hash = q.1 ∧ ∃ u, e.key = .int q.1 u := by
  induction c with
  | nil => intro t e h; rw [laid2] at h; cases h
  | cons a r ih =>
    intro t e h
    rw [laid2] at h
    rcases List.mem_cons.mp h with h | h
    · subst h
      exact ⟨_, .head _, rfl, _, rfl⟩
    · obtain ⟨q, hq, h2⟩ := ih _ e h
      exact ⟨q, .tail _ hq, h2⟩
noncomputable def valsOf : Nat → List (Int × Str) → List (Value × Value)
  | _, [] => []
  | t, (k, x) :: r => (.int k t, .str x (t + 1)) :: valsOf (t + 2) r
section
variable {w : World} {p P : Pos}
theorem Rn.evalPairs : ∀ (c : List (Int × Str)) (s : Shared), Rn w (3 * c.length) s P (PySem.evalPairs (c.map (item P))) (valsOf s.toks c) { s with toks := s.toks + 2 * c.length } P
  | [], s => Rn.ret
  | (k, x) :: c, s => by
    have rest := Rn.evalPairs c { s with toks := s.toks + 2 }
    dsimp only at rest
    rw [show s.toks + 2 + 2 * c.length = s.toks + 2 * (c.length + 1) by omega] at rest
    rw [List.map_cons, show item P (k, x) = (kS k, vS P x) from rfl]
    unfold PySem.evalPairs
    refine Rn.cast (Rn.bind (c1 := 1) (c2 := 3 * c.length + 2) Rn.key (Rn.bind (c1 := 2) (c2 := 3 * c.length) (Rn.holding Rn.val) (Rn.cast (Rn.bind (c1 := 3 * c.length) (c2 := 0) (Rn.holding rest) Rn.ret) (Nat.zero_add _)))) (show _ = 3 * (c.length + 1) by omega)
theorem Rn.shortLoop {B : Value × Value → PUnit → Sem (ForInStep PUnit)} {h : Heap}
    (hB : ∀ k v, B (k, v) PUnit.unit = (do dictSet h.objs.size k v; Pure.pure (ForInStep.yield PUnit.unit))) (h28 : 28 ≤ h.objs.size) :
    ∀ (c : List (Int × Str)) (t : Nat) (l : List DictEntry) (n : Nat) (s : Shared), s.heap = h.push (dL l n) → Up l c → l.length + c.length ≤ 1000 →
      Rn w (10 * c.length) s P (forIn (valsOf t c) PUnit.unit B) PUnit.unit { s with heap := h.push (dL (l ++ laid2 t c) (n + c.length)), toks := s.toks + c.length } P
  | [], t, l, n, s, hh, _, _ => by
    have e : ({ s with heap := h.push (dL (l ++ laid2 t []) (n + 0)), toks := s.toks + 0 } : Shared) = s := by
      obtain ⟨a, b, c, d, e⟩ := s
      dsimp only at hh
      subst hh
      simp [laid2]
    show Rn w 0 s P (Pure.pure PUnit.unit) PUnit.unit ({ s with heap := h.push (dL (l ++ laid2 t []) (n + 0)), toks := s.toks + 0 } : Shared) P
    rw [e]
    exact Rn.ret
  | (k, x) :: c, t, l, n, s, hh, U, hsz => by
    have hk := U.small (k, x) (.head _)
    rw [valsOf, List.forIn_cons]
    have hget : (h.push (dL l n)).get? h.objs.size = some (dL l n) := Heap.get?_push_size _ rfl
    have one : Rn w 10 s P (B (.int k t, .str x (t + 1)) PUnit.unit) (ForInStep.yield PUnit.unit) { s with heap := h.push (dL (l ++ [⟨k, .int k t, .str x (t + 1)⟩]) (n + 1)), toks := s.toks + 1 } P := by
      rw [hB]
      refine Rn.bind (c1 := 10) (c2 := 0) (Rn.set (es := l.toArray) (n := n) h28 ?_ hk.1 hk.2 U.free ?_) ?_
      · rw [hh]; exact hget
      · have : l.length ≤ 1000 := by omega
        simpa using this
      · have e : s.heap.update h.objs.size (fun _ => dO (l.toArray.push ⟨k, .int k t, .str x (t + 1)⟩) (n + 1)) = h.push (dL (l ++ [⟨k, .int k t, .str x (t + 1)⟩]) (n + 1)) := by
          rw [hh, push_upd]; simp
        rw [e]
        exact Rn.ret
    have rest := Rn.shortLoop hB h28 c (t + 2) (l ++ [⟨k, .int k t, .str x (t + 1)⟩]) (n + 1) { s with heap := h.push (dL (l ++ [⟨k, .int k t, .str x (t + 1)⟩]) (n + 1)), toks := s.toks + 1 } rfl (U.next rfl) (by simp at hsz ⊢; omega)
    dsimp only at rest
    have e2 : n + 1 + c.length = n + (c.length + 1) := by omega
    have e3 : s.toks + 1 + c.length = s.toks + (c.length + 1) := by omega
    rw [e2, e3, List.append_assoc] at rest
    refine Rn.cast (Rn.bind one ?_) (show 10 * c.length + 10 = 10 * (c.length + 1) by omega)
    exact rest
theorem Rn.subShort {c : List (Int × Str)} {s : Shared} (h28 : 28 ≤ s.heap.objs.size) (hc : c.length = 4) (U : Up [] c) :
    Rn w 53 s P (subDict (c.map (item P))) s.heap.objs.size { s with heap := s.heap.push (dL (laid2 s.toks c) 4), toks := s.toks + 12 } P := by
  unfold subDict
  refine Rn.bind (c1 := 1) (c2 := 52) (Rn.alloc Rn.ret) (Rn.bind (c1 := 52) (c2 := 0) (u := ()) (Rn.holding ?_) Rn.ret)
  rw [if_pos (by rw [List.length_map, hc]; decide)]
  have r1 := Rn.evalPairs (w := w) (P := P) c { s with heap := s.heap.push (dL [] 0) }
  have r := Rn.shortLoop (w := w) (P := P) (h := s.heap) (B := fun x _ => match x with | (k, v) => do dictSet s.heap.objs.size k v; Pure.pure (ForInStep.yield PUnit.unit)) (fun _ _ => rfl) h28 c s.toks [] 0 { s with heap := s.heap.push (dL [] 0), toks := s.toks + 2 * c.length } rfl U (by simp; omega)
  rw [hc] at r r1
  refine Rn.bind (c1 := 12) (c2 := 40) r1 (Rn.holding (Rn.bind (c1 := 40) (c2 := 0) (u := PUnit.unit) ?_ Rn.ret))
  exact r
theorem Rn.isDict {s : Shared} {a : Addr} {es : Array DictEntry} {n : Nat} (ha : s.heap.get? a = some (dO es n)) : Rn w 1 s p (isInstance (.ref a) (.type "dict")) true s p :=
  Rn.load ha (fun K H gd lv N => by kernel_rfl)
theorem Rn.iterOf {s : Shared} {a : Addr} {es : Array DictEntry} {n : Nat} (ha : s.heap.get? a = some (dO es n)) : Rn w 1 s p (specialOf (.ref a) (Str.ofString "__iter__")) (some (.builtin "dict.__iter__")) s p :=
  Rn.load ha (fun K H gd lv N => by kernel_rfl)
theorem Rn.mergeLoop {B : Nat → PUnit → Sem (ForInStep PUnit)} {d a : Addr} {l' : List DictEntry} {n' : Nat} (h28 : 28 ≤ d) (hda : d ≠ a)
    (hB : ∀ (i : Nat) (e : DictEntry) (l : List DictEntry) (n : Nat) (s : Shared), l'[i]? = some e → s.heap.get? a = some (dL l' n') → s.heap.get? d = some (dL l n) → (∃ k t, e.key = .int k t) → (∀ e' ∈ l, e'.hash ≠ e.hash) → l.length ≤ 1000 →
      Rn w 6 s p (B i PUnit.unit) (ForInStep.yield PUnit.unit) { s with heap := s.heap.update d (fun _ => dL (l ++ [e]) (n + 1)) } p) :
    ∀ (r : List DictEntry) (i : Nat) (l : List DictEntry) (n : Nat) (s : Shared), l'.drop i = r → s.heap.get? a = some (dL l' n') → s.heap.get? d = some (dL l n) → (∀ e ∈ r, ∃ k t, e.key = .int k t) → (∀ e ∈ r, ∀ e' ∈ l, e'.hash ≠ e.hash) → (r.Pairwise fun e e' => e.hash ≠ e'.hash) → l.length + r.length ≤ 1000 →
      Rn w (6 * r.length) s p (forIn (List.range' i r.length) PUnit.unit B) PUnit.unit { s with heap := s.heap.update d (fun _ => dL (l ++ r) (n + r.length)) } p
  | [], i, l, n, s, _, _, hd, _, _, _, _ => by
    have e : ({ s with heap := s.heap.update d (fun _ => dL (l ++ []) (n + 0)) } : Shared) = s := by
      rw [List.append_nil, Nat.add_zero, upd_self hd]
    show Rn w 0 s p (Pure.pure PUnit.unit) PUnit.unit ({ s with heap := s.heap.update d (fun _ => dL (l ++ []) (n + 0)) } : Shared) p
    rw [e]
    exact Rn.ret
  | e :: r, i, l, n, s, hr, ha, hd, hk, hf, hp, hsz => by
    have hi : l'[i]? = some e := by
      have : (l'.drop i)[0]? = some e := by rw [hr]; rfl
      rw [List.getElem?_drop] at this
      exact this
    have hr2 : l'.drop (i + 1) = r := by
      rw [← List.drop_drop, hr]; rfl
    rw [List.length_cons, List.range'_succ, List.forIn_cons]
    have one := hB i e l n s hi ha hd (hk e (.head _)) (hf e (.head _)) (by omega)
    have rest := Rn.mergeLoop h28 hda hB r (i + 1) (l ++ [e]) (n + 1) { s with heap := s.heap.update d (fun _ => dL (l ++ [e]) (n + 1)) } hr2 (get_upd_ne _ ha hda) (get_upd hd rfl) (fun e' h => hk e' (.tail _ h))
      (fun e1 h1 e' h' => by
        rcases List.mem_append.mp h' with h' | h'
        · exact hf e1 (.tail _ h1) e' h'
        · rw [List.mem_singleton.mp h']
          exact (List.pairwise_cons.mp hp).1 e1 h1) (List.pairwise_cons.mp hp).2 (by simp at hsz ⊢; omega)
    dsimp only at rest
    rw [upd_upd, List.append_assoc, show n + 1 + r.length = n + (r.length + 1) by omega] at rest
    refine Rn.cast (Rn.bind one ?_) (show 6 * r.length + 6 = 6 * (r.length + 1) by omega)
    exact rest
theorem Rn.merge {s : Shared} {d a : Addr} {l l' : List DictEntry} {n n' : Nat} (h28 : 28 ≤ d) (hda : d ≠ a) (hs : (a == sysModules) = false) (ha : s.heap.get? a = some (dL l' n')) (hd : s.heap.get? d = some (dL l n)) (hl : l ≠ [])
    (hk : ∀ e ∈ l', ∃ k t, e.key = .int k t) (hf : ∀ e ∈ l', ∀ e' ∈ l, e'.hash ≠ e.hash) (hp : l'.Pairwise fun e e' => e.hash ≠ e'.hash) (hsz : l.length + l'.length ≤ 1000) :
    Rn w (6 * l'.length + 5) s p (mergeMapping d (.ref a) false) () { s with heap := s.heap.update d (fun _ => dL (l ++ l') (n + l'.length)) } p := by
  unfold mergeMapping
  refine Rn.cast (c := (6 * l'.length + 4) + 1) (Rn.bind (c1 := 1) (Rn.isDict ha) ?_) (by omega)
  refine Rn.cast (c := (6 * l'.length + 3) + 1) (Rn.bind (c1 := 1) (Rn.iterOf ha) ?_) (by omega)
  refine Rn.cast (c := (6 * l'.length + 3) + 0) (Rn.bind (c1 := 0) (u := true) Rn.ret ?_) (by omega)
  dsimp only
  rw [hs, if_neg Bool.false_ne_true]
  refine Rn.cast (c := (6 * l'.length + 2) + 1) (Rn.bind (c1 := 1) (Rn.entries hd) ?_) (by omega)
  rw [show l.toArray.isEmpty = false by cases l with | nil => exact absurd rfl hl | cons a b => rfl, if_neg Bool.false_ne_true]
  refine Rn.cast (c := (6 * l'.length + 1) + 1) (Rn.bind (c1 := 1) (Rn.entries ha) ?_) (by omega)
  refine Rn.cast (c := (6 * l'.length) + 1) (Rn.bind (c1 := 1) (Rn.epoch ha) ?_) (by omega)
  refine Rn.cast (c := 0 + 6 * l'.length) (Rn.bind (c1 := 6 * l'.length) (u := PUnit.unit) ?_ Rn.ret) (by omega)
  rw [show l'.toArray.size = l'.length from rfl, List.range_eq_range']
  refine Rn.mergeLoop h28 hda ?_ l' 0 l n s rfl ha hd hk hf hp hsz
  intro i e l1 n1 s1 hi ha1 hd1 ⟨k, t, hkt⟩ hf1 hsz1
  obtain ⟨eh, ek, ev⟩ := e
  dsimp only at hkt
  subst hkt
  refine Rn.bind (c1 := 1) (c2 := 5) (Rn.entries ha1) ?_
  rw [List.getElem?_toArray, hi]
  have r := Rn.put (w := w) (s := s1) (p := p) (d := d) (es := l1.toArray) (n := n1) (k := k) (t := t) (h := eh) (v := ev) h28 hd1 (fun e' he' => hf1 e' (by simpa using he')) (by simpa using hsz1)
  rw [show l1.toArray.push (⟨eh, .int k t, ev⟩ : DictEntry) = (l1 ++ [(⟨eh, .int k t, ev⟩ : DictEntry)]).toArray by simp] at r
  refine Rn.bind (c1 := 4) (c2 := 1) (u := ()) (Rn.holding r) ?_
  · refine Rn.bind (c1 := 1) (c2 := 0) (Rn.epoch (get_upd_ne _ ha1 hda)) ?_
    rw [show (n' != n') = false by simp, if_neg Bool.false_ne_true]
    exact Rn.ret
end
end MyLaw
end
end
section
open PySem PySem.Spec PySem.Calls PySem.W PyProof.Rows
noncomputable section
namespace MyLaw
def chunkSt (h0 : Heap) (l : List DictEntry) (n : Nat) (subs : List Obj) : Heap := subs.foldl Heap.push (h0.push (dL l n))
theorem size_push (h : Heap) (o : Obj) : (h.push o).objs.size = h.objs.size + 1 := by
  obtain ⟨objs, l⟩ := h
  exact Array.size_push _
theorem fold_size : ∀ (subs : List Obj) (h : Heap), (subs.foldl Heap.push h).objs.size = h.objs.size + subs.length
  | [], _ => rfl
  | o :: r, h => by rw [List.foldl_cons, fold_size r, size_push, List.length_cons]; omega
theorem fold_get {a : Addr} {o : Obj} : ∀ (subs : List Obj) (h : Heap), h.get? a = some o → (subs.foldl Heap.push h).get? a = some o
  | [], _, e => e
  | x :: r, h, e => fold_get r (h.push x) (Heap.get?_push_of_some x e)
theorem fold_upd {a : Addr} {f : Obj → Obj} : ∀ (subs : List Obj) (h : Heap), a < h.objs.size → (subs.foldl Heap.push h).update a f = subs.foldl Heap.push (h.update a f)
  | [], _, _ => rfl
  | x :: r, h, e => by
    rw [List.foldl_cons, fold_upd r (h.push x) (by rw [size_push]; exact Nat.lt_succ_of_lt e), Heap.update_push h a f x (Nat.ne_of_lt e), List.foldl_cons]
section
variable {h0 : Heap} {l l2 : List DictEntry} {n n2 : Nat} {subs : List Obj} {o : Obj}
theorem ch_size : (chunkSt h0 l n subs).objs.size = h0.objs.size + 1 + subs.length := by unfold chunkSt; rw [fold_size, size_push]
theorem ch_get : (chunkSt h0 l n subs).get? h0.objs.size = some (dL l n) := fold_get subs _ (Heap.get?_push_size _ rfl)
theorem ch_push : (chunkSt h0 l n subs).push o = chunkSt h0 l n (subs ++ [o]) := by unfold chunkSt; rw [List.foldl_append]; rfl
theorem ch_upd : (chunkSt h0 l n subs).update h0.objs.size (fun _ => dL l2 n2) = chunkSt h0 l2 n2 subs := by
  unfold chunkSt
  rw [fold_upd subs _ (by rw [size_push]; exact Nat.lt_succ_self _), push_upd]
end
theorem laid3_pair : ∀ (c : List (Int × Str)) (t : Nat), (c.Pairwise fun q r => q.1 < r.1) → (laid3 t c).Pairwise fun e e' => e.hash ≠ e'.hash
  | [], _, _ => .nil
  | (k, x) :: c, t, h => by
    refine .cons (fun e he => ?_) (laid3_pair c _ (List.pairwise_cons.mp h).2)
    obtain ⟨q, hq, e1, _⟩ := laid3_key c _ e he
    rw [e1]
    exact Int.ne_of_lt ((List.pairwise_cons.mp h).1 q hq)
theorem laid2_pair : ∀ (c : List (Int × Str)) (t : Nat), (c.Pairwise fun q r => q.1 < r.1) → (laid2 t c).Pairwise fun e e' => e.hash ≠ e'.hash
  | [], _, _ => .nil
  | (k, x) :: c, t, h => by
    refine .cons (fun e he => ?_) (laid2_pair c _ (List.pairwise_cons.mp h).2)
    obtain ⟨q, hq, e1, _⟩ := laid2_key c _ e he
    rw [e1]
    exact Int.ne_of_lt ((List.pairwise_cons.mp h).1 q hq)
theorem Up.take {l : List DictEntry} {c : List (Int × Str)} (U : Up l c) (m : Nat) : Up [] (c.take m) :=
  ⟨fun q hq => U.small q (List.mem_of_mem_take hq), U.grow.sublist (List.take_sublist _ _), fun _ h => nomatch h⟩
theorem Up.drop {l : List DictEntry} {c : List (Int × Str)} (U : Up l c) (m t : Nat) : Up (l ++ laid3 t (c.take m)) (c.drop m) :=
  ⟨fun q hq => U.small q (List.mem_of_mem_drop hq), U.grow.sublist (List.drop_sublist _ _), fun e he q hq => by
    rcases List.mem_append.mp he with he | he
    · exact U.above e he q (List.mem_of_mem_drop hq)
    · obtain ⟨r, hr, e1, _⟩ := laid3_key _ _ e he
      rw [e1]
      have := U.grow
      rw [← List.take_append_drop m c] at this
      exact (List.pairwise_append.mp this).2.2 r hr q hq⟩
def itemO (P : Pos) (q : Int × Str) : Option (Sem Value) × Sem Value := (some (kS q.1), vS P q.2)
noncomputable def subsOf : Nat → Nat → List (Int × Str) → List Obj
  | 0, _, _ => []
  | m + 1, t, c => dL (laid3 t (c.take 17)) 17 :: subsOf m (t + 51) (c.drop 17)
theorem laid3_app : ∀ (a b : List (Int × Str)) (t : Nat), laid3 t (a ++ b) = laid3 t a ++ laid3 (t + 3 * a.length) b
  | [], b, t => rfl
  | (k, x) :: a, b, t => by
    rw [List.cons_append, laid3, laid3_app a b, laid3, List.cons_append, List.length_cons, show t + 3 + 3 * a.length = t + 3 * (a.length + 1) by omega]
abbrev DSt := Option Addr × List (Sem Value × Sem Value)
section
variable {w : World} {P : Pos} {B : Option (Sem Value) × Sem Value → DSt → Sem (ForInStep DSt)} {R : Addr → Value → Sem Unit}
theorem Rn.fill (hB0 : ∀ q main run, run.length ≠ 16 → B (itemO P q) (main, run) = Pure.pure (ForInStep.yield (main, run ++ [item P q]))) {main : Option Addr} {rest : List (Option (Sem Value) × Sem Value)} {k : Nat} {s s' : Shared} {p p' : Pos} {v : DSt} :
    ∀ (c : List (Int × Str)) (run : List (Sem Value × Sem Value)), run.length + c.length ≤ 16 → Rn w k s p (forIn rest (main, run ++ c.map (item P)) B) v s' p' → Rn w k s p (forIn (c.map (itemO P) ++ rest) (main, run) B) v s' p'
  | [], run, _, h => by simpa using h
  | q :: c, run, hl, h => by
    rw [List.map_cons, List.cons_append, List.forIn_cons, hB0 q main run (by simp at hl; omega)]
    refine Rn.bind (c1 := 0) Rn.ret ?_
    refine Rn.fill hB0 c (run ++ [item P q]) (by simp at hl ⊢; omega) ?_
    rw [List.append_assoc]
    exact h
theorem Rn.mergeIn {h0 : Heap} {l l' : List DictEntry} {n n' : Nat} {subs : List Obj} {s : Shared} {p : Pos} (hh : s.heap = (chunkSt h0 l n subs).push (dL l' n')) (h28 : 28 ≤ h0.objs.size) (hsys : ∀ a, 28 ≤ a → (a == sysModules) = false) (hl : l ≠ [])
    (hk : ∀ e ∈ l', ∃ k t, e.key = .int k t) (hf : ∀ e ∈ l', ∀ e' ∈ l, e'.hash ≠ e.hash) (hp : l'.Pairwise fun e e' => e.hash ≠ e'.hash) (hsz : l.length + l'.length ≤ 1000) :
    Rn w (6 * l'.length + 5) s p (mergeMapping h0.objs.size (.ref (chunkSt h0 l n subs).objs.size) false) () { s with heap := chunkSt h0 (l ++ l') (n + l'.length) (subs ++ [dL l' n']) } p := by
  have hd : s.heap.get? h0.objs.size = some (dL l n) := by rw [hh]; exact Heap.get?_push_of_some _ ch_get
  have ha : s.heap.get? (chunkSt h0 l n subs).objs.size = some (dL l' n') := by rw [hh]; exact Heap.get?_push_size _ rfl
  have r := Rn.merge (w := w) (p := p) h28 (by rw [ch_size]; exact Nat.ne_of_lt (Nat.lt_of_lt_of_le (Nat.lt_succ_self _) (Nat.le_add_right _ _))) (hsys _ (by rw [ch_size]; exact Nat.le_trans h28 (Nat.le_trans (Nat.le_succ _) (Nat.le_add_right _ _)))) ha hd hl hk hf hp hsz
  rw [hh, ch_push, ch_upd] at r
  exact r
theorem Rn.chunk (hB0 : ∀ q main run, run.length ≠ 16 → B (itemO P q) (main, run) = Pure.pure (ForInStep.yield (main, run ++ [item P q])))
    (hB2 : ∀ q d run, run.length = 16 → B (itemO P q) (some d, run) = ((do let sub ← PySem.holding [.ref d] (subDict (run ++ [item P q])); (PySem.holding [.ref d, .ref sub] (mergeMapping d (.ref sub) false)).onRaise (R d); Pure.pure (some d)) >>= fun m => Pure.pure (ForInStep.yield (m, []))))
    (hsys : ∀ a, 28 ≤ a → (a == sysModules) = false) {h0 : Heap} (h28 : 28 ≤ h0.objs.size) :
    ∀ (m : Nat) (c : List (Int × Str)) (l : List DictEntry) (n : Nat) (subs : List Obj) (s : Shared), c.length = 17 * m + 4 → s.heap = chunkSt h0 l n subs → l ≠ [] → Up l c → l.length + c.length ≤ 1000 →
      Rn w (330 * m) s P (forIn (c.map (itemO P)) (some h0.objs.size, []) B) (some h0.objs.size, (c.drop (17 * m)).map (item P))
        { s with heap := chunkSt h0 (l ++ laid3 s.toks (c.take (17 * m))) (n + 17 * m) (subs ++ subsOf m s.toks c), toks := s.toks + 51 * m } P
  | 0, c, l, n, subs, s, hc, hh, hl, U, hsz => by
    have e : ({ s with heap := chunkSt h0 (l ++ laid3 s.toks (c.take (17 * 0))) (n + 17 * 0) (subs ++ subsOf 0 s.toks c), toks := s.toks + 51 * 0 } : Shared) = s := by
      obtain ⟨a, b, c, d, e⟩ := s
      dsimp only at hh
      subst hh
      simp [laid3, subsOf]
    rw [e]
    have r := Rn.fill (w := w) (main := some h0.objs.size) (rest := []) (k := 0) (s := s) (p := P) (s' := s) (p' := P) (v := (some h0.objs.size, c.map (item P))) hB0 c [] (by simp; omega) Rn.ret
    rw [List.append_nil] at r
    exact r
  | m + 1, c, l, n, subs, s, hc, hh, hl, U, hsz => by
    have h17 : (c.take 17).length = 17 := by rw [List.length_take]; omega
    obtain ⟨c16, q, hq, hq16⟩ : ∃ c16 q, c.take 17 = c16 ++ [q] ∧ c16.length = 16 := by
      refine ⟨(c.take 17).dropLast, (c.take 17).getLast (by intro e; rw [e] at h17; cases h17), (List.dropLast_concat_getLast _).symm, by rw [List.length_dropLast, h17]⟩
    have hcq : c.map (itemO P) = c16.map (itemO P) ++ (itemO P q :: (c.drop 17).map (itemO P)) := by
      conv => lhs; rw [← List.take_append_drop 17 c, hq]
      simp
    have hit : c16.map (item P) ++ [item P q] = (c.take 17).map (item P) := by rw [hq]; simp
    have hlen : (laid3 s.toks (c.take 17)).length = 17 := by rw [laid3_len, h17]
    have one : Rn w 330 s P (B (itemO P q) (some h0.objs.size, c16.map (item P))) (ForInStep.yield (some h0.objs.size, []))
        { s with heap := chunkSt h0 (l ++ laid3 s.toks (c.take 17)) (n + 17) (subs ++ [dL (laid3 s.toks (c.take 17)) 17]), toks := s.toks + 51 } P := by
      rw [hB2 _ _ _ (by rw [List.length_map, hq16]), hit]
      have hs28 : 28 ≤ s.heap.objs.size := by rw [hh, ch_size]; omega
      have r1 := Rn.subLong (w := w) (P := P) (s := s) hs28 h17 (U.take 17)
      rw [hh] at r1
      have r2 := Rn.mergeIn (w := w) (p := P) (s := { s with heap := (chunkSt h0 l n subs).push (dL (laid3 s.toks (c.take 17)) 17), toks := s.toks + 51 }) (h0 := h0) (l := l) (l' := laid3 s.toks (c.take 17)) (n := n) (n' := 17) (subs := subs) rfl h28 hsys hl
        (fun e he => let ⟨q, _, _, u, e2⟩ := laid3_key _ _ e he; ⟨q.1, u, e2⟩)
        (fun e he e' he' => by
          obtain ⟨q, hq, e1, _⟩ := laid3_key _ _ e he
          rw [e1]
          exact Int.ne_of_lt (U.above e' he' q (List.mem_of_mem_take hq)))
        (laid3_pair _ _ (U.take 17).grow) (by rw [hlen]; omega)
      rw [hlen] at r2
      exact Rn.bind (c1 := 330) (c2 := 0) (Rn.bind (c1 := 223) (c2 := 107) (Rn.holding r1) (Rn.bind (c1 := 107) (c2 := 0) (Rn.onRaise (Rn.holding r2)) Rn.ret)) Rn.ret
    have rest := Rn.chunk hB0 hB2 hsys h28 m (c.drop 17) (l ++ laid3 s.toks (c.take 17)) (n + 17) (subs ++ [dL (laid3 s.toks (c.take 17)) 17])
      { s with heap := chunkSt h0 (l ++ laid3 s.toks (c.take 17)) (n + 17) (subs ++ [dL (laid3 s.toks (c.take 17)) 17]), toks := s.toks + 51 } (by rw [List.length_drop]; omega) rfl (by simp [hl]) (U.drop 17 s.toks) (by rw [List.length_append, hlen, List.length_drop]; omega)
    dsimp only at rest
    have e1 : l ++ laid3 s.toks (c.take 17) ++ laid3 (s.toks + 51) ((c.drop 17).take (17 * m)) = l ++ laid3 s.toks (c.take (17 * (m + 1))) := by
      rw [List.append_assoc, show 17 * (m + 1) = 17 + 17 * m by omega, List.take_add, laid3_app, h17]
    have e2 : subs ++ [dL (laid3 s.toks (c.take 17)) 17] ++ subsOf m (s.toks + 51) (c.drop 17) = subs ++ subsOf (m + 1) s.toks c := by
      rw [List.append_assoc]; rfl
    rw [e1, e2, List.drop_drop, show n + 17 + 17 * m = n + 17 * (m + 1) by omega, show s.toks + 51 + 51 * m = s.toks + 51 * (m + 1) by omega, show 17 + 17 * m = 17 * (m + 1) by omega] at rest
    rw [hcq]
    refine Rn.fill hB0 c16 [] (by simp; omega) ?_
    rw [List.nil_append, List.forIn_cons]
    refine Rn.cast (Rn.bind one ?_) (show 330 * m + 330 = 330 * (m + 1) by omega)
    exact rest
end
end MyLaw
end
end
section
open PySem PySem.Spec PySem.Calls PySem.W PyProof.Rows
noncomputable section
namespace MyLaw
section
variable {w : World} {P : Pos} {B : Option (Sem Value) × Sem Value → DSt → Sem (ForInStep DSt)} {R : Addr → Value → Sem Unit}
theorem Rn.dispLoop (hB0 : ∀ q main run, run.length ≠ 16 → B (itemO P q) (main, run) = Pure.pure (ForInStep.yield (main, run ++ [item P q])))
    (hB1 : ∀ q run, run.length = 16 → B (itemO P q) (none, run) = ((do let d ← subDict (run ++ [item P q]); Pure.pure (some d)) >>= fun m => Pure.pure (ForInStep.yield (m, []))))
    (hB2 : ∀ q d run, run.length = 16 → B (itemO P q) (some d, run) = ((do let sub ← PySem.holding [.ref d] (subDict (run ++ [item P q])); (PySem.holding [.ref d, .ref sub] (mergeMapping d (.ref sub) false)).onRaise (R d); Pure.pure (some d)) >>= fun m => Pure.pure (ForInStep.yield (m, []))))
    (hsys : ∀ a, 28 ≤ a → (a == sysModules) = false) {s : Shared} (h28 : 28 ≤ s.heap.objs.size) (m : Nat) (c : List (Int × Str)) (hc : c.length = 17 * (m + 1) + 4) (U : Up [] c) (hsz : c.length ≤ 1000) :
    Rn w (330 * m + 223) s P (forIn (c.map (itemO P)) (none, []) B) (some s.heap.objs.size, (c.drop (17 * (m + 1))).map (item P))
      { s with heap := chunkSt s.heap (laid3 s.toks (c.take (17 * (m + 1)))) (17 * (m + 1)) (subsOf m (s.toks + 51) (c.drop 17)), toks := s.toks + 51 * (m + 1) } P := by
  have h17 : (c.take 17).length = 17 := by rw [List.length_take]; omega
  obtain ⟨c16, q, hq, hq16⟩ : ∃ c16 q, c.take 17 = c16 ++ [q] ∧ c16.length = 16 := by
    refine ⟨(c.take 17).dropLast, (c.take 17).getLast (by intro e; rw [e] at h17; cases h17), (List.dropLast_concat_getLast _).symm, by rw [List.length_dropLast, h17]⟩
  have hcq : c.map (itemO P) = c16.map (itemO P) ++ (itemO P q :: (c.drop 17).map (itemO P)) := by
    conv => lhs; rw [← List.take_append_drop 17 c, hq]
    simp
  have hit : c16.map (item P) ++ [item P q] = (c.take 17).map (item P) := by rw [hq]; simp
  have hlen : (laid3 s.toks (c.take 17)).length = 17 := by rw [laid3_len, h17]
  have one : Rn w 223 s P (B (itemO P q) (none, c16.map (item P))) (ForInStep.yield (some s.heap.objs.size, [])) { s with heap := chunkSt s.heap (laid3 s.toks (c.take 17)) 17 [], toks := s.toks + 51 } P := by
    rw [hB1 _ _ (by rw [List.length_map, hq16]), hit]
    exact Rn.bind (c1 := 223) (c2 := 0) (Rn.bind (c1 := 223) (c2 := 0) (Rn.subLong (w := w) (P := P) (s := s) h28 h17 (U.take 17)) Rn.ret) Rn.ret
  have U2 := U.drop 17 s.toks
  rw [List.nil_append] at U2
  have rest := Rn.chunk (w := w) hB0 hB2 hsys h28 m (c.drop 17) (laid3 s.toks (c.take 17)) 17 [] { s with heap := chunkSt s.heap (laid3 s.toks (c.take 17)) 17 [], toks := s.toks + 51 } (by rw [List.length_drop]; omega) rfl
    (by intro e; rw [e] at hlen; cases hlen) U2 (by rw [hlen, List.length_drop]; omega)
  dsimp only at rest
  have e1 : laid3 s.toks (c.take 17) ++ laid3 (s.toks + 51) ((c.drop 17).take (17 * m)) = laid3 s.toks (c.take (17 * (m + 1))) := by
    rw [show 17 * (m + 1) = 17 + 17 * m by omega, List.take_add, laid3_app, h17]
  rw [e1, List.drop_drop, show 17 + 17 * m = 17 * (m + 1) by omega, show s.toks + 51 + 51 * m = s.toks + 51 * (m + 1) by omega, List.nil_append] at rest
  rw [hcq]
  refine Rn.fill hB0 c16 [] (by simp; omega) ?_
  rw [List.nil_append, List.forIn_cons]
  exact Rn.bind (c1 := 223) (c2 := 330 * m) one rest
theorem Rn.display (hsys : ∀ a, 28 ≤ a → (a == sysModules) = false) {s : Shared} (h28 : 28 ≤ s.heap.objs.size) (m : Nat) (c : List (Int × Str)) (hc : c.length = 17 * (m + 1) + 4) (U : Up [] c) (hsz : c.length ≤ 1000) :
    Rn w (82 + (330 * m + 223)) s P (dictDisplay (c.map (itemO P))) (.ref s.heap.objs.size)
      { s with heap := chunkSt s.heap (laid3 s.toks (c.take (17 * (m + 1))) ++ laid2 (s.toks + 51 * (m + 1)) (c.drop (17 * (m + 1)))) (17 * (m + 1) + 4) (subsOf m (s.toks + 51) (c.drop 17) ++ [dL (laid2 (s.toks + 51 * (m + 1)) (c.drop (17 * (m + 1)))) 4]), toks := s.toks + 51 * (m + 1) + 12 } P := by
  unfold dictDisplay
  refine Rn.bind (c1 := 330 * m + 223) (c2 := 82) (Rn.dispLoop (R := fun d x => do let _ ← PySem.holding [.ref d, x] (runValue (.builtin "proto.let_go" {}))) ?b0 ?b1 ?b2 hsys h28 m c hc U hsz) ?fin
  case b0 =>
    intro q main run hr
    dsimp only [itemO]
    rw [if_neg (by rw [List.length_append]; simp; omega)]
    rfl
  case b1 =>
    intro q run hr
    dsimp only [itemO]
    rw [if_pos (by rw [List.length_append, hr]; rfl), if_neg (by simp)]
    rfl
  case b2 =>
    intro q d run hr
    dsimp only [itemO]
    rw [if_pos (by rw [List.length_append, hr]; rfl), if_neg (by simp)]
    rfl
  case fin =>
    have h4 : (c.drop (17 * (m + 1))).length = 4 := by rw [List.length_drop]; omega
    have hlen2 := laid2_len (c.drop (17 * (m + 1))) (s.toks + 51 * (m + 1))
    rw [h4] at hlen2
    have hlen3 : (laid3 s.toks (c.take (17 * (m + 1)))).length = 17 * (m + 1) := by rw [laid3_len, List.length_take]; omega
    have U2 := U.drop (17 * (m + 1)) s.toks
    rw [List.nil_append] at U2
    have U3 : Up [] (c.drop (17 * (m + 1))) := ⟨U2.small, U2.grow, fun _ h => nomatch h⟩
    dsimp only
    rw [if_neg (by
      have : ((c.drop (17 * (m + 1))).map (item P)).length = 4 := by rw [List.length_map, h4]
      cases h : (c.drop (17 * (m + 1))).map (item P) with
      | nil => rw [h] at this; cases this
      | cons a b => simp)]
    have r1 := Rn.subShort (w := w) (P := P) (c := c.drop (17 * (m + 1))) (s := { s with heap := chunkSt s.heap (laid3 s.toks (c.take (17 * (m + 1)))) (17 * (m + 1)) (subsOf m (s.toks + 51) (c.drop 17)), toks := s.toks + 51 * (m + 1) }) (by dsimp only; rw [ch_size]; exact Nat.le_trans h28 (Nat.le_trans (Nat.le_succ _) (Nat.le_add_right _ _))) h4 U3
    dsimp only at r1
    have r2 := Rn.mergeIn (w := w) (p := P) (s := { s with heap := (chunkSt s.heap (laid3 s.toks (c.take (17 * (m + 1)))) (17 * (m + 1)) (subsOf m (s.toks + 51) (c.drop 17))).push (dL (laid2 (s.toks + 51 * (m + 1)) (c.drop (17 * (m + 1)))) 4), toks := s.toks + 51 * (m + 1) + 12 })
      (h0 := s.heap) (l := laid3 s.toks (c.take (17 * (m + 1)))) (l' := laid2 (s.toks + 51 * (m + 1)) (c.drop (17 * (m + 1)))) (n := 17 * (m + 1)) (n' := 4) (subs := subsOf m (s.toks + 51) (c.drop 17)) rfl h28 hsys (by intro e; rw [e] at hlen3; simp at hlen3)
      (fun e he => let ⟨q, _, _, u, e2⟩ := laid2_key _ _ e he; ⟨q.1, u, e2⟩)
      (fun e he e' he' => by
        obtain ⟨q, hq, e1, _⟩ := laid2_key _ _ e he
        rw [e1]
        exact Int.ne_of_lt (U2.above e' he' q hq))
      (laid2_pair _ _ U2.grow) (by rw [hlen2, hlen3]; omega)
    rw [hlen2] at r2
    exact Rn.bind (c1 := 82) (c2 := 0) (Rn.bind (c1 := 53) (c2 := 29) (Rn.holding r1) (Rn.bind (c1 := 29) (c2 := 0) (Rn.onRaise (Rn.holding r2)) Rn.ret)) Rn.ret
end
end MyLaw
end
end
section
open PySem PySem.Spec PySem.Calls PySem.W PyProof.Rows
noncomputable section
namespace MyLaw
noncomputable def incB : List (Int × Str) → Bool
  | [] => true
  | [_] => true
  | a :: b :: r => decide (a.1 < b.1) && incB (b :: r)
theorem inc_pair : ∀ (l : List (Int × Str)), incB l = true → l.Pairwise fun q r => q.1 < r.1
  | [], _ => .nil
  | [_], _ => .cons (fun _ h => nomatch h) .nil
  | a :: b :: r, h => by
    unfold incB at h
    rw [Bool.and_eq_true, decide_eq_true_eq] at h
    have ih := inc_pair (b :: r) h.2
    refine .cons (fun q hq => ?_) ih
    rcases List.mem_cons.mp hq with rfl | hq
    · exact h.1
    · have := (List.pairwise_cons.mp ih).1 q hq
      omega
theorem b3_len : b3Tab.length = 650 := by decide +kernel
theorem b3_inc : incB b3Tab = true := by decide +kernel
theorem b3_small : (b3Tab.all fun q => decide (0 ≤ q.1 ∧ q.1 < 2 ^ 60)) = true := by decide +kernel
theorem b3_up : Up [] b3Tab := ⟨fun q hq => of_decide_eq_true (List.all_eq_true.mp b3_small q hq), inc_pair _ b3_inc, fun _ h => nomatch h⟩
abbrev b3P : Pos := ⟨6, 16, 6, 8704⟩
def b3End (v : Value) : Sem Flow := do standAt ⟨6, 0, 6, 13⟩; bindName hEnv (Str.ofString "b3_exceptions") v; pure .next
def b3St : Stmt := ((behindTheImports hP)[3]?).getD (.Pass default)
theorem b3_st : hSt 3 = [b3St] := by kernel_rfl
theorem b3_exec : exec b3St hEnv = (do standAt ⟨6, 0, 6, 8704⟩; let v ← (do standAt b3P; dictDisplay (b3Tab.map (itemO b3P))); b3End v) := by kernel_rfl
theorem b3_heap : ∀ w : World, chunkSt (absHeap (hT_2 w.params) 50 hLife) (laid3 351 (b3Tab.take 646) ++ laid2 2289 (b3Tab.drop 646)) 650 (subsOf 37 402 (b3Tab.drop 17) ++ [dL (laid2 2289 (b3Tab.drop 646)) 4]) = absHeap (hT_3d w.params) 89 hLife := by
  intro w
  kernel_rfl
theorem b3_end : ∀ (w : World) (os : OsState) (K : Flow → Sem Fin) (H : Value → Sem Fin) (gd : Bool → Bool) (lv : List Value → List Value) (N : Nat),
    hTop w (N + 7) (SharedT.abs ⟨hT_3d w.params, 89, hLife, #[], hDrawn, 2301, os⟩) b3P ((b3End (.ref 50)).wrap K H gd lv) = hTop w N (SharedT.abs ⟨hT_3 w.params, 89, hLife, #[], hDrawn, 2302, os⟩) ⟨6, 0, 6, 13⟩ (K .next) := by
  intro w os K H gd lv N
  kernel_rfl
theorem sys_low : ∀ a : Addr, 28 ≤ a → (a == sysModules) = false := fun a h => beq_eq_false_iff_ne.mpr fun e => by
  rw [e] at h
  exact absurd h (by decide)
theorem abs_size2 (w : World) : (absHeap (hT_2 w.params) 50 hLife).objs.size = 50 := absHeap_size _ _ _
theorem h_3 (w : World) (os : OsState) : Rn w 12524 (SharedT.abs ⟨hT_2 w.params, 50, hLife, #[], hDrawn, 351, os⟩) ⟨4, 0, 5, 30⟩ (exec b3St hEnv) .next (SharedT.abs ⟨hT_3 w.params, 89, hLife, #[], hDrawn, 2302, os⟩) ⟨6, 0, 6, 13⟩ := by
  rw [b3_exec]
  have r := Rn.display (w := w) (P := b3P) sys_low (s := SharedT.abs ⟨hT_2 w.params, 50, hLife, #[], hDrawn, 351, os⟩) (by show 28 ≤ (absHeap (hT_2 w.params) 50 hLife).objs.size; rw [abs_size2]; decide) 37 b3Tab (by rw [b3_len]) b3_up (by rw [b3_len]; decide)
  have e : ({ (SharedT.abs ⟨hT_2 w.params, 50, hLife, #[], hDrawn, 351, os⟩) with heap := chunkSt (absHeap (hT_2 w.params) 50 hLife) (laid3 351 (b3Tab.take 646) ++ laid2 2289 (b3Tab.drop 646)) 650 (subsOf 37 402 (b3Tab.drop 17) ++ [dL (laid2 2289 (b3Tab.drop 646)) 4]), toks := 2301 } : Shared) = SharedT.abs ⟨hT_3d w.params, 89, hLife, #[], hDrawn, 2301, os⟩ := by
    rw [b3_heap]; rfl
  have r2 : Rn w 12515 (SharedT.abs ⟨hT_2 w.params, 50, hLife, #[], hDrawn, 351, os⟩) b3P (dictDisplay (b3Tab.map (itemO b3P))) (.ref (absHeap (hT_2 w.params) 50 hLife).objs.size) (SharedT.abs ⟨hT_3d w.params, 89, hLife, #[], hDrawn, 2301, os⟩) b3P := by
    rw [← e]
    exact r
  rw [abs_size2] at r2
  refine Rn.bind (c1 := 1) (c2 := 12523) (Rn.at Rn.ret) (Rn.bind (c1 := 12516) (c2 := 7) (Rn.bind (c1 := 1) (c2 := 12515) (Rn.at Rn.ret) r2) ?_)
  exact fun K H gd lv N => b3_end w os K H gd lv N
end MyLaw
end
end
section
open PySem PySem.Spec PySem.Calls PySem.W PyProof.Rows
noncomputable section
namespace MyLaw
abbrev hAt (t : Params → BT) (n k : Nat) (w : World) (os : OsState) : Shared := SharedT.abs ⟨t w.params, n, hLife, #[], hDrawn, k, os⟩
theorem h_body : behindTheImports hP = (hSt 0 ++ (hSt 1 ++ (hSt 2 ++ (hSt 3 ++ (hSt 4 ++ (hSt 5 ++ (hSt 6 ++ (hSt 7 ++ (hSt 8 ++ (hSt 9 ++ (hSt 10 ++ (hSt 11 ++ (hSt 12 ++ (hSt 13 ++ (hSt 14 ++ (hSt 15 ++ (hSt 16 ++ (hSt 17 ++ (hSt 18 ++ (hSt 19 ++ (hSt 20 ++ (hSt 21 ++ (hSt 22 ++ (hSt 23 ++ (hSt 24 ++ (hSt 25 ++ [])))))))))))))))))))))))))) := by kernel_rfl
theorem h_fin (w : World) (os : OsState) : topRun treeTable hP w 28 (some (.ref 6)) 2 (hAt hT_25 205 2503 w os) ⟨doneF .next, hC, ⟨94, 0, 128, 44⟩, [topFrame ⟨0, 0, 0, 0⟩]⟩ = some (hAt hT_25 205 2503 w os) := by
  kernel_rfl
theorem h_r26 (w : World) (os : OsState) : topRun treeTable hP w 28 (some (.ref 6)) 2 (hAt hT_25 205 2503 w os) (restOf [] hEnv hC ⟨94, 0, 128, 44⟩ [topFrame ⟨0, 0, 0, 0⟩]) = some (hAt hT_25 205 2503 w os) := piece_nil (h_fin w os)
theorem h_r25 (w : World) (os : OsState) : topRun treeTable hP w 28 (some (.ref 6)) 29 (hAt hT_24 200 2497 w os) (restOf (hSt 25 ++ []) hEnv hC ⟨87, 0, 93, 20⟩ [topFrame ⟨0, 0, 0, 0⟩]) = some (hAt hT_25 205 2503 w os) :=
  piece_app (n := 27) (N := 2) (segRun_of (h_25 w os)) (h_r26 w os)
theorem h_r24 (w : World) (os : OsState) : topRun treeTable hP w 28 (some (.ref 6)) 56 (hAt hT_23 195 2491 w os) (restOf (hSt 24 ++ (hSt 25 ++ [])) hEnv hC ⟨79, 0, 86, 26⟩ [topFrame ⟨0, 0, 0, 0⟩]) = some (hAt hT_25 205 2503 w os) :=
  piece_app (n := 27) (N := 29) (segRun_of (h_24 w os)) (h_r25 w os)
theorem h_r23 (w : World) (os : OsState) : topRun treeTable hP w 28 (some (.ref 6)) 83 (hAt hT_22 190 2485 w os) (restOf (hSt 23 ++ (hSt 24 ++ (hSt 25 ++ []))) hEnv hC ⟨74, 0, 78, 16⟩ [topFrame ⟨0, 0, 0, 0⟩]) = some (hAt hT_25 205 2503 w os) :=
  piece_app (n := 27) (N := 56) (segRun_of (h_23 w os)) (h_r24 w os)
theorem h_r22 (w : World) (os : OsState) : topRun treeTable hP w 28 (some (.ref 6)) 116 (hAt hT_21 183 2475 w os) (restOf (hSt 22 ++ (hSt 23 ++ (hSt 24 ++ (hSt 25 ++ [])))) hEnv hC ⟨68, 0, 73, 16⟩ [topFrame ⟨0, 0, 0, 0⟩]) = some (hAt hT_25 205 2503 w os) :=
  piece_app (n := 33) (N := 83) (segRun_of (h_22 w os)) (h_r23 w os)
theorem h_r21 (w : World) (os : OsState) : topRun treeTable hP w 28 (some (.ref 6)) 147 (hAt hT_20 176 2467 w os) (restOf (hSt 21 ++ (hSt 22 ++ (hSt 23 ++ (hSt 24 ++ (hSt 25 ++ []))))) hEnv hC ⟨57, 0, 67, 44⟩ [topFrame ⟨0, 0, 0, 0⟩]) = some (hAt hT_25 205 2503 w os) :=
  piece_app (n := 31) (N := 116) (segRun_of (h_21 w os)) (h_r22 w os)
theorem h_r20 (w : World) (os : OsState) : topRun treeTable hP w 28 (some (.ref 6)) 185 (hAt hT_19 169 2452 w os) (restOf (hSt 20 ++ (hSt 21 ++ (hSt 22 ++ (hSt 23 ++ (hSt 24 ++ (hSt 25 ++ [])))))) hEnv hC ⟨48, 0, 56, 24⟩ [topFrame ⟨0, 0, 0, 0⟩]) = some (hAt hT_25 205 2503 w os) :=
  piece_app (n := 38) (N := 147) (segRun_of (h_20 w os)) (h_r21 w os)
theorem h_r19 (w : World) (os : OsState) : topRun treeTable hP w 28 (some (.ref 6)) 218 (hAt hT_18 162 2442 w os) (restOf (hSt 19 ++ (hSt 20 ++ (hSt 21 ++ (hSt 22 ++ (hSt 23 ++ (hSt 24 ++ (hSt 25 ++ []))))))) hEnv hC ⟨46, 0, 47, 124⟩ [topFrame ⟨0, 0, 0, 0⟩]) = some (hAt hT_25 205 2503 w os) :=
  piece_app (n := 33) (N := 185) (segRun_of (h_19 w os)) (h_r20 w os)
theorem h_r18 (w : World) (os : OsState) : topRun treeTable hP w 28 (some (.ref 6)) 248 (hAt hT_17 155 2435 w os) (restOf (hSt 18 ++ (hSt 19 ++ (hSt 20 ++ (hSt 21 ++ (hSt 22 ++ (hSt 23 ++ (hSt 24 ++ (hSt 25 ++ [])))))))) hEnv hC ⟨35, 0, 45, 117⟩ [topFrame ⟨0, 0, 0, 0⟩]) = some (hAt hT_25 205 2503 w os) :=
  piece_app (n := 30) (N := 218) (segRun_of (h_18 w os)) (h_r19 w os)
theorem h_r17 (w : World) (os : OsState) : topRun treeTable hP w 28 (some (.ref 6)) 281 (hAt hT_16 148 2425 w os) (restOf (hSt 17 ++ (hSt 18 ++ (hSt 19 ++ (hSt 20 ++ (hSt 21 ++ (hSt 22 ++ (hSt 23 ++ (hSt 24 ++ (hSt 25 ++ []))))))))) hEnv hC ⟨34, 0, 34, 8⟩ [topFrame ⟨0, 0, 0, 0⟩]) = some (hAt hT_25 205 2503 w os) :=
  piece_app (n := 33) (N := 248) (segRun_of (h_17 w os)) (h_r18 w os)
theorem h_r16 (w : World) (os : OsState) : topRun treeTable hP w 28 (some (.ref 6)) 291 (hAt hT_15 148 2423 w os) (restOf (hSt 16 ++ (hSt 17 ++ (hSt 18 ++ (hSt 19 ++ (hSt 20 ++ (hSt 21 ++ (hSt 22 ++ (hSt 23 ++ (hSt 24 ++ (hSt 25 ++ [])))))))))) hEnv hC ⟨32, 0, 33, 59⟩ [topFrame ⟨0, 0, 0, 0⟩]) = some (hAt hT_25 205 2503 w os) :=
  piece_app (n := 10) (N := 281) (segRun_of (h_16 w os)) (h_r17 w os)
theorem h_r15 (w : World) (os : OsState) : topRun treeTable hP w 28 (some (.ref 6)) 321 (hAt hT_14 141 2416 w os) (restOf (hSt 15 ++ (hSt 16 ++ (hSt 17 ++ (hSt 18 ++ (hSt 19 ++ (hSt 20 ++ (hSt 21 ++ (hSt 22 ++ (hSt 23 ++ (hSt 24 ++ (hSt 25 ++ []))))))))))) hEnv hC ⟨31, 0, 31, 4⟩ [topFrame ⟨0, 0, 0, 0⟩]) = some (hAt hT_25 205 2503 w os) :=
  piece_app (n := 30) (N := 291) (segRun_of (h_15 w os)) (h_r16 w os)
theorem h_r14 (w : World) (os : OsState) : topRun treeTable hP w 28 (some (.ref 6)) 331 (hAt hT_13 141 2414 w os) (restOf (hSt 14 ++ (hSt 15 ++ (hSt 16 ++ (hSt 17 ++ (hSt 18 ++ (hSt 19 ++ (hSt 20 ++ (hSt 21 ++ (hSt 22 ++ (hSt 23 ++ (hSt 24 ++ (hSt 25 ++ [])))))))))))) hEnv hC ⟨30, 0, 30, 10⟩ [topFrame ⟨0, 0, 0, 0⟩]) = some (hAt hT_25 205 2503 w os) :=
  piece_app (n := 10) (N := 321) (segRun_of (h_14 w os)) (h_r15 w os)
theorem h_r13 (w : World) (os : OsState) : topRun treeTable hP w 28 (some (.ref 6)) 417 (hAt hT_12 136 2372 w os) (restOf (hSt 13 ++ (hSt 14 ++ (hSt 15 ++ (hSt 16 ++ (hSt 17 ++ (hSt 18 ++ (hSt 19 ++ (hSt 20 ++ (hSt 21 ++ (hSt 22 ++ (hSt 23 ++ (hSt 24 ++ (hSt 25 ++ []))))))))))))) hEnv hC ⟨29, 0, 29, 10⟩ [topFrame ⟨0, 0, 0, 0⟩]) = some (hAt hT_25 205 2503 w os) :=
  piece_app (n := 86) (N := 331) (segRun_of (h_13 w os)) (h_r14 w os)
theorem h_r12 (w : World) (os : OsState) : topRun treeTable hP w 28 (some (.ref 6)) 477 (hAt hT_11 131 2356 w os) (restOf (hSt 12 ++ (hSt 13 ++ (hSt 14 ++ (hSt 15 ++ (hSt 16 ++ (hSt 17 ++ (hSt 18 ++ (hSt 19 ++ (hSt 20 ++ (hSt 21 ++ (hSt 22 ++ (hSt 23 ++ (hSt 24 ++ (hSt 25 ++ [])))))))))))))) hEnv hC ⟨28, 0, 28, 8⟩ [topFrame ⟨0, 0, 0, 0⟩]) = some (hAt hT_25 205 2503 w os) :=
  piece_app (n := 60) (N := 417) (segRun_of (h_12 w os)) (h_r13 w os)
theorem h_r11 (w : World) (os : OsState) : topRun treeTable hP w 28 (some (.ref 6)) 487 (hAt hT_10 131 2354 w os) (restOf (hSt 11 ++ (hSt 12 ++ (hSt 13 ++ (hSt 14 ++ (hSt 15 ++ (hSt 16 ++ (hSt 17 ++ (hSt 18 ++ (hSt 19 ++ (hSt 20 ++ (hSt 21 ++ (hSt 22 ++ (hSt 23 ++ (hSt 24 ++ (hSt 25 ++ []))))))))))))))) hEnv hC ⟨25, 0, 27, 12⟩ [topFrame ⟨0, 0, 0, 0⟩]) = some (hAt hT_25 205 2503 w os) :=
  piece_app (n := 10) (N := 477) (segRun_of (h_11 w os)) (h_r12 w os)
theorem h_r10 (w : World) (os : OsState) : topRun treeTable hP w 28 (some (.ref 6)) 518 (hAt hT_9 124 2346 w os) (restOf (hSt 10 ++ (hSt 11 ++ (hSt 12 ++ (hSt 13 ++ (hSt 14 ++ (hSt 15 ++ (hSt 16 ++ (hSt 17 ++ (hSt 18 ++ (hSt 19 ++ (hSt 20 ++ (hSt 21 ++ (hSt 22 ++ (hSt 23 ++ (hSt 24 ++ (hSt 25 ++ [])))))))))))))))) hEnv hC ⟨19, 0, 24, 64⟩ [topFrame ⟨0, 0, 0, 0⟩]) = some (hAt hT_25 205 2503 w os) :=
  piece_app (n := 31) (N := 487) (segRun_of (h_10 w os)) (h_r11 w os)
theorem h_r9 (w : World) (os : OsState) : topRun treeTable hP w 28 (some (.ref 6)) 551 (hAt hT_8 117 2336 w os) (restOf (hSt 9 ++ (hSt 10 ++ (hSt 11 ++ (hSt 12 ++ (hSt 13 ++ (hSt 14 ++ (hSt 15 ++ (hSt 16 ++ (hSt 17 ++ (hSt 18 ++ (hSt 19 ++ (hSt 20 ++ (hSt 21 ++ (hSt 22 ++ (hSt 23 ++ (hSt 24 ++ (hSt 25 ++ []))))))))))))))))) hEnv hC ⟨17, 0, 18, 16⟩ [topFrame ⟨0, 0, 0, 0⟩]) = some (hAt hT_25 205 2503 w os) :=
  piece_app (n := 33) (N := 518) (segRun_of (h_9 w os)) (h_r10 w os)
theorem h_r8 (w : World) (os : OsState) : topRun treeTable hP w 28 (some (.ref 6)) 582 (hAt hT_7 110 2328 w os) (restOf (hSt 8 ++ (hSt 9 ++ (hSt 10 ++ (hSt 11 ++ (hSt 12 ++ (hSt 13 ++ (hSt 14 ++ (hSt 15 ++ (hSt 16 ++ (hSt 17 ++ (hSt 18 ++ (hSt 19 ++ (hSt 20 ++ (hSt 21 ++ (hSt 22 ++ (hSt 23 ++ (hSt 24 ++ (hSt 25 ++ [])))))))))))))))))) hEnv hC ⟨15, 0, 16, 16⟩ [topFrame ⟨0, 0, 0, 0⟩]) = some (hAt hT_25 205 2503 w os) :=
  piece_app (n := 31) (N := 551) (segRun_of (h_8 w os)) (h_r9 w os)
theorem h_r7 (w : World) (os : OsState) : topRun treeTable hP w 28 (some (.ref 6)) 613 (hAt hT_6 103 2320 w os) (restOf (hSt 7 ++ (hSt 8 ++ (hSt 9 ++ (hSt 10 ++ (hSt 11 ++ (hSt 12 ++ (hSt 13 ++ (hSt 14 ++ (hSt 15 ++ (hSt 16 ++ (hSt 17 ++ (hSt 18 ++ (hSt 19 ++ (hSt 20 ++ (hSt 21 ++ (hSt 22 ++ (hSt 23 ++ (hSt 24 ++ (hSt 25 ++ []))))))))))))))))))) hEnv hC ⟨13, 0, 14, 16⟩ [topFrame ⟨0, 0, 0, 0⟩]) = some (hAt hT_25 205 2503 w os) :=
  piece_app (n := 31) (N := 582) (segRun_of (h_7 w os)) (h_r8 w os)
theorem h_r6 (w : World) (os : OsState) : topRun treeTable hP w 28 (some (.ref 6)) 644 (hAt hT_5 96 2312 w os) (restOf (hSt 6 ++ (hSt 7 ++ (hSt 8 ++ (hSt 9 ++ (hSt 10 ++ (hSt 11 ++ (hSt 12 ++ (hSt 13 ++ (hSt 14 ++ (hSt 15 ++ (hSt 16 ++ (hSt 17 ++ (hSt 18 ++ (hSt 19 ++ (hSt 20 ++ (hSt 21 ++ (hSt 22 ++ (hSt 23 ++ (hSt 24 ++ (hSt 25 ++ [])))))))))))))))))))) hEnv hC ⟨12, 0, 12, 8⟩ [topFrame ⟨0, 0, 0, 0⟩]) = some (hAt hT_25 205 2503 w os) :=
  piece_app (n := 31) (N := 613) (segRun_of (h_6 w os)) (h_r7 w os)
theorem h_r5 (w : World) (os : OsState) : topRun treeTable hP w 28 (some (.ref 6)) 654 (hAt hT_4 96 2310 w os) (restOf (hSt 5 ++ (hSt 6 ++ (hSt 7 ++ (hSt 8 ++ (hSt 9 ++ (hSt 10 ++ (hSt 11 ++ (hSt 12 ++ (hSt 13 ++ (hSt 14 ++ (hSt 15 ++ (hSt 16 ++ (hSt 17 ++ (hSt 18 ++ (hSt 19 ++ (hSt 20 ++ (hSt 21 ++ (hSt 22 ++ (hSt 23 ++ (hSt 24 ++ (hSt 25 ++ []))))))))))))))))))))) hEnv hC ⟨7, 0, 11, 23⟩ [topFrame ⟨0, 0, 0, 0⟩]) = some (hAt hT_25 205 2503 w os) :=
  piece_app (n := 10) (N := 644) (segRun_of (h_5 w os)) (h_r6 w os)
theorem h_r4 (w : World) (os : OsState) : topRun treeTable hP w 28 (some (.ref 6)) 685 (hAt hT_3 89 2302 w os) (restOf (hSt 4 ++ (hSt 5 ++ (hSt 6 ++ (hSt 7 ++ (hSt 8 ++ (hSt 9 ++ (hSt 10 ++ (hSt 11 ++ (hSt 12 ++ (hSt 13 ++ (hSt 14 ++ (hSt 15 ++ (hSt 16 ++ (hSt 17 ++ (hSt 18 ++ (hSt 19 ++ (hSt 20 ++ (hSt 21 ++ (hSt 22 ++ (hSt 23 ++ (hSt 24 ++ (hSt 25 ++ [])))))))))))))))))))))) hEnv hC ⟨6, 0, 6, 13⟩ [topFrame ⟨0, 0, 0, 0⟩]) = some (hAt hT_25 205 2503 w os) :=
  piece_app (n := 31) (N := 654) (segRun_of (h_4 w os)) (h_r5 w os)
theorem h_r3 (w : World) (os : OsState) : topRun treeTable hP w 28 (some (.ref 6)) 13209 (hAt hT_2 50 351 w os) (restOf (hSt 3 ++ (hSt 4 ++ (hSt 5 ++ (hSt 6 ++ (hSt 7 ++ (hSt 8 ++ (hSt 9 ++ (hSt 10 ++ (hSt 11 ++ (hSt 12 ++ (hSt 13 ++ (hSt 14 ++ (hSt 15 ++ (hSt 16 ++ (hSt 17 ++ (hSt 18 ++ (hSt 19 ++ (hSt 20 ++ (hSt 21 ++ (hSt 22 ++ (hSt 23 ++ (hSt 24 ++ (hSt 25 ++ []))))))))))))))))))))))) hEnv hC ⟨4, 0, 5, 30⟩ [topFrame ⟨0, 0, 0, 0⟩]) = some (hAt hT_25 205 2503 w os) := by
  have r := h_3 w os (fun f => match f with | .next => (execs (hSt 4 ++ (hSt 5 ++ (hSt 6 ++ (hSt 7 ++ (hSt 8 ++ (hSt 9 ++ (hSt 10 ++ (hSt 11 ++ (hSt 12 ++ (hSt 13 ++ (hSt 14 ++ (hSt 15 ++ (hSt 16 ++ (hSt 17 ++ (hSt 18 ++ (hSt 19 ++ (hSt 20 ++ (hSt 21 ++ (hSt 22 ++ (hSt 23 ++ (hSt 24 ++ (hSt 25 ++ [])))))))))))))))))))))) hEnv).wrap doneF (leaveH hEnv) id id | f => doneF f) (leaveH hEnv) id id 685
  unfold restOf
  rw [b3_st, List.cons_append, List.nil_append, execs_cons_wrap]
  exact r.trans (h_r4 w os)
theorem h_r2 (w : World) (os : OsState) : topRun treeTable hP w 28 (some (.ref 6)) 13239 (hAt hT_1 43 344 w os) (restOf (hSt 2 ++ (hSt 3 ++ (hSt 4 ++ (hSt 5 ++ (hSt 6 ++ (hSt 7 ++ (hSt 8 ++ (hSt 9 ++ (hSt 10 ++ (hSt 11 ++ (hSt 12 ++ (hSt 13 ++ (hSt 14 ++ (hSt 15 ++ (hSt 16 ++ (hSt 17 ++ (hSt 18 ++ (hSt 19 ++ (hSt 20 ++ (hSt 21 ++ (hSt 22 ++ (hSt 23 ++ (hSt 24 ++ (hSt 25 ++ [])))))))))))))))))))))))) hEnv hC ⟨3, 0, 3, 6⟩ [topFrame ⟨0, 0, 0, 0⟩]) = some (hAt hT_25 205 2503 w os) :=
  piece_app (n := 30) (N := 13209) (segRun_of (h_2 w os)) (h_r3 w os)
theorem h_r1 (w : World) (os : OsState) : topRun treeTable hP w 28 (some (.ref 6)) 14238 (hAt hT_0 32 284 w os) (restOf (hSt 1 ++ (hSt 2 ++ (hSt 3 ++ (hSt 4 ++ (hSt 5 ++ (hSt 6 ++ (hSt 7 ++ (hSt 8 ++ (hSt 9 ++ (hSt 10 ++ (hSt 11 ++ (hSt 12 ++ (hSt 13 ++ (hSt 14 ++ (hSt 15 ++ (hSt 16 ++ (hSt 17 ++ (hSt 18 ++ (hSt 19 ++ (hSt 20 ++ (hSt 21 ++ (hSt 22 ++ (hSt 23 ++ (hSt 24 ++ (hSt 25 ++ []))))))))))))))))))))))))) hEnv hC ⟨2, 0, 2, 8⟩ [topFrame ⟨0, 0, 0, 0⟩]) = some (hAt hT_25 205 2503 w os) :=
  piece_app (n := 999) (N := 13239) (segRun_of (h_1 w os)) (h_r2 w os)
theorem h_r0 (w : World) (os : OsState) : topRun treeTable hP w 28 (some (.ref 6)) 14248 (hAt hT_block 32 282 w os) (restOf (hSt 0 ++ (hSt 1 ++ (hSt 2 ++ (hSt 3 ++ (hSt 4 ++ (hSt 5 ++ (hSt 6 ++ (hSt 7 ++ (hSt 8 ++ (hSt 9 ++ (hSt 10 ++ (hSt 11 ++ (hSt 12 ++ (hSt 13 ++ (hSt 14 ++ (hSt 15 ++ (hSt 16 ++ (hSt 17 ++ (hSt 18 ++ (hSt 19 ++ (hSt 20 ++ (hSt 21 ++ (hSt 22 ++ (hSt 23 ++ (hSt 24 ++ (hSt 25 ++ [])))))))))))))))))))))))))) hEnv hC ⟨0, 0, 0, 0⟩ [topFrame ⟨0, 0, 0, 0⟩]) = some (hAt hT_25 205 2503 w os) :=
  piece_app (n := 10) (N := 14238) (segRun_of (h_0 w os)) (h_r1 w os)
theorem h_run (w : World) (os : OsState) : topRun treeTable hP w 28 (some (.ref 6)) 14261 ⟨hS0 w.params, #[], hDrawn, 276, os⟩ (topStub hP) = some (hAt hT_25 205 2503 w os) := by
  refine go_top (n := 12) (N := 14249) (h_pre w os) ?_
  refine piece_block (n := 1) (N := 14248) (h_block w os) ?_
  rw [h_body]
  exact h_r0 w os
def hM : Nat := 14261
end MyLaw
end
end
section
open PySem PySem.Spec PySem.Calls PySem.W PyProof.Rows
noncomputable section
namespace MyLaw
theorem h_open : ∀ w : World, (fencedOpening treeTable hP w 20000).map (fun s => (s.heap, s.gens, s.drawn, s.toks)) = some (hS0 w.params, #[], hDrawn, 276) :=
  open_cut (He := hEnd) (M := 799) h_imp (by decide) h_fence
theorem h_size : ∀ w : World, ((hS0 w.params).isNs mainGlobals && (#[] : Array GenState).size == 0, (hS0 w.params).objs.size, (hS0 w.params).nsMap mainGlobals "__annotations__") = (true, 28, some (.ref 6)) := by
  intro w
  kernel_rfl
def hH1 (P : Params) : Heap := absHeap (hT_25 P) 205 hLife
def kAs : List Addr := [2, 3, 6, 11, 12, 39, 43, 45, 46, 48, 49, 50, 89, 91, 92, 94, 95, 96, 98, 99, 101, 102, 103, 105, 106, 108, 109, 110, 112, 113, 115, 116, 117, 119, 120, 122, 123, 124, 126, 127, 129, 130, 134, 135, 139, 140, 141, 143, 144, 146, 147, 148, 150, 151, 153, 154, 155, 157, 158, 160, 161, 162, 164, 165, 167, 168, 169, 171, 172, 174, 175, 176, 178, 179, 181, 182, 183, 185, 186, 188, 189, 190, 193, 194, 195, 198, 199, 200, 203, 204]
theorem h_look1 : ∀ w : World, staticsOk (importedModules hP.main.body) (hS0 w.params) (hH1 w.params) = true := by
  intro w
  kernel_rfl
theorem h_look2 : ∀ w : World, namesBound hP (hH1 w.params) = true := by
  intro w
  kernel_rfl
theorem h_look3 : ∀ (w : World) (os : OsState), gensDone ⟨hH1 w.params, #[], hDrawn, 2503, os⟩ = true := by
  intro w os
  kernel_rfl
theorem h_look4 : ∀ w : World, laidKept (hS0 w.params) (hH1 w.params) = true := by
  intro w
  kernel_rfl
theorem k_as : ∀ P, kAs = (KK P).map (·.1) := by
  intro P
  kernel_rfl
def hY (s : Shared) : List (Option Obj) × Bool := (kAs.map s.heap.get?, s.heap.isNs cStatics && (s.heap.nsMap cStatics sharingNotToldKey).isNone)
def hYa (w : World) : List (Option Obj) × Bool := ((KK w.params).map fun p => some p.2, true)
def hYP (w : World) (h : Heap) : Prop := (KK w.params).In h ∧ NoneBooked h
theorem h_look5 : ∀ (w : World) (os : OsState), hY ⟨hH1 w.params, #[], hDrawn, 2503, os⟩ = hYa w := by
  intro w os
  kernel_rfl
theorem h_look6 : ∀ (w : World) (os : OsState), openSeen VV LO (importedModules hP.main.body) (fun _ => true) true ⟨hH1 w.params, #[], hDrawn, 2503, os⟩ = openGood VV LO := by
  intro w os
  kernel_rfl
end MyLaw
end
end
section
open PySem PySem.Spec PySem.Calls PySem.W PyProof.Rows
noncomputable section
namespace MyLaw
theorem h_looks : ∀ w : World, (fun os => ((staticsOk (importedModules hP.main.body) (hS0 w.params) (hH1 w.params) && namesBound hP (hH1 w.params) && gensDone ⟨hH1 w.params, #[], hDrawn, 2503, os⟩ && laidKept (hS0 w.params) (hH1 w.params)),
    openSeen VV LO (importedModules hP.main.body) (fun _ => true) true ⟨hH1 w.params, #[], hDrawn, 2503, os⟩, hY ⟨hH1 w.params, #[], hDrawn, 2503, os⟩)) = fun _ => (true, openGood VV LO, hYa w) := by
  intro w
  funext os
  rw [h_look1, h_look2, h_look3, h_look4, h_look5, h_look6]
  rfl
theorem left : LeftO hP VV LO (fun _ => true) hY hYa 20000 :=
  LeftO.of_pieces (H₀ := hS0) (H₁ := hH1) (gs₀ := #[]) (gs₁ := #[]) (d₀ := hDrawn) (d₁ := hDrawn) (k₀ := 276) (k₁ := 2503) (m₀ := 28) (ann := some (.ref 6)) (M := 14261) h_open h_size h_run (by decide) h_looks
theorem booked_keeps' {h h' : Heap} (C : NoneBooked h) (k : ∀ b o, h.get? b = some o → h'.get? b = some o) : NoneBooked h' := by
  obtain ⟨mc, hn, hk⟩ := C
  exact ⟨mc, hn.keeps k, hk⟩
theorem y_of : ∀ w s, hY s = hYa w → hYP w s.heap := fun w s e => by
  have e1 : kAs.map s.heap.get? = (KK w.params).map fun p => some p.2 := congrArg Prod.fst e
  have e2 : (s.heap.isNs cStatics && (s.heap.nsMap cStatics sharingNotToldKey).isNone) = true := congrArg Prod.snd e
  rw [Bool.and_eq_true, Option.isNone_iff_eq_none] at e2
  exact ⟨(kHook KK kAs k_as).of w s e1, _, .of_isNs e2.1, e2.2⟩
theorem y_keeps : ∀ (w : World) (h h' : Heap), hYP w h → (∀ b o, h.get? b = some o → h'.get? b = some o) → hYP w h' := fun w h h' e k => ⟨(kHook KK kAs k_as).keeps w h h' e.1 k, booked_keeps' e.2 k⟩
end MyLaw
end
end
section
open PySem PySem.Spec PySem.Calls PySem.W PySem.W.X PyProof.Rows
noncomputable section
namespace MyLaw
theorem law_said1 : PySem.Challenge.rw_ti0026_01.row.wellSaid = true := by
  unfold OpenRow.wellSaid OpenRow.partSaid looksOpen
  repeat' with_reducible refine look_both ?_ ?_
  all_goals decide +kernel
theorem law_said : PySem.Challenge.rw_ti0026_01.wellSaid = true := by
  unfold OpenLaw.wellSaid
  repeat' with_reducible refine look_both ?_ ?_
  · exact law_said1
  all_goals decide +kernel
end MyLaw
end
end
section
open PySem PySem.Spec PySem.Calls PySem.W PySem.W.X PyProof.Rows
noncomputable section
namespace MyLaw
def b1L : List Nat := [65024, 65025, 65026, 65027, 65028, 65029, 6150, 65030, 65031, 65032, 65033, 6155, 6156, 6157, 8203, 8204, 8205, 65034, 65035, 65036, 65037, 65038, 65039, 173, 847, 8288, 65279]
def b1 (c : Nat) : Bool := b1L.contains c
def intsOf (l : List (Int × Value)) : List Int := l.filterMap fun e => match e.2 with | .int i _ => some i | _ => none

theorem setObj_of (prog : Program) (w : World) {es : List (Int × Value)} (ns : List Int) (led : Bool) (ep mask moves finger : Nat) (place dummies : Array Nat) (plain : Bool)
    (h : es.all (fun e => match e.2 with | .int i _ => decide (e.1 = hashInt i) | _ => false) = true) (hn : intsOf es = ns) (hsz : es.length = n)
    (hf : (⟨mask, place, dummies, finger, led, moves, plain⟩ : SetTable).fits es.length = true) :
    Obj.SetObjOf (intKind prog w) ⟨.type "set", none, .set es.toArray ep ⟨mask, place, dummies, finger, led, moves, plain⟩, #[]⟩ (fun k => ns.contains k) n := by
  refine ⟨⟨rfl, rfl, rfl⟩, es.toArray, ep, _, rfl, ?_, fun k => ?_, by simpa using hsz, by simpa using hf⟩
  · intro e he
    have := List.all_eq_true.mp h e (by simpa using he)
    obtain ⟨a, v⟩ := e
    cases v <;> simp at this
    rename_i i t
    exact ⟨⟨i, by simp [intKind, Value.isInt], this⟩, rfl⟩
  · subst hn
    simp only [List.contains_iff_mem, intsOf, List.mem_filterMap]
    constructor
    · rintro ⟨e, he, hv⟩
      refine ⟨e, he, ?_⟩
      obtain ⟨a, v⟩ := e
      cases v <;> simp at hv
      subst hv
      simp [intKind, Value.isInt]
    · rintro ⟨e, he, hv⟩
      refine ⟨e, he, ?_⟩
      obtain ⟨a, v⟩ := e
      obtain ⟨t, rfl⟩ := Value.isInt_shape hv
      rfl

theorem set39 (w : World) : ∃ o, (KK w.params).lookup 39 = some o ∧ o.SetObjOf (intKind PP w) (fun k => (b1L.map Int.ofNat).contains k) 27 := by
  refine ⟨_, rfl, ?_⟩
  exact setObj_of (es := _) PP w _ _ _ _ _ _ _ _ _ (by decide +kernel) (by decide +kernel) (by decide +kernel) (by cases w.params.followText "set-order" <;> decide +kernel)

theorem b1_int (c : Nat) : (b1L.map Int.ofNat).contains (c : Int) = b1 c := by
  unfold b1
  rw [Bool.eq_iff_iff, List.contains_iff_mem, List.contains_iff_mem, List.mem_map]
  constructor
  · rintro ⟨a, h, e⟩
    have e' : a = c := Int.ofNat.inj e
    exact e' ▸ h
  · exact fun h => ⟨c, h, rfl⟩

section
variable {w : World} {A : Around} {E : Value → Shared → Prop} {s : Shared} {h₀ : Heap} {L : Addr} {m : Str → Option Value} {Q : Value → Shared → Prop}
theorem in39 {c : Nat} {t : Tok} (F : Fr h₀ L s.heap m) (X : (KK w.params).In h₀) (h : Q (.bool (b1 c)) { s with toks := s.toks + 1 }) :
    wpAny (model PP w) A (compareOp .In (.int (c : Int) t) (.ref 39)) Q E s := by
  obtain ⟨o, h1, h2⟩ := set39 w
  refine in_argsetI F h2 (X _ _ h1) (by decide) ?_
  rw [b1_int]
  exact h
end
section
variable {w : World} {mean : ExcName → Option Value} {mg mb : Str → Option Value} {news : List (Addr × Obj)} {dp un : Nat} {gd : Option (List Code)} {cn : Str} {cs : Scope} {a : Addr} {ccd : Value} {cl : List (Str × Addr)} {outer : List Env} {A₀ : Around} {base h₀ : Heap} {L : Addr} {m : Str → Option Value} {s : Shared} {Q E : Value → Shared → Prop}
theorem inb1_use {c : Nat} {tn : Tok} (B : Below A₀ base outer h₀) (F : Fr h₀ L s.heap m) (X : (KK w.params).In h₀) (N : News h₀ L s.heap news) (T : Top VV (looseW VV LO) mean mg mb h₀) (hk : cs.kind = .function) (hd : dp + 1 < recursionLimit) (hu : un + 8 < cLine)
    (hret : ∀ h' tk', Fr h₀ L h' m → News h₀ L h' news → Q (.bool (b1 c)) { s with heap := h', toks := tk' }) :
    wpAny (model PP w) (ktrTop dp un gd cn cs L a ccd cl outer) (call (.ref 49) [.str ⟨#[c]⟩ tn]) Q E s := by
  have cbI : CbIn 49 := CbIn.mk
  refine wpAny_call ?_
  k_dflt cell_enter
  repeat' (first | ((with_reducible show wpAny _ _ (compareOp CmpOp.In (Value.int _ _) (Value.ref _)) _ _ _); (k_here; (with_reducible show wpAny _ _ (compareOp CmpOp.In (Value.int _ _) (Value.ref 39)) _ _ _); k_dflt (refine' in39 ?k1 ?k2 ?_; (case k1 => k_asm); (case k2 => k_asm)))) | (k_unfold; (try dsimp only)) | (k_end; wrow_close) | walk1 | (dsimp only) | (leave1; (try dsimp only)))
  exact hret _ _ (by k_asm) (by k_asm)
end
end MyLaw
end
end
section
open PySem PySem.Spec PySem.Calls PySem.W PySem.W.X PyProof.Rows
noncomputable section
namespace MyLaw
def b3At (c : Nat) : Option Value := findBy Value.isInt b3Es (c : Int)
def foldC (c : Nat) : Str := match b3At c with
  | some (.str x _) => x
  | _ => Txt.lower ⟨#[c]⟩
theorem b3Laid_ok (prog : Program) (w : World) : ∀ (l : List (Int × Str)) (t : Nat) (e : DictEntry), e ∈ b3Laid t l → (∃ k, (intKind prog w).is k e.key = true ∧ e.hash = (intKind prog w).hash k) ∧ ∃ x u, e.val = .str x u
  | [], _, _, h => nomatch h
  | (k, x) :: r, t, e, h => by
    rcases List.mem_cons.mp h with rfl | h
    · exact ⟨⟨k, by simp [intKind, Value.isInt], rfl⟩, x, t + 1, rfl⟩
    · exact b3Laid_ok prog w r _ e h
theorem b3_keys (prog : Program) (w : World) : KeysOf (intKind prog w) b3Es := fun e he =>
  (b3Laid_ok prog w b3Tab 351 e (by simpa [b3Es] using he)).1
theorem b3_str {c : Nat} {v : Value} (h : b3At c = some v) : ∃ x t, v = .str x t := by
  unfold b3At findBy at h
  obtain ⟨e, he, rfl⟩ := Option.map_eq_some_iff.mp h
  have hm := Array.mem_of_find?_eq_some he
  exact (b3Laid_ok PP (aWorld 1) b3Tab 351 e (by simpa [b3Es] using hm)).2
theorem foldC_some {c : Nat} {x : Str} {t : Tok} (h : b3At c = some (.str x t)) : foldC c = x := by unfold foldC; rw [h]
theorem foldC_none {c : Nat} (h : b3At c = none) : foldC c = Txt.lower ⟨#[c]⟩ := by unfold foldC; rw [h]
theorem map50 {w : World} {h : Heap} (X : (KK w.params).In h) : h.MapOf (intKind PP w) 50 (fun k => findBy Value.isInt b3Es k) :=
  ⟨_, b3Es, 650, X 50 _ rfl, ⟨rfl, rfl, rfl⟩, rfl, b3_keys PP w, fun _ => rfl⟩
section
variable {w : World} {A : Around} {E : Value → Shared → Prop} {s : Shared} {h₀ : Heap} {L : Addr} {m : Str → Option Value}
theorem get50m {pl : Sem Bool} {Q : Value × List Value → Shared → Prop} (F : Fr h₀ L s.heap m) (X : (KK w.params).In h₀) (h : Q (.builtin "dict.get", [.ref 50]) s) : wpAny (model PP w) A (getMethod (.ref 50) (Str.ofString "get") pl) Q E s :=
  have hm := map50 (X.keeps F.keep)
  getMethod_builtin hm.typeIs PySem.F.plainAttrs_dict PySem.F.slot_dict_get PySem.F.type_dict_get hm.noDict h
theorem get50 {c : Nat} {t : Tok} {Q : Value → Shared → Prop} (F : Fr h₀ L s.heap m) (X : (KK w.params).In h₀) (h1 : ∀ x u, b3At c = some (.str x u) → Q (.str x u) { s with toks := s.toks + 1 }) (h2 : b3At c = none → Q .none { s with toks := s.toks + 1 }) :
    wpAny (model PP w) A (call (.builtin "dict.get") [.ref 50, .int (c : Int) t]) Q E s := by
  have hm := map50 (X.keeps F.keep)
  refine call_meetsIn PySem.F.slot_dict_get hm.typeIs PySem.F.entry_dict_get (PySem.F.args_dict_get_2 _ _) (meets_dict_get (intKind PP w) 50 (intKind_is PP w (c : Int) t) (by decide)) ⟨_, hm, ?_⟩
  cases hb : b3At c with
  | none => exact (show findBy Value.isInt b3Es (c : Int) = none from hb) ▸ h2 hb
  | some v =>
    obtain ⟨x, u, rfl⟩ := b3_str hb
    exact (show findBy Value.isInt b3Es (c : Int) = some (.str x u) from hb) ▸ h1 x u hb
end
section
variable {w : World} {mean : ExcName → Option Value} {mg mb : Str → Option Value} {news : List (Addr × Obj)} {dp un : Nat} {gd : Option (List Code)} {cn : Str} {cs : Scope} {a : Addr} {ccd : Value} {cl : List (Str × Addr)} {outer : List Env} {A₀ : Around} {base h₀ : Heap} {L : Addr} {m : Str → Option Value} {s : Shared} {Q E : Value → Shared → Prop}
local macro_rules | `(tactic| walk_at "getMethod ref") => `(tactic| (k_here; (with_reducible show wpAny _ _ (getMethod (Value.ref 50) (Str.ofString "get") _) _ _ _); k_dflt (refine' get50m ?k1 ?k2 ?_; (case k1 => k_asm); (case k2 => k_asm))))
local macro_rules | `(tactic| walk_at "call builtin:dict.get") => `(tactic| (k_here; (with_reducible show wpAny _ _ (call (Value.builtin "dict.get") [Value.ref 50, Value.int _ _]) _ _ _); k_dflt (refine' get50 ?k1 ?k2 ?_ ?_; (case k1 => k_asm); (case k2 => k_asm)); (all_goals (first | intro x9 u9 hb9 | intro hb9))))
theorem mapb3_use {c : Nat} {tn : Tok} (B : Below A₀ base outer h₀) (F : Fr h₀ L s.heap m) (X : (KK w.params).In h₀) (N : News h₀ L s.heap news) (T : Top VV (looseW VV LO) mean mg mb h₀) (hk : cs.kind = .function) (hd : dp + 1 < recursionLimit) (hu : un + 8 < cLine)
    (hret : ∀ t h' tk', Fr h₀ L h' m → News h₀ L h' news → Q (.str (foldC c) t) { s with heap := h', toks := tk' }) :
    wpAny (model PP w) (ktrTop dp un gd cn cs L a ccd cl outer) (call (.ref 95) [.str ⟨#[c]⟩ tn]) Q E s := by
  have cbI : CbIn 95 := CbIn.mk
  refine wpAny_call ?_
  k_dflt cell_enter
  k_steps
  · rename (b3At c = some (Value.str _ _)) => hb
    have e := foldC_some hb
    rw [← e]
    exact hret _ _ _ (by k_asm) (by k_asm)
  · rename (b3At c = none) => hb
    dsimp only
    refine SCL.lower (by show 1 ≤ 5592405; decide) fun _ => ?_
    rw [← foldC_none hb]
    dsimp only
    k_steps
    exact hret _ _ _ (by k_asm) (by k_asm)
end
end MyLaw
end
end
section
open PySem PySem.Spec PySem.Calls PySem.W PySem.W.X PyProof.Rows
noncomputable section
namespace MyLaw
def unseenTab : List Int := [173, 847, 6150, 6155, 6156, 6157, 8203, 8204, 8205, 8288, 65279] ++ rangeInts 65024 1 16
theorem unseenTab_all : unseenTab.all (fun k => decide (0 ≤ k) && decide (k ≤ 1114111)) = true := by decide +kernel
theorem getD_all {l : List Int} {lo hi : Int} (h : l.all (fun k => decide (lo ≤ k) && decide (k ≤ hi)) = true) (h0 : lo ≤ 0 ∧ 0 ≤ hi) (i : Nat) : lo ≤ l.getD i 0 ∧ l.getD i 0 ≤ hi := by
  by_cases hl : i < l.length
  · have e : l.getD i 0 = l[i] := by simp [List.getD, hl]
    rw [e]
    have h1 := List.all_eq_true.mp h l[i] (List.getElem_mem hl)
    rw [Bool.and_eq_true, decide_eq_true_eq, decide_eq_true_eq] at h1
    exact h1
  · have e : l.getD i 0 = 0 := by simp [List.getD, Nat.not_lt.mp hl]
    rw [e]; exact h0
theorem unseenTab_lo (i : Nat) : 0 ≤ unseenTab.getD i 0 := (getD_all unseenTab_all ⟨by decide, by decide⟩ i).1
theorem unseenTab_hi (i : Nat) : unseenTab.getD i 0 ≤ 1114111 := (getD_all unseenTab_all ⟨by decide, by decide⟩ i).2
def unseenS (n : Int) : Str := ⟨#[(unseenTab.getD (n % 27).toNat 0).toNat]⟩
section
variable {prog : Program} {w : World} {A : Around} {E : Value → Shared → Prop} {s : Shared}
theorem item_ints {value slice : PySem.Expr} {l : Addr} {vs : List Value} {ns : List Int} {k : Int} {u : Tok} {Q : Value → Shared → Prop} (hl : s.heap.IsList l vs.toArray) (hi : IntsAre vs ns)
    (h0 : 0 ≤ k) (h1 : k < ns.length) (hfit : k < 2 ^ 63) (h : ∀ t, Q (.int (ns.getD k.toNat 0) t) s)
    (hs : subscripted slice false (.ref l) (.int k u) = operate [.ref l, .int k u] (getItem (.ref l) (.int k u)) := by with_unfolding_all rfl) :
    wpAny (model prog w) A (subscriptTail value slice (.ref l) (.int k u)) Q E s := by
  obtain ⟨t, hx⟩ := hi.get k.toNat _ (ints_getD h0 h1)
  exact tail_any hl.typeIs slot_list_getitem.lookup (wpAny_getItem_list hl h0 hfit (by simpa using hx) (h t)) hs
end
section
variable {w : World} {mean : ExcName → Option Value} {mg mb : Str → Option Value} {news : List (Addr × Obj)} {dp un : Nat} {gd : Option (List Code)} {cn : Str} {cs : Scope} {a : Addr} {ccd : Value} {cl : List (Str × Addr)} {outer : List Env} {A₀ : Around} {base h₀ : Heap} {L : Addr} {m : Str → Option Value} {s : Shared} {Q E : Value → Shared → Prop}
theorem unseen_use {n : Int} {tn : Tok} (h0 : 0 ≤ n) (B : Below A₀ base outer h₀) (F : Fr h₀ L s.heap m) (X : (KK w.params).In h₀) (N : News h₀ L s.heap news) (T : Top VV (looseW VV LO) mean mg mb h₀) (hk : cs.kind = .function) (hd : dp + 1 < recursionLimit) (hu : un + 8 < cLine)
    (hret : ∀ t h' tk', Fr h₀ L h' m → News h₀ L h' news → Q (.str (unseenS n) t) { s with heap := h', toks := tk' }) :
    wpAny (model PP w) (ktrTop dp un gd cn cs L a ccd cl outer) (call (.ref 161) [.int n tn]) Q E s := by
  have cbI : CbIn 161 := CbIn.mk
  refine wpAny_call ?_
  k_dflt cell_enter
  k_steps
  rename (CarriedAll _ _) => hC
  have hI9 := IntsAre.ofCarried hC
  refine add_arrays_ints (by k_asm) (by k_asm) (by kmk_list) (by kmk_list) (by l_ints) hI9 ?_ (by decide)
  intro h8 F8 N8 hI8
  dsimp only
  k_steps
  rw [show n.fmod 27 = n % 27 from Int.fmod_eq_emod_of_nonneg n (by decide)]
  refine chr_of_range (unseenTab_lo _) (unseenTab_hi _) ?_
  dsimp only
  k_steps
  refine hret _ _ _ (by k_asm) ?_
  refine' cb_drop ?cbN ?cbS
  (case cbN => assumption)
  (case cbS => kcj_all)
end
end MyLaw
end
end
section
open PySem PySem.Spec PySem.Calls PySem.W PySem.W.X PyProof.Rows
noncomputable section
namespace MyLaw
def stayTab : List Int := [172, 174, 846, 848, 6149, 6151, 6154, 6158, 8202, 8206, 8287, 8289, 65023, 65040, 65278, 65280, 11, 12, 28, 29, 30, 133, 8232, 8233]
def stayS (n : Int) : Str := ⟨#[(stayTab.getD ((n.fdiv 2).fmod 24).toNat 0).toNat]⟩
def letterN (n : Int) : Int := (n.fdiv 13).fmod 26
def nRw (n : Int) : Str :=
  if n.fmod 13 = 12 then ⟨#[(65 + letterN n).toNat]⟩ ++ stayS n
  else if n.fmod 13 = 11 then ⟨#[13255]⟩ ++ stayS n
  else if n.fmod 13 = 10 then ⟨#[(64256 + (letterN n).fmod 7).toNat]⟩ ++ stayS n
  else ⟨#[(119808 + 52 * ([0, 1, 2, 4, 7, 8, 9, 10, 11, 12] : List Int).getD (n.fmod 13).toNat 0 + letterN n).toNat]⟩ ++ stayS n
def ligTab : List Str := [Str.ofString "ff", Str.ofString "fi", Str.ofString "fl", Str.ofString "ffi", Str.ofString "ffl", Str.ofString "st", Str.ofString "st"]
def nFo (n : Int) : Str :=
  if n.fmod 13 = 12 then ⟨#[(97 + letterN n).toNat]⟩ ++ stayS n
  else if n.fmod 13 = 11 then Str.ofString "co." ++ stayS n
  else if n.fmod 13 = 10 then ligTab.getD ((letterN n).fmod 7).toNat Str.empty ++ stayS n
  else ⟨#[(97 + letterN n).toNat]⟩ ++ stayS n
theorem nameRaw_12 {n : Int} (h : n.fmod 13 = 12) : nRw n = ⟨#[(65 + (n.fdiv 13).fmod 26).toNat]⟩ ++ stayS n := if_pos h
theorem nameFold_12 {n : Int} (h : n.fmod 13 = 12) : nFo n = ⟨#[(97 + (n.fdiv 13).fmod 26).toNat]⟩ ++ stayS n := if_pos h
theorem nameRaw_11 {n : Int} (h : n.fmod 13 = 11) : nRw n = Str.ofString "㏇" ++ stayS n := ((if_neg (by omega)).trans (if_pos h)).trans (by rw [show Str.ofString "㏇" = ⟨#[13255]⟩ from by decide +kernel])
theorem nameFold_11 {n : Int} (h : n.fmod 13 = 11) : nFo n = Str.ofString "co." ++ stayS n := (if_neg (by omega)).trans (if_pos h)
theorem nameRaw_10 {n : Int} (h : n.fmod 13 = 10) : nRw n = ⟨#[(64256 + ((n.fdiv 13).fmod 26).fmod 7).toNat]⟩ ++ stayS n := (if_neg (by omega)).trans ((if_neg (by omega)).trans (if_pos h))
theorem nameFold_10 {n : Int} (h : n.fmod 13 = 10) : nFo n = ligTab.getD (((n.fdiv 13).fmod 26).fmod 7).toNat Str.empty ++ stayS n := (if_neg (by omega)).trans ((if_neg (by omega)).trans (if_pos h))
theorem nameRaw_9 {n : Int} (h2 : ¬ n.fmod 13 = 12) (h1 : ¬ n.fmod 13 = 11) (h : ¬ n.fmod 13 = 10) : nRw n = ⟨#[(119808 + 52 * ([0, 1, 2, 4, 7, 8, 9, 10, 11, 12] : List Int).getD (n.fmod 13).toNat 0 + (n.fdiv 13).fmod 26).toNat]⟩ ++ stayS n := (if_neg h2).trans ((if_neg h1).trans (if_neg h))
theorem nameFold_9 {n : Int} (h2 : ¬ n.fmod 13 = 12) (h1 : ¬ n.fmod 13 = 11) (h : ¬ n.fmod 13 = 10) : nFo n = ⟨#[(97 + (n.fdiv 13).fmod 26).toNat]⟩ ++ stayS n := (if_neg h2).trans ((if_neg h1).trans (if_neg h))
theorem allLt_elim {d : Addr} {l : List (Addr × Obj)} (h : AllLt d l) : ∀ p ∈ l, p.1 < d := by
  induction l with
  | nil => intro p hp; cases hp
  | cons q r ih =>
    intro p hp
    rcases List.mem_cons.mp hp with e | hp
    · rw [e]; exact h.1
    · exact ih h.2 p hp
section
variable {w : World} {mean : ExcName → Option Value} {mg mb : Str → Option Value} {news : List (Addr × Obj)} {dp un : Nat} {gd : Option (List Code)} {cn : Str} {cs : Scope} {a : Addr} {ccd : Value} {cl : List (Str × Addr)} {outer : List Env} {A₀ : Around} {base h₀ : Heap} {L : Addr} {m : Str → Option Value} {s : Shared} {Q E : Value → Shared → Prop}
local macro_rules | `(tactic| walk_at "call builtin:chr") => `(tactic| (k_here; (with_reducible show wpAny _ _ (call (Value.builtin "chr") [Value.int _ _]) _ _ _); (refine' chr_of_range ?k1 ?k2 ?_; (case k1 => first | exact (getD_all (lo := 0) (hi := 1114111) (by decide +kernel) ⟨by decide, by decide⟩ _).1 | l_fact | omega | (kmn_bounds; first | l_fact | omega)); (case k2 => first | exact (getD_all (lo := 0) (hi := 1114111) (by decide +kernel) ⟨by decide, by decide⟩ _).2 | l_fact | omega | (kmn_bounds; first | l_fact | omega))); k_whole))
theorem name_use {n : Int} {tn : Tok} (h0 : 0 ≤ n) (hn : n < 2 ^ 60) (B : Below A₀ base outer h₀) (F : Fr h₀ L s.heap m) (X : (KK w.params).In h₀) (N : News h₀ L s.heap news) (T : Top VV (looseW VV LO) mean mg mb h₀) (hk : cs.kind = .function) (hd : dp + 1 < recursionLimit) (hu : un + 8 < cLine)
    (hret : ∀ p t1 t2 h' tk', Fr h₀ L h' m → News h₀ L h' ((p, { cls := .type "tuple", data := .seq #[.str (nRw n) t1, .str (nFo n) t2] }) :: news) → (∀ q ∈ news, q.1 < p) → Q (.ref p) { s with heap := h', toks := tk' }) :
    wpAny (model PP w) (ktrTop dp un gd cn cs L a ccd cl outer) (call (.ref 154) [.int n tn]) Q E s := by
  have cbI : CbIn 154 := CbIn.mk
  refine wpAny_call ?_
  k_dflt cell_enter
  generalize s.toks + List.length _ = tk0
  have hl0 : 0 ≤ (n.fdiv 13).fmod 26 := Int.fmod_nonneg_of_pos _ (by decide)
  have hl1 : (n.fdiv 13).fmod 26 < 26 := Int.fmod_lt_of_pos _ (by decide)
  have hg0 : 0 ≤ ((n.fdiv 13).fmod 26).fmod 7 := Int.fmod_nonneg_of_pos _ (by decide)
  have hg1 : ((n.fdiv 13).fmod 26).fmod 7 < 7 := Int.fmod_lt_of_pos _ (by decide)
  k_with "table" => skip
  k_steps
  · rename (n.fmod 13 = 12) => hc
    rw [nameRaw_12 hc, nameFold_12 hc] at hret
    refine' hret _ _ _ _ _ ?kF ?kN ?kL
    (case kF => k_asm)
    (case kN =>
      refine' cb_drop ?cbN ?cbS
      (case cbN => assumption)
      (case cbS => kcj_all))
    (case kL => (rename (_ < _ ∧ _) => hl9; first | exact allLt_elim hl9.2.2.2.2 | exact allLt_elim hl9.2.2.2 | exact allLt_elim hl9.2.2 | exact allLt_elim hl9.2))
  · rename (n.fmod 13 = 11) => hc
    rw [nameRaw_11 hc, nameFold_11 hc] at hret
    refine' hret _ _ _ _ _ ?kF ?kN ?kL
    (case kF => k_asm)
    (case kN =>
      refine' cb_drop ?cbN ?cbS
      (case cbN => assumption)
      (case cbS => kcj_all))
    (case kL => (rename (_ < _ ∧ _) => hl9; first | exact allLt_elim hl9.2.2.2.2 | exact allLt_elim hl9.2.2.2 | exact allLt_elim hl9.2.2 | exact allLt_elim hl9.2))
  · rename (n.fmod 13 = 10) => hc
    rw [nameRaw_10 hc, nameFold_10 hc] at hret
    refine' hret _ _ _ _ _ ?kF ?kN ?kL
    (case kF => k_asm)
    (case kN =>
      refine' cb_drop ?cbN ?cbS
      (case cbN => assumption)
      (case cbS => kcj_all))
    (case kL => (rename (_ < _ ∧ _) => hl9; first | exact allLt_elim hl9.2.2.2.2 | exact allLt_elim hl9.2.2.2 | exact allLt_elim hl9.2.2 | exact allLt_elim hl9.2))
  · have hb0 := (getD_all (l := [0, 1, 2, 4, 7, 8, 9, 10, 11, 12]) (lo := 0) (hi := 12) (by decide) ⟨by decide, by decide⟩ (n.fmod 13).toNat)
    refine chr_of_range ?_ ?_ ?_
    · omega
    · omega
    dsimp only
    k_steps
    rw [nameRaw_9 (by assumption) (by assumption) (by assumption), nameFold_9 (by assumption) (by assumption) (by assumption)] at hret
    refine' hret _ _ _ _ _ ?kF ?kN ?kL
    (case kF => k_asm)
    (case kN =>
      refine' cb_drop ?cbN ?cbS
      (case cbN => assumption)
      (case cbS => kcj_all))
    (case kL => (rename (_ < _ ∧ _) => hl9; first | exact allLt_elim hl9.2.2.2.2 | exact allLt_elim hl9.2.2.2 | exact allLt_elim hl9.2.2 | exact allLt_elim hl9.2))
end
end MyLaw
end
end
section
open PySem PySem.W
noncomputable section
namespace MyLaw
open PySem.Sre
def re1 : Array Nat := #[14, 4, 0, 1, 1, 6, 1, 16, 46, 1]
def re2 : Array Nat := #[14, 9, 4, 1, 2, 16, 10, 16, 13, 0, 7, 7, 16, 13, 16, 10, 15, 18, 5, 16, 10, 15, 13, 11, 16, 13, 5, 5, 0, 16, 10, 1, 15, 2, 0, 1]

theorem runFor_done {m : M} (h : m.outcome.isSome = true) : ∀ n, m.runFor n = m
  | 0 => rfl
  | n + 1 => by simp only [M.runFor]; rw [if_pos h]
theorem runFor_add {m : M} : ∀ a b, m.runFor (a + b) = (m.runFor a).runFor b
  | 0, b => by rw [Nat.zero_add]; rfl
  | a + 1, b => by
    rw [show a + 1 + b = (a + b) + 1 by omega]
    simp only [M.runFor]
    by_cases h : m.outcome.isSome = true
    · rw [if_pos h, if_pos h, runFor_done h]
    · rw [if_neg h, if_neg h, runFor_add a b]
theorem runFor_more {m : M} {a b : Nat} (h : (m.runFor a).outcome.isSome = true) (hab : a ≤ b) : m.runFor b = m.runFor a := by
  rw [show b = a + (b - a) by omega, runFor_add, runFor_done h]

def mAt (code text : Array Nat) (pc0 p lim : Nat) (om : Bool) (seen : Seen) : M :=
  { code, text, lim, start := p, lastStart := lim, wholeText := false, mustAdvance := false, pc := pc0, pos := p, handed := p, outermost := om, marks := #[], lastmark := -1, lastindex := -1, loops := #[], inner := none,
    frames := [{ wait := .nextStart, pc := pc0, pos := p, outermost := om }], weight := 1, answer := none, seen, outcome := none }

def mSt (code text : Array Nat) (lim p pc pos handed : Nat) (om : Bool) (fr : List Sre.Frame) (w : Nat) (a : Option Bool) (seen : Seen) : M :=
  { code, text, lim, start := p, lastStart := lim, wholeText := false, mustAdvance := false, pc, pos, handed, outermost := om, marks := #[], lastmark := -1, lastindex := -1, loops := #[], inner := none,
    frames := fr, weight := w, answer := a, seen, outcome := none }
theorem accepts_lit {code : Array Nat} {i c : Nat} {seen : Seen} {b : Bool} (h : ops[code.getD i 0]? = some .LITERAL) (hb : (c == code.getD (i + 1) 0) = b) : accepts code i c seen = .ok (b, seen) := by
  subst hb
  unfold accepts
  rw [h]
theorem width_lit {code : Array Nat} {i : Nat} (h : ops[code.getD i 0]? = some .LITERAL) : itemWidth code i = 2 := by
  unfold itemWidth
  rw [h]
theorem exec_lit {m : M} (h : ops[m.word 0]? = some .LITERAL) (hl : ¬ m.pos ≥ m.lim) {b : Bool} (hb : (m.text.getD m.pos 0 == m.word 1) = b) :
    m.exec = bif b then { m with seen := m.seen.add (m.word 0), pc := m.pc + 2, pos := m.pos + 1 } else { m with seen := m.seen.add (m.word 0), answer := some false } := by
  have ha := accepts_lit (code := m.code) (i := m.pc) (c := m.text.getD m.pos 0) (seen := m.seen.add (m.word 0)) h hb
  have hw := width_lit (code := m.code) (i := m.pc) h
  unfold M.exec
  rw [h]
  show (if m.pos ≥ m.lim then _ else _) = _
  rw [if_neg hl]
  dsimp only
  rw [ha, hw]
  cases b <;> rfl
theorem exec_out {m : M} (h : ops[m.word 0]? = some .LITERAL) (hl : m.pos ≥ m.lim) : m.exec = { m with seen := m.seen.add (m.word 0), answer := some false } := by
  unfold M.exec
  rw [h]
  show (if m.pos ≥ m.lim then _ else _) = _
  rw [if_pos hl]
  rfl
theorem run_next {m : M} (h0 : m.outcome = none) (ha : m.answer = none) (hpc : m.pc < m.code.size) (n : Nat) : m.runFor (n + 1) = m.exec.runFor n := by
  have e : m.step = m.exec := by
    unfold M.step
    rw [h0, ha]
    exact if_pos hpc
  rw [← e]
  show (if m.outcome.isSome = true then m else _) = _
  rw [h0]
  rfl
section
variable {code text : Array Nat} {lim p pos handed : Nat} {om : Bool} {fr : List Sre.Frame} {w : Nat} {seen : Seen} {n : Nat} (pc : Nat) (hpc : pc < code.size) (h : ops[code.getD pc 0]? = some .LITERAL)
include hpc h
theorem lit_ok (hl : pos < lim) {x : Nat} (hc : text.getD pos 0 = x) (hx : code.getD (pc + 1) 0 = x) :
    (mSt code text lim p pc pos handed om fr w none seen).runFor (n + 1) = (mSt code text lim p (pc + 2) (pos + 1) handed om fr w none (seen.add (code.getD pc 0))).runFor n :=
  (run_next rfl rfl hpc n).trans (congrArg (M.runFor n) (exec_lit (m := mSt code text lim p pc pos handed om fr w none seen) (b := true) h (Nat.not_le.mpr hl) (beq_iff_eq.mpr (hc.trans hx.symm))))
theorem lit_no {x : Nat} (hc : ¬ (pos < lim ∧ text.getD pos 0 = x)) (hx : code.getD (pc + 1) 0 = x) :
    (mSt code text lim p pc pos handed om fr w none seen).runFor (n + 1) = (mSt code text lim p pc pos handed om fr w (some false) (seen.add (code.getD pc 0))).runFor n := by
  refine (run_next rfl rfl hpc n).trans (congrArg (M.runFor n) ?_)
  by_cases hl : pos < lim
  · exact exec_lit (m := mSt code text lim p pc pos handed om fr w none seen) (b := false) h (Nat.not_le.mpr hl) (beq_eq_false_iff_ne.mpr (fun q => hc ⟨hl, q.trans hx⟩))
  · exact exec_out (m := mSt code text lim p pc pos handed om fr w none seen) h (Nat.not_lt.mp hl)
end
def MWins (m : M) (n p e : Nat) : Prop := (m.runFor n).outcome = some .matched ∧ (m.runFor n).start = p ∧ (m.runFor n).handed = e
theorem MWins.back {m m' : M} {n k p e : Nat} (h : m.runFor n = m'.runFor k) (w : MWins m' k p e) : MWins m n p e := by
  unfold MWins; rw [h]; exact w
def mFr0 (pc p : Nat) (om : Bool) : Sre.Frame := { wait := .nextStart, pc, pos := p, outermost := om }
def mFr1 (pc p : Nat) (om : Bool) : Sre.Frame := { wait := .nextBranch, pc, pos := p, outermost := om }
theorem ok_end {code text : Array Nat} {lim p pc pos e w : Nat} {om : Bool} {seen : Seen} (n : Nat) : MWins (mSt code text lim p pc pos e om [] w (some true) seen) (n + 1) p e := by
  have h : (mSt code text lim p pc pos e om [] w (some true) seen).runFor (n + 1) = { mSt code text lim p pc pos e om [] w (some true) seen with outcome := some .matched } := runFor_done rfl n
  unfold MWins
  rw [h]
  exact ⟨rfl, rfl, rfl⟩
section
variable {text : Array Nat} {lim p : Nat} {seen : Seen} {n : Nat}
theorem go2_0 : (mAt re2 text 10 p lim true seen).runFor (n + 1) = (mSt re2 text lim p 12 p p true [mFr1 11 p true, mFr0 10 p true] 2 none (seen.add 7)).runFor n := rfl
theorem go2_1 : (mSt re2 text lim p 12 p p true [mFr1 11 p true, mFr0 10 p true] 2 (some false) seen).runFor (n + 1) = (mSt re2 text lim p 19 p p true [mFr1 18 p true, mFr0 10 p true] 2 none seen).runFor n := rfl
theorem go2_2 : (mSt re2 text lim p 14 (p + 1) p true [mFr1 11 p true, mFr0 10 p true] 2 (some false) seen).runFor (n + 1) = (mSt re2 text lim p 19 p p true [mFr1 18 p true, mFr0 10 p true] 2 none seen).runFor n := rfl
theorem go2_3 : (mSt re2 text lim p 19 p p true [mFr1 18 p true, mFr0 10 p true] 2 (some false) seen).runFor (n + 1) = (mSt re2 text lim p 24 p p true [mFr1 23 p true, mFr0 10 p true] 2 none seen).runFor n := rfl
theorem go2_4 : (mSt re2 text lim p 26 (p + 1) p true [mFr1 23 p true, mFr0 10 p true] 2 none seen).runFor (n + 1) =
    (mSt re2 text lim p 29 (p + 1) (p + 1) false [{ wait := .lookNot, pc := 26, pos := p + 1, outermost := true }, mFr1 23 p true, mFr0 10 p true] 3 none (seen.add 5)).runFor n := rfl
theorem go2_5 : (mSt re2 text lim p 29 (p + 1) (p + 1) false [{ wait := .lookNot, pc := 26, pos := p + 1, outermost := true }, mFr1 23 p true, mFr0 10 p true] 3 (some false) seen).runFor (n + 1) =
    (mSt re2 text lim p 32 (p + 1) (p + 1) true [mFr1 23 p true, mFr0 10 p true] 2 none seen).runFor n := rfl
variable {pos e x pc w : Nat} {fr : List Sre.Frame}
theorem jmp16 : (mSt re2 text lim p 16 pos e true fr w none seen).runFor (n + 1) = (mSt re2 text lim p 35 pos e true fr w none (seen.add 15)).runFor n := rfl
theorem jmp21 : (mSt re2 text lim p 21 pos e true fr w none seen).runFor (n + 1) = (mSt re2 text lim p 35 pos e true fr w none (seen.add 15)).runFor n := rfl
theorem jmp32 : (mSt re2 text lim p 32 pos e true fr w none seen).runFor (n + 1) = (mSt re2 text lim p 35 pos e true fr w none (seen.add 15)).runFor n := rfl
theorem suc2 : (mSt re2 text lim p 35 pos e true fr w none seen).runFor (n + 1) = (mSt re2 text lim p 35 pos pos true fr w (some true) (seen.add 1)).runFor n := rfl
theorem yes1 : (mSt re2 text lim p pc pos e true (mFr1 x p true :: fr) 2 (some true) seen).runFor (n + 1) = (mSt re2 text lim p x p e true fr 1 (some true) seen).runFor n := rfl
theorem yes0 : (mSt re2 text lim p pc pos e true [mFr0 10 p true] 1 (some true) seen).runFor (n + 1) = (mSt re2 text lim p 10 p e true [] 0 (some true) seen).runFor n := rfl
theorem tail2 : MWins (mSt re2 text lim p 35 pos e true [mFr1 x p true, mFr0 10 p true] 2 none seen) (n + 4) p pos := MWins.back suc2 (MWins.back yes1 (MWins.back yes0 (ok_end n)))
end
theorem m2_lf (text : Array Nat) (p lim : Nat) (seen : Seen) (hp : p < lim) (h : text.getD p 0 = 10) : MWins (mAt re2 text 10 p lim true seen) 20 p (p + 1) :=
  MWins.back go2_0 (MWins.back (lit_no 12 (by decide) rfl (fun q => absurd (h.symm.trans q.2) (by decide)) (x := 13) rfl)
    (MWins.back go2_1 (MWins.back (lit_ok 19 (by decide) rfl hp h rfl) (MWins.back jmp21 tail2))))
theorem m2_crlf (text : Array Nat) (p lim : Nat) (seen : Seen) (hp : p + 1 < lim) (h : text.getD p 0 = 13) (h1 : text.getD (p + 1) 0 = 10) : MWins (mAt re2 text 10 p lim true seen) 20 p (p + 2) :=
  MWins.back go2_0 (MWins.back (lit_ok 12 (by decide) rfl (Nat.lt_of_succ_lt hp) h rfl) (MWins.back (lit_ok 14 (by decide) rfl hp h1 rfl) (MWins.back jmp16 tail2)))
theorem m2_cr (text : Array Nat) (p lim : Nat) (seen : Seen) (hp : p < lim) (h : text.getD p 0 = 13) (h1 : ¬ (p + 1 < lim ∧ text.getD (p + 1) 0 = 10)) : MWins (mAt re2 text 10 p lim true seen) 20 p (p + 1) :=
  MWins.back go2_0 (MWins.back (lit_ok 12 (by decide) rfl hp h rfl) (MWins.back (lit_no 14 (by decide) rfl h1 rfl) (MWins.back go2_2
    (MWins.back (lit_no 19 (by decide) rfl (fun q => absurd (h.symm.trans q.2) (by decide)) (x := 10) rfl) (MWins.back go2_3
    (MWins.back (lit_ok 24 (by decide) rfl hp h rfl) (MWins.back go2_4 (MWins.back (lit_no 29 (by decide) rfl h1 rfl) (MWins.back go2_5 (MWins.back jmp32 tail2))))))))))
def NL (text : Array Nat) (p : Nat) : Prop := text.getD p 0 = 10 ∨ text.getD p 0 = 13
theorem inSet2 (c : Nat) (seen : Seen) : ∃ seen', inSet re2 c re2.size 5 true seen = .ok (c == 10 || c == 13, seen') := by
  by_cases h : c = 10
  · subst h; exact ⟨_, rfl⟩
  · by_cases h1 : c = 13
    · subst h1; exact ⟨_, rfl⟩
    · have e : (c == 10) = false := beq_eq_false_iff_ne.mpr h
      have e1 : (c == 13) = false := beq_eq_false_iff_ne.mpr h1
      exact ⟨((seen.add 16).add 16).add 0, by simp [inSet, re2, ops, e, e1]⟩
theorem admitted2 (m : M) (hc : m.code = re2) : ∀ (fuel s : Nat) (seen : Seen), m.lim < s + fuel →
    (∃ p seen', s ≤ p ∧ p < m.lim ∧ NL m.text p ∧ (∀ q, s ≤ q → q < p → ¬ NL m.text q) ∧ m.admitted fuel s seen = .ok (some p, seen')) ∨
    ((∀ q, s ≤ q → q < m.lim → ¬ NL m.text q) ∧ ∃ seen', m.admitted fuel s seen = .ok (none, seen'))
  | 0, s, seen, h => .inr ⟨fun q h1 h2 => by omega, seen, rfl⟩
  | fuel + 1, s, seen, h => by
    unfold M.admitted
    by_cases hs : s ≥ m.lim
    · rw [if_pos hs]
      exact .inr ⟨fun q h1 h2 => by omega, seen, rfl⟩
    · rw [if_neg hs]
      obtain ⟨seen', e⟩ := inSet2 (m.text.getD s 0) seen
      rw [hc, e]
      by_cases hn : NL m.text s
      · have : (m.text.getD s 0 == 10 || m.text.getD s 0 == 13) = true := by
          rcases hn with e | e <;> simp [e]
        rw [this]
        exact .inl ⟨s, seen', Nat.le_refl _, by omega, hn, fun q h1 h2 => by omega, rfl⟩
      · have : (m.text.getD s 0 == 10 || m.text.getD s 0 == 13) = false := by
          unfold NL at hn
          rw [not_or] at hn
          rw [beq_eq_false_iff_ne.mpr hn.1, beq_eq_false_iff_ne.mpr hn.2]
          rfl
        rw [this]
        rcases admitted2 m hc fuel (s + 1) seen' (by omega) with ⟨p, sn, h1, h2, h3, h4, h5⟩ | ⟨h1, sn, h2⟩
        · refine .inl ⟨p, sn, by omega, h2, h3, fun q a b => ?_, h5⟩
          by_cases e : q = s
          · rw [e]; exact hn
          · exact h4 q (by omega) b
        · refine .inr ⟨fun q a b => ?_, sn, h2⟩
          by_cases e : q = s
          · rw [e]; exact hn
          · exact h1 q (by omega) b

def nlEnd (text : Array Nat) (p : Nat) : Nat := if text.getD p 0 = 13 ∧ p + 1 < text.size ∧ text.getD (p + 1) 0 = 10 then p + 2 else p + 1
theorem m2_run (text : Array Nat) (p : Nat) (seen : Seen) (hp : p < text.size) (h : NL text p) : MWins (mAt re2 text 10 p text.size true seen) 20 p (nlEnd text p) := by
  unfold nlEnd
  rcases h with h | h
  · rw [if_neg (fun q => absurd (h.symm.trans q.1) (by decide))]
    exact m2_lf text p text.size seen hp h
  · by_cases h1 : p + 1 < text.size ∧ text.getD (p + 1) 0 = 10
    · rw [if_pos ⟨h, h1⟩]
      exact m2_crlf text p text.size seen h1.1 h h1.2
    · rw [if_neg (fun q => h1 q.2)]
      exact m2_cr text p text.size seen hp h h1
theorem search2 (text : Array Nat) (s : Nat) (hs : s ≤ text.size) :
    let m := (forSearch re2 text 0 s text.size false).runFor 20
    (∃ p, s ≤ p ∧ p < text.size ∧ NL text p ∧ (∀ q, s ≤ q → q < p → ¬ NL text q) ∧ m.outcome = some .matched ∧ m.start = p ∧ m.handed = nlEnd text p) ∨
    ((∀ q, s ≤ q → q < text.size → ¬ NL text q) ∧ m.outcome = some .failed) := by
  by_cases h : s = text.size
  · right
    refine ⟨fun q h1 h2 => by omega, ?_⟩
    have e : forSearch re2 text 0 s text.size false = { code := re2, text, lim := text.size, start := s, pc := 10, pos := s, handed := s, marks := #[], mustAdvance := false, seen := ({} : Seen).add 14, answer := some false } := by
      show (if s > text.size || decide (text.size - s < 1) then _ else _) = _
      rw [if_pos (by simp; omega)]
      rfl
    rw [e]
    simp [M.runFor, M.step]
  · have e : forSearch re2 text 0 s text.size false = ({ code := re2, text, lim := text.size, start := s, lastStart := text.size, pc := 10, pos := s, handed := s, marks := #[], mustAdvance := false, seen := ({} : Seen).add 14 } : M).attemptFrom s true := by
      show (if s > text.size || decide (text.size - s < 1) then _ else _) = _
      rw [if_neg (by simp; omega)]
      rfl
    rw [e]
    have hf : ∀ m : M, m.code = re2 → m.hasFirstSet = true := fun m hm => by unfold M.hasFirstSet; rw [hm]; rfl
    unfold M.attemptFrom
    rw [hf _ rfl]
    rcases admitted2 { code := re2, text, lim := text.size, start := s, lastStart := text.size, pc := 10, pos := s, handed := s, marks := #[], mustAdvance := false, seen := ({} : Seen).add 14 } rfl (text.size + 1 - s) s (({} : Seen).add 14) (by dsimp only; omega) with ⟨p, sn, h1, h2, h3, h4, h5⟩ | ⟨h1, sn, h2⟩
    · left
      refine ⟨p, h1, h2, h3, h4, ?_⟩
      rw [h5]
      exact m2_run text p sn h2 h3
    · right
      refine ⟨h1, ?_⟩
      rw [h2]
      simp [M.runFor, M.step, M.say]

def BOL (text : Array Nat) (p : Nat) : Prop := p = 0 ∨ text.getD (p - 1) 0 = 10
def HIT (text : Array Nat) (p : Nat) : Prop := BOL text p ∧ text.getD p 0 = 46
theorem at_yes {text : Array Nat} {p lim : Nat} {om : Bool} {seen : Seen} (h : BOL text p) (n : Nat) :
    (mAt re1 text 5 p lim om seen).runFor (n + 1) = (mSt re1 text lim p 7 p p om [mFr0 5 p om] 1 none ((seen.add 6).add 44)).runFor n := by
  show (if (p == 0 || text.getD (p - 1) 0 == 10) = true then mSt re1 text lim p 7 p p om [mFr0 5 p om] 1 none ((seen.add 6).add 44) else mSt re1 text lim p 5 p p om [mFr0 5 p om] 1 (some false) ((seen.add 6).add 44)).runFor n = _
  rw [if_pos (Bool.or_eq_true_iff.mpr (h.imp beq_iff_eq.mpr beq_iff_eq.mpr))]
theorem at_no {text : Array Nat} {p lim : Nat} {om : Bool} {seen : Seen} (h : ¬ BOL text p) (n : Nat) :
    (mAt re1 text 5 p lim om seen).runFor (n + 1) = (mSt re1 text lim p 5 p p om [mFr0 5 p om] 1 (some false) ((seen.add 6).add 44)).runFor n := by
  show (if (p == 0 || text.getD (p - 1) 0 == 10) = true then mSt re1 text lim p 7 p p om [mFr0 5 p om] 1 none ((seen.add 6).add 44) else mSt re1 text lim p 5 p p om [mFr0 5 p om] 1 (some false) ((seen.add 6).add 44)).runFor n = _
  rw [if_neg (fun q => h ((Bool.or_eq_true_iff.mp q).imp beq_iff_eq.mp beq_iff_eq.mp))]
theorem try_next {text : Array Nat} {p lim pc : Nat} {om : Bool} {seen : Seen} (hp : p < lim) (n : Nat) :
    (mSt re1 text lim p pc p p om [mFr0 5 p om] 1 (some false) seen).runFor (n + 1) = (mAt re1 text 5 (p + 1) lim false seen).runFor n := by
  show (if p < lim then mAt re1 text 5 (p + 1) lim false seen else mSt re1 text lim p 5 p p om [] 0 (some false) seen).runFor n = _
  rw [if_pos hp]
theorem try_none {text : Array Nat} {lim pc : Nat} {om : Bool} {seen : Seen} (n : Nat) :
    (mSt re1 text lim lim pc lim lim om [mFr0 5 lim om] 1 (some false) seen).runFor (n + 2) = { mSt re1 text lim lim 5 lim lim om [] 0 (some false) seen with outcome := some .failed } := by
  show (if lim < lim then mAt re1 text 5 (lim + 1) lim false seen else mSt re1 text lim lim 5 lim lim om [] 0 (some false) seen).runFor (n + 1) = _
  rw [if_neg (Nat.lt_irrefl _)]
  exact runFor_done rfl n
theorem m1_hit (text : Array Nat) (p lim : Nat) (om : Bool) (seen : Seen) (hp : p < lim) (h : HIT text p) : MWins (mAt re1 text 5 p lim om seen) 8 p (p + 1) :=
  MWins.back (at_yes h.1 7) (MWins.back (lit_ok 7 (by decide) rfl hp h.2 rfl) (by cases om <;> exact ⟨rfl, rfl, rfl⟩))
theorem m1_no_bol (text : Array Nat) (p lim : Nat) (om : Bool) (seen : Seen) (hp : p < lim) (h : ¬ BOL text p) :
    ∃ seen', (mAt re1 text 5 p lim om seen).runFor 2 = mAt re1 text 5 (p + 1) lim false seen' := ⟨_, (at_no h 1).trans (try_next hp 0)⟩
theorem m1_no_dot (text : Array Nat) (p lim : Nat) (om : Bool) (seen : Seen) (hp : p < lim) (hb : BOL text p) (hd : ¬ text.getD p 0 = 46) :
    ∃ seen', (mAt re1 text 5 p lim om seen).runFor 3 = mAt re1 text 5 (p + 1) lim false seen' :=
  ⟨_, (at_yes hb 2).trans ((lit_no 7 (by decide) rfl (fun q => hd q.2) rfl).trans (try_next hp 0))⟩
theorem m1_end (text : Array Nat) (lim : Nat) (om : Bool) (seen : Seen) : ((mAt re1 text 5 lim lim om seen).runFor 6).outcome = some .failed := by
  by_cases h : BOL text lim
  · rw [at_yes h, lit_no 7 (by decide) rfl (fun q => Nat.lt_irrefl _ q.1) (x := 46) rfl, try_none]
  · rw [at_no h, try_none]
theorem run1 (text : Array Nat) : ∀ (n p : Nat) (om : Bool) (seen : Seen), n = text.size - p → p ≤ text.size →
    ∃ k, k ≤ 3 * n + 8 ∧ ((∃ q, p ≤ q ∧ q < text.size ∧ HIT text q ∧ (∀ r, p ≤ r → r < q → ¬ HIT text r) ∧
        ((mAt re1 text 5 p text.size om seen).runFor k).outcome = some .matched ∧ ((mAt re1 text 5 p text.size om seen).runFor k).start = q ∧ ((mAt re1 text 5 p text.size om seen).runFor k).handed = q + 1) ∨
      ((∀ r, p ≤ r → r < text.size → ¬ HIT text r) ∧ ((mAt re1 text 5 p text.size om seen).runFor k).outcome = some .failed))
  | 0, p, om, seen, hn, hp => by
    have e : p = text.size := by omega
    subst e
    exact ⟨6, by omega, .inr ⟨fun r h1 h2 => by omega, m1_end text _ om seen⟩⟩
  | n + 1, p, om, seen, hn, hp => by
    have hlt : p < text.size := by omega
    have go : ∀ j, j ≤ 3 → ¬ HIT text p → (∃ seen', (mAt re1 text 5 p text.size om seen).runFor j = mAt re1 text 5 (p + 1) text.size false seen') →
        ∃ k, k ≤ 3 * (n + 1) + 8 ∧ ((∃ q, p ≤ q ∧ q < text.size ∧ HIT text q ∧ (∀ r, p ≤ r → r < q → ¬ HIT text r) ∧
        ((mAt re1 text 5 p text.size om seen).runFor k).outcome = some .matched ∧ ((mAt re1 text 5 p text.size om seen).runFor k).start = q ∧ ((mAt re1 text 5 p text.size om seen).runFor k).handed = q + 1) ∨
      ((∀ r, p ≤ r → r < text.size → ¬ HIT text r) ∧ ((mAt re1 text 5 p text.size om seen).runFor k).outcome = some .failed)) := by
      rintro j hj hno ⟨seen', e⟩
      obtain ⟨k, hk, h⟩ := run1 text n (p + 1) false seen' (by omega) (by omega)
      refine ⟨j + k, by omega, ?_⟩
      rw [runFor_add, e]
      rcases h with ⟨q, h1, h2, h3, h4, h5⟩ | ⟨h1, h2⟩
      · refine .inl ⟨q, by omega, h2, h3, fun r a b => ?_, h5⟩
        by_cases er : r = p
        · rw [er]; exact hno
        · exact h4 r (by omega) b
      · refine .inr ⟨fun r a b => ?_, h2⟩
        by_cases er : r = p
        · rw [er]; exact hno
        · exact h1 r (by omega) b
    by_cases hb : BOL text p
    · by_cases hd : text.getD p 0 = 46
      · exact ⟨8, by omega, .inl ⟨p, Nat.le_refl _, hlt, ⟨hb, hd⟩, fun r h1 h2 => by omega, m1_hit text p _ om seen hlt ⟨hb, hd⟩⟩⟩
      · exact go 3 (by omega) (fun h => hd h.2) (m1_no_dot text p _ om seen hlt hb hd)
    · exact go 2 (by omega) (fun h => hb h.1) (m1_no_bol text p _ om seen hlt hb)

theorem search1 (text : Array Nat) (s : Nat) (hs : s ≤ text.size) :
    ∃ k, k ≤ 3 * text.size + 8 ∧ let m := (forSearch re1 text 0 s text.size false).runFor k
    (∃ p, s ≤ p ∧ p < text.size ∧ HIT text p ∧ (∀ q, s ≤ q → q < p → ¬ HIT text q) ∧ m.outcome = some .matched ∧ m.start = p ∧ m.handed = p + 1) ∨
    ((∀ q, s ≤ q → q < text.size → ¬ HIT text q) ∧ m.outcome = some .failed) := by
  by_cases h : s = text.size
  · refine ⟨8, by omega, .inr ⟨fun q h1 h2 => by omega, ?_⟩⟩
    have e : forSearch re1 text 0 s text.size false = { code := re1, text, lim := text.size, start := s, pc := 5, pos := s, handed := s, marks := #[], mustAdvance := false, seen := ({} : Seen).add 14, answer := some false } := by
      show (if s > text.size || decide (text.size - s < 1) then _ else _) = _
      rw [if_pos (by simp; omega)]
      rfl
    rw [e]
    simp [M.runFor, M.step]
  · have e : forSearch re1 text 0 s text.size false = mAt re1 text 5 s text.size true (({} : Seen).add 14) := by
      show (if s > text.size || decide (text.size - s < 1) then _ else _) = _
      rw [if_neg (by simp; omega)]
      rfl
    obtain ⟨k, hk, h⟩ := run1 text (text.size - s) s true (({} : Seen).add 14) rfl hs
    exact ⟨k, by omega, by rw [e]; exact h⟩
end MyLaw
end
end
section
open PySem PySem.W PySem.Calls PyProof.Rows
noncomputable section
namespace MyLaw
open PySem.Sre PySem.Builtin.Re
section
variable {M : Model} {A : Around} {E : Value → Shared → Prop} {s : Shared}
theorem wp_forIn_unit {α : Type} (f : α → PUnit → Sem (ForInStep PUnit)) (hf : ∀ (a : α) (s : Shared) (Q : ForInStep PUnit → Shared → Prop), Q (.yield ⟨⟩) s → wpAny M A (f a ⟨⟩) Q E s) :
    ∀ (l : List α) {s : Shared} {Q : PUnit → Shared → Prop}, Q ⟨⟩ s → wpAny M A (forIn l ⟨⟩ f) Q E s
  | [], s, Q, h => by rw [List.forIn_nil]; exact wpAny_pure h
  | a :: l, s, Q, h => by
    rw [List.forIn_cons]
    exact wpAny_bind (hf a s _ (wp_forIn_unit f hf l h))
theorem wp_drive {Q : Sre.M → Shared → Prop} : ∀ (j turns : Nat) (m : Sre.M), j < turns → (m.runFor (4 * j)).outcome.isSome = true → Q (m.runFor (4 * j)) s → wpAny M A (reDrive turns m) Q E s
  | j, 0, m, h, _, _ => absurd h (Nat.not_lt_zero _)
  | 0, t + 1, m, h, ho, hq => by
    unfold reDrive
    have e : m.runFor reTurnSteps = m := runFor_done ho _
    simp only [e]
    rw [if_pos (show m.outcome.isSome = true from ho)]
    exact wpAny_pure hq
  | j + 1, t + 1, m, h, ho, hq => by
    unfold reDrive
    simp only []
    by_cases hd : (m.runFor reTurnSteps).outcome.isSome = true
    · rw [if_pos hd]
      have e := runFor_more (a := reTurnSteps) (b := 4 * (j + 1)) hd (by show 4 ≤ _; omega)
      rw [e] at hq
      exact wpAny_pure hq
    · rw [if_neg hd]
      refine wpAny_bind (wpAny_rule ?_)
      have e : m.runFor (4 * (j + 1)) = (m.runFor reTurnSteps).runFor (4 * j) := by
        rw [← runFor_add]; show m.runFor (4 * (j + 1)) = m.runFor (4 + 4 * j); congr 1; omega
      rw [e] at ho hq
      exact wp_drive j t _ (by omega) ho hq
theorem wp_run {m : Sre.M} {k : Nat} {Q : Option Sre.M → Shared → Prop} (hk : k ≤ 2 ^ 60) (h : ((m.runFor k).outcome = some .matched ∧ Q (some (m.runFor k)) s) ∨ ((m.runFor k).outcome = some .failed ∧ Q none s)) :
    wpAny M A (reRunToEnd m) Q E s := by
  unfold reRunToEnd
  have ho : (m.runFor k).outcome.isSome = true := by rcases h with h | h <;> rw [h.1] <;> rfl
  have e : m.runFor (4 * k) = m.runFor k := runFor_more ho (by omega)
  refine wpAny_bind (wp_drive k (2 ^ 64) m (by omega) (by rw [e]; exact ho) ?_)
  rw [e]
  refine wpAny_bind (wp_forIn_unit _ (fun a s Q h => ?_) _ ?_)
  · split
    · exact wpAny_bind (wpAny_rule (wpAny_pure h))
    · exact wpAny_bind (wpAny_pure (wpAny_pure h))
  · rcases h with h | h
    · rw [h.1]; exact wpAny_pure h.2
    · rw [h.1]; exact wpAny_pure h.2
end
end MyLaw
end
end
section
open PySem PySem.W PySem.Calls PyProof.Rows
noncomputable section
namespace MyLaw
open PySem.Sre PySem.Builtin.Re
structure SubSpec (code : Array Nat) (repl : List Nat) (spec : Array Nat → Nat → List Nat) : Prop where
  len : ∀ text, (spec text 0).length ≤ 2 * text.size
  step : ∀ (text : Array Nat) (s : Nat), s ≤ text.size → ∃ k, k ≤ 3 * text.size + 20 ∧ let m := (forSearch code text 0 s text.size false).runFor k
    (∃ p e, s ≤ p ∧ p < e ∧ e ≤ text.size ∧ m.outcome = some .matched ∧ m.start = p ∧ m.handed = e ∧ spec text s = (text.toList.drop s).take (p - s) ++ repl ++ spec text e) ∨
    (m.outcome = some .failed ∧ spec text s = text.toList.drop s)
def catL (ss : List Str) : List Nat := ss.flatMap fun x => x.cps.toList
theorem glued_nil : ∀ (ss : List Str) (acc : Array Nat), (ss.foldl (fun acc p => acc ++ (⟨#[]⟩ : Str).cps ++ p.cps) acc).toList = acc.toList ++ catL ss
  | [], acc => by simp [catL]
  | x :: r, acc => by
    rw [List.foldl_cons, glued_nil r]
    simp [catL]
theorem join_nil (ss : List Str) : Txt.join ⟨#[]⟩ ss = ⟨(catL ss).toArray⟩ := by
  show (⟨(ss.drop 1).foldl _ (ss.headD Str.empty).cps⟩ : Str) = _
  congr 1
  apply Array.toList_inj.mp
  cases ss with
  | nil => simp [catL, Str.empty]
  | cons x r =>
    rw [List.drop_succ_cons, List.drop_zero, glued_nil]
    simp [catL]

theorem strsAre_append {vs ws : List Value} {xs ys : List Str} (h : StrsAre vs xs) (h' : StrsAre ws ys) : StrsAre (vs ++ ws) (xs ++ ys) := by
  induction h with
  | nil => exact h'
  | cons y t _ ih => exact .cons y t ih
theorem catL_len : ∀ ss : List Str, (ss.map (·.length)).sum = (catL ss).length
  | [] => rfl
  | x :: r => by
    rw [List.map_cons, List.sum_cons, catL_len r]
    simp [catL, Str.length]
def patObj (cls : Value) (p f : Value) (g : Int) (ct : Addr) (sl : Array (Option Value)) : Obj := ⟨cls, none, .fields #[p, f, .int g 0, .none, .none, .ref ct, .int 0 0], sl⟩
section
variable {prog : Program} {w : World} {A : Around} {E : Value → Shared → Prop} {s : Shared}
theorem wp_no {M : Model} {α : Type} {c : Bool} {t1 t2 : Sem α} {Q : α → Shared → Prop} (hc : c = false) (h : wpAny M A t2 Q E s) : wpAny M A (if c = true then t1 else t2) Q E s := by
  rw [if_neg (by rw [hc]; exact Bool.false_ne_true)]; exact h
theorem wp_yes {M : Model} {α : Type} {c : Bool} {t1 t2 : Sem α} {Q : α → Shared → Prop} (hc : c = true) (h : wpAny M A t1 Q E s) : wpAny M A (if c = true then t1 else t2) Q E s := by
  rw [if_pos hc]; exact h
theorem wp_target {a ct : Addr} {cls p f : Value} {sl : Array (Option Value)} {x : Str} {tx : Tok} {o : Obj} {items : Array Value} {n : Nat} {Q : ReTarget → Shared → Prop}
    (hp : s.heap.get? a = some (patObj cls p f 0 ct sl)) (hc : s.heap.get? ct = some o) (hd : o.data = .seq items n)
    (h : Q { pattern := .ref a, string := .str x tx, code := (items.map reRawOf).map (·.toNat), text := x.cps, kind := 0, groups := 0, pos := 0, lim := x.cps.size } s) :
    wpAny (model prog w) A (reWholeTarget (.ref a) (.str x tx)) Q E s := by
  unfold reWholeTarget
  refine wpAny_bind (wpAny_fieldsOf hp rfl ?_)
  refine wpAny_bind ?_
  unfold reTextOf
  refine wpAny_bind ?_
  unfold asStr?
  refine wpAny_pure ?_
  dsimp only
  refine wpAny_pure ?_
  refine wp_no rfl (wp_no rfl ?_)
  refine wpAny_bind ?_
  unfold reNoCollectionInside
  refine wp_no rfl (wpAny_pure ?_)
  refine wpAny_bind ?_
  show wpAny _ _ (reRawItems (.ref ct)) _ _ _
  unfold reRawItems
  refine wpAny_bind (wpAny_seqItems hc hd (wpAny_pure ?_))
  exact wpAny_pure h
theorem code_builtin {id : String} {args : Args} {b : Builtin} {R : Result → Shared → Prop} (hb : entryFor table id = some b) (hp : plainId id = true)
    (h : wpAny (model prog w) A.in1 (b args) (fun fin s' => match fin with | .done f => R (.ok f) s' | .again c' => c'.quiet = true ∧ codeAny (model prog w) A c' R s') (fun e s' => R (.error e) s') s) :
    codeAny (model prog w) A (.builtin id args) R s := by
  refine codeAny_of_tree ?_
  rw [Around.under_plainId hp]
  show wpAny _ _ (match entryFor table id with | some b => b args | none => unsupported ((withoutEnding? id "#data").getD id)) _ _ s
  rw [hb]; exact h
theorem entry_sub_loop : entryFor table "re.Pattern.sub.loop" = some Builtin.«re.Pattern.sub.loop» := entryFor_of_tree (by kernel_rfl)
theorem plain_sub_loop : plainId "re.Pattern.sub.loop" = true := by decide +kernel
theorem sub_loop {code : Array Nat} {repl : List Nat} {spec : Array Nat → Nat → List Nat} (S : SubSpec code repl spec)
    {a ct l : Addr} {cls p f : Value} {sl : Array (Option Value)} {x r : Str} {tx tr : Tok} {o : Obj} {items : Array Value} {n₁ : Nat} {hb : Heap} {R : Result → Shared → Prop}
    (hx : x.cps.size ≤ 100000) (hr : r.cps.toList = repl)
    (hp : hb.get? a = some (patObj cls p f 0 ct sl)) (hc : hb.get? ct = some o) (hd : o.data = .seq items n₁) (hcode : (items.map reRawOf).map (·.toNat) = code) (hl0 : hb.get? l = none)
    (hR : ∀ h' t tk, (∀ b o, hb.get? b = some o → h'.get? b = some o) → R (.ok (.ret (.str ⟨(spec x.cps 0).toArray⟩ t))) { s with heap := h', toks := tk }) :
    ∀ (fuel done : Nat) (h : Heap) (tk : Nat) (n : Int) (vs : List Value) (ss : List Str) (ep : Nat), x.cps.size - done < fuel → done ≤ x.cps.size → h.get? l = some ⟨.type "list", none, .seq vs.toArray ep, #[]⟩ → StrsAre vs ss →
      catL ss ++ spec x.cps done = spec x.cps 0 → vs.length ≤ 2 * done → (∀ b o, hb.get? b = some o → h.get? b = some o) →
      codeAny (model prog w) A (.builtin "re.Pattern.sub.loop" ⟨[.ref a, .str x tx, .str r tr, rawInt 0, rawInt 0, rawInt n, rawInt done, rawInt done, .bool false, .ref l, .bool false], []⟩) R { s with heap := h, toks := tk }
  | 0, _, _, _, _, _, _, _, hf, _, _, _, _, _, _ => absurd hf (Nat.not_lt_zero _)
  | fuel + 1, done, h, tk, n, vs, ss, ep, hf, hdone, hl, hss, hcat, hlen, hk => by
    refine code_builtin entry_sub_loop plain_sub_loop ?_
    unfold Builtin.«re.Pattern.sub.loop»
    dsimp only [rawInt]
    refine wpAny_bind (wp_target (hk _ _ hp) (hk _ _ hc) hd ?_)
    rw [hcode]
    refine wp_yes rfl (wpAny_bind ?_)
    unfold reLiteralCannotBeTurned
    refine wpAny_bind ?_
    unfold asStr?
    refine wpAny_pure ?_
    refine wp_no rfl (wpAny_pure ?_)
    refine wpAny_bind (wp_no rfl ?_)
    unfold reNextFound
    obtain ⟨k, hk9, hm⟩ := S.step x.cps done hdone
    dsimp only at hm ⊢
    rw [Int.toNat_natCast]
    refine wp_run (k := k) (by omega) ?_
    generalize (forSearch code x.cps 0 done x.cps.size false).runFor k = m at hm ⊢
    have hsz : catL ss ++ spec x.cps done = spec x.cps 0 := hcat
    rcases hm with ⟨q, e, h1, h2, h3, ho, hst, hha, hsp⟩ | ⟨ho, hsp⟩
    · refine .inl ⟨ho, ?_⟩
      subst hst hha
      have hne : (m.handed == m.start) = false := beq_eq_false_iff_ne.mpr (by omega)
      dsimp only
      rw [hne]
      have go : ∀ (h' : Heap) (tk' : Nat) (vs' : List Value) (ss' : List Str) (ep' : Nat), h'.get? l = some ⟨.type "list", none, .seq vs'.toArray ep', #[]⟩ → StrsAre vs' ss' → catL ss' = catL ss ++ (x.cps.toList.drop done).take (m.start - done) →
          vs'.length ≤ 2 * done + 1 → (∀ b o, hb.get? b = some o → h'.get? b = some o) →
          wpAny (model prog w) A.in1 (do
            let item ← pure (Value.str r tr)
            if (item != Value.none) = true then do
              updateSeq l fun x => x.push item
              again (.builtin "re.Pattern.sub.loop" ⟨[.ref a, .str x tx, .str r tr, .int 0 0, .int 0 0, .int (n + 1) 0, .int m.handed 0, .int m.handed 0, .bool false, .ref l, .bool false], []⟩)
            else again (.builtin "re.Pattern.sub.loop" ⟨[.ref a, .str x tx, .str r tr, .int 0 0, .int 0 0, .int (n + 1) 0, .int m.handed 0, .int m.handed 0, .bool false, .ref l, .bool false], []⟩))
            (fun fin s' => match fin with | .done f => R (.ok f) s' | .again c' => c'.quiet = true ∧ codeAny (model prog w) A c' R s') (fun e s' => R (.error e) s') { s with heap := h', toks := tk' } := by
        intro h' tk' vs' ss' ep' hl' hss' hcat' hlen' hk'
        refine wpAny_bind (wpAny_pure (wp_yes rfl (wpAny_bind ?_)))
        refine wpAny_updateSeq hl' rfl ?_ (by rw [List.size_toArray]; show _ ≤ 2 ^ 24; omega) (by rw [Array.size_push, List.size_toArray]; show _ ≤ 2 ^ 24 + 1; omega)
        refine wpAny_pure ⟨plainId_quiet plain_sub_loop _, ?_⟩
        refine sub_loop S hx hr hp hc hd hcode hl0 hR fuel m.handed _ tk' (n + 1) (vs' ++ [.str r tr]) (ss' ++ [r]) (ep' + 1) (by omega) h3 ?_ (strsAre_append hss' (.cons r tr .nil)) ?_ (by simp; omega) ?_
        · rw [Heap.get?_update_self _ hl' rfl]
          simp [Obj.mapSeq]
        · rw [← hcat, hsp]
          simp only [catL, List.flatMap_append] at hcat' ⊢
          rw [hcat']
          simp [hr]
        · intro b o' hb'
          refine (Heap.get?_update_ne _ _ _ _ fun z => ?_).trans (hk' b o' hb')
          rw [z, hl0] at hb'; cases hb'
      by_cases hlt : done < m.start
      · rw [if_pos hlt]
        refine wpAny_bind ?_
        unfold reSlice
        refine wp_yes rfl (wpAny_mkStr ?_ ?_)
        · refine wpAny_bind ?_
          refine wpAny_updateSeq hl rfl ?_ (by rw [List.size_toArray]; show _ ≤ 2 ^ 24; omega) (by rw [Array.size_push, List.size_toArray]; show _ ≤ 2 ^ 24 + 1; omega)
          refine wp_yes rfl ?_
          refine go _ _ (vs ++ [.str ⟨x.cps.extract done m.start⟩ tk]) (ss ++ [⟨x.cps.extract done m.start⟩]) (ep + 1) ?_ (strsAre_append hss (.cons _ tk .nil)) ?_ (by simp; omega) ?_
          · rw [Heap.get?_update_self _ hl rfl]
            simp [Obj.mapSeq]
          · simp [catL]
          · intro b o' hb'
            refine (Heap.get?_update_ne _ _ _ _ fun z => ?_).trans (hk b o' hb')
            rw [z, hl0] at hb'; cases hb'
        · show (x.cps.extract done m.start).size ≤ 2 ^ 24
          rw [Array.size_extract]; omega
      · rw [if_neg hlt]
        refine wp_yes rfl ?_
        refine go h tk vs ss ep hl hss ?_ (by omega) hk
        rw [show m.start - done = 0 by omega]
        simp
    · refine .inr ⟨ho, ?_⟩
      dsimp only
      have fin : ∀ (h' : Heap) (tk' : Nat) (vs' : List Value) (ss' : List Str) (ep' : Nat), h'.get? l = some ⟨.type "list", none, .seq vs'.toArray ep', #[]⟩ → StrsAre vs' ss' → catL ss' = spec x.cps 0 →
          (∀ b o, hb.get? b = some o → h'.get? b = some o) →
          wpAny (model prog w) A.in1 (do
            let joiner ← reSlice x.cps 0 0 0
            let its ← seqItems? (Value.ref l)
            if (its.getD #[]).isEmpty = true then do
              let text ← pure joiner
              if false = true then do
                let r ← holding [text] do
                  let i ← mkInt n
                  newTuple [text, i]
                ret r
              else ret text
            else do
              let text ← call (Value.builtin (if (0 == 0) = true then "str.join" else "bytes.join")) [joiner, Value.ref l]
              if false = true then do
                let r ← holding [text] do
                  let i ← mkInt n
                  newTuple [text, i]
                ret r
              else ret text)
            (fun fin s' => match fin with | .done f => R (.ok f) s' | .again c' => c'.quiet = true ∧ codeAny (model prog w) A c' R s') (fun e s' => R (.error e) s') { s with heap := h', toks := tk' } := by
        intro h' tk' vs' ss' ep' hl' hss' hcat' hk'
        have e0 : x.cps.extract 0 0 = #[] := by simp
        refine wpAny_bind ?_
        unfold reSlice
        rw [e0]
        refine wp_yes rfl (wpAny_mkStr ?_ (Nat.zero_le _))
        refine wpAny_bind (wpAny_seqItems hl' rfl ?_)
        cases vs' with
        | nil =>
          cases hss'
          refine wp_yes rfl (wpAny_bind (wpAny_pure (wp_no rfl (wpAny_pure ?_))))
          rw [show (#[] : Array Nat) = (spec x.cps 0).toArray from by rw [← hcat']; rfl]
          exact hR _ _ _ hk'
        | cons v r' =>
          refine wp_no rfl (wpAny_bind (join_list (s := { s with heap := h', toks := tk' + 1 }) ⟨_, hl', rfl, ep', rfl⟩ (by simpa using hss') ?_ fun t' k' => ?_))
          · show (ss'.map (·.length)).sum + ss'.length * 0 ≤ 16777216
            rw [catL_len, hcat']
            have := S.len x.cps
            omega
          · refine wp_no rfl (wpAny_pure ?_)
            rw [join_nil, hcat']
            exact hR _ _ _ hk'
      by_cases hlt : done < x.cps.size
      · rw [if_pos hlt]
        refine wpAny_bind ?_
        unfold reSlice
        refine wp_yes rfl (wpAny_mkStr ?_ ?_)
        · refine wpAny_bind ?_
          refine wpAny_updateSeq hl rfl ?_ (by rw [List.size_toArray]; show _ ≤ 2 ^ 24; omega) (by rw [Array.size_push, List.size_toArray]; show _ ≤ 2 ^ 24 + 1; omega)
          refine fin _ _ (vs ++ [.str ⟨x.cps.extract done x.cps.size⟩ tk]) (ss ++ [⟨x.cps.extract done x.cps.size⟩]) (ep + 1) ?_ (strsAre_append hss (.cons _ tk .nil)) ?_ ?_
          · rw [Heap.get?_update_self _ hl rfl]
            simp [Obj.mapSeq]
          · rw [← hcat, hsp]
            simp [catL]
            exact List.take_of_length_le (by simp)
          · intro b o' hb'
            refine (Heap.get?_update_ne _ _ _ _ fun z => ?_).trans (hk b o' hb')
            rw [z, hl0] at hb'; cases hb'
        · show (x.cps.extract done x.cps.size).size ≤ 2 ^ 24
          rw [Array.size_extract]; omega
      · rw [if_neg hlt]
        refine fin h tk vs ss ep hl hss ?_ hk
        rw [← hcat, hsp, List.drop_eq_nil_of_le (by simp; omega)]
        simp

theorem entry_sub : entryFor table "re.Pattern.sub" = some Builtin.«re.Pattern.sub» := entryFor_of_tree (by kernel_rfl)
theorem plain_sub : plainId "re.Pattern.sub" = true := by decide +kernel
theorem type_sub : typeOf (.builtin "re.Pattern.sub") = pure (.type "method_descriptor") := by show builtinType _ = _; rw [builtinType_eq_fast]; kernel_rfl
theorem plainAttrs_pat : PlainAttrs "re.Pattern" :=
  ⟨⟨"object.__getattribute__", by rw [typeLookup_type, builtinLookup_eq_fast]; kernel_rfl, by decide +kernel⟩, by rw [typeLookup_type, builtinLookup_eq_fast]; kernel_rfl⟩
theorem slot_sub : Slot "re.Pattern" "sub" "re.Pattern.sub" :=
  .of (owner := "re.Pattern") (n := "sub") (by rw [typeLookup_type, builtinLookup_eq_fast]; kernel_rfl) (by decide +kernel) (by decide +kernel) (by decide +kernel)
    (by first | exact .inl (by decide +kernel) | exact .inr (by decide +kernel)) (by rw [isSubtype_type]; kernel_rfl)
theorem str_no_call : typeLookup (.type "str") "__call__" = pure none := by rw [typeLookup_type, builtinLookup_eq_fast]; kernel_rfl
end
end MyLaw
end
end
section
open PySem PySem.W PySem.Calls PyProof.Rows
noncomputable section
namespace MyLaw
open PySem.Sre PySem.Builtin.Re
theorem owner_pat : Manifest.owners.lookup (String.ofList ['n', 'r', 'e', 't', 't', 'a', 'P', '.', 'e', 'r'].reverse) = some Manifest.sig_re_Pattern := by kernel_rfl
theorem args_sub (a b c : Value) : argsOk "re.Pattern.sub" ⟨[a, b, c], []⟩ := by
  unfold argsOk; rw [signature?_of (id := "re.Pattern.sub") (n := ['b', 'u', 's']) (o := ['n', 'r', 'e', 't', 't', 'a', 'P', '.', 'e', 'r']) (by kernel_rfl) owner_pat]; kernel_rfl
theorem named_sub (r x : Value) : reNamed "re.Pattern.sub" "sub" ["repl", "string", "count"] 2 [r, x] [] = pure [some r, some x, none] := rfl
theorem get_size (h : Heap) : h.get? h.objs.size = none := by
  cases q : h.get? h.objs.size with
  | none => rfl
  | some o => exact absurd (Heap.lt_size q) (Nat.lt_irrefl _)
section
variable {prog : Program} {w : World} {A : Around} {E : Value → Shared → Prop} {s : Shared}
theorem sub_call {code : Array Nat} {repl : List Nat} {spec : Array Nat → Nat → List Nat} (S : SubSpec code repl spec)
    {a ct : Addr} {p f : Value} {sl : Array (Option Value)} {x r : Str} {tx tr : Tok} {o : Obj} {items : Array Value} {n₁ : Nat} {Q : Value → Shared → Prop}
    (hx : x.cps.size ≤ 100000) (hr : r.cps.toList = repl) (hesc : r.cps.contains 92 = false)
    (hp : s.heap.get? a = some (patObj (.type "re.Pattern") p f 0 ct sl)) (hc : s.heap.get? ct = some o) (hd : o.data = .seq items n₁) (hcode : (items.map reRawOf).map (·.toNat) = code)
    (hQ : ∀ h' t tk, (∀ b o, s.heap.get? b = some o → h'.get? b = some o) → Q (.str ⟨(spec x.cps 0).toArray⟩ t) { s with heap := h', toks := tk }) :
    wpAny (model prog w) A (call (.builtin "re.Pattern.sub") [.ref a, .str r tr, .str x tx]) Q E s := by
  refine wpAny_call (codeAny_call_builtin plain_sub entry_sub (slot_sub.check _ _ _ _ _ _ _ _ ⟨_, hp, rfl⟩ (args_sub _ _ _) ?_))
  show wpAny _ _ (reSubstitute "re.Pattern.sub" "sub" false _) _ _ _
  unfold reSubstitute
  dsimp only
  rw [named_sub]
  refine wpAny_bind (wpAny_pure ?_)
  dsimp only
  refine wpAny_bind (wpAny_pure ?_)
  refine wpAny_bind (wpAny_specialOf (typeIs_str _ _ _) str_no_call ?_)
  refine wp_no rfl ?_
  refine wpAny_bind ?_
  unfold asStr?
  refine wpAny_pure ?_
  dsimp only
  refine wpAny_bind (wpAny_pure ?_)
  rw [hesc]
  refine wp_no rfl (wp_yes rfl ?_)
  refine wpAny_bind (wpAny_pure ?_)
  dsimp only
  refine wpAny_bind (wpAny_holding (wp_target hp hc hd ?_))
  refine wp_no rfl ?_
  refine wpAny_bind (wpAny_newList ?_ (Nat.zero_le _))
  refine wpAny_pure ⟨plainId_quiet plain_sub_loop _, ?_⟩
  refine sub_loop S (s := s) (hb := s.heap) (l := s.heap.objs.size) hx hr hp hc hd hcode (get_size _) (fun h' t tk hk => hQ h' t tk hk) (x.cps.size + 1) 0 _ s.toks 0 [] [] 0 (by omega) (Nat.zero_le _) (Heap.get?_push_size _ rfl) .nil (by simp [catL]) (Nat.zero_le _) (fun b o' h' => Heap.get?_push_of_some _ h')
end
end MyLaw
end
end
section
open PySem PySem.W PySem.Calls PyProof.Rows
noncomputable section
namespace MyLaw
open PySem.Sre PySem.Builtin.Re
noncomputable def crlfL : List Nat → List Nat
  | [] => []
  | 13 :: 10 :: r => 13 :: 10 :: crlfL r
  | c :: r => if c = 10 ∨ c = 13 then 13 :: 10 :: crlfL r else c :: crlfL r
theorem crlfL_other {c : Nat} {r : List Nat} (h : c ≠ 10 ∧ c ≠ 13) : crlfL (c :: r) = c :: crlfL r := by
  rw [crlfL, if_neg (by omega)]
  intro r' e1 e2
  exact h.2 e1
theorem crlfL_lf {r : List Nat} : crlfL (10 :: r) = 13 :: 10 :: crlfL r := by
  rw [crlfL, if_pos (.inl rfl)]
  intro r' e1 e2
  cases e1
theorem crlfL_crlf {r : List Nat} : crlfL (13 :: 10 :: r) = 13 :: 10 :: crlfL r := by rw [crlfL]
theorem crlfL_cr {r : List Nat} (h : r.head? ≠ some 10) : crlfL (13 :: r) = 13 :: 10 :: crlfL r := by
  rw [crlfL, if_pos (.inr rfl)]
  rintro r' - rfl
  exact h rfl
theorem crlfL_skip : ∀ (l r : List Nat), (∀ c ∈ l, c ≠ 10 ∧ c ≠ 13) → crlfL (l ++ r) = l ++ crlfL r
  | [], _, _ => rfl
  | c :: l, r, h => by
    rw [List.cons_append, crlfL_other (h c (.head _)), crlfL_skip l r fun d hd => h d (.tail _ hd), List.cons_append]
theorem crlfL_len : ∀ (n : Nat) (l : List Nat), l.length ≤ n → (crlfL l).length ≤ 2 * l.length
  | _, [], _ => by simp [crlfL]
  | 0, c :: r, h => by simp at h
  | n + 1, c :: r, h => by
    have hr : r.length ≤ n := by simpa using h
    by_cases h13 : c = 13
    · subst h13
      by_cases h10 : r.head? = some 10
      · cases r with
        | nil => cases h10
        | cons d r' =>
          have e : d = 10 := by simpa using h10
          subst e
          rw [crlfL_crlf]
          have := crlfL_len n r' (by simp at hr; omega)
          simp; omega
      · rw [crlfL_cr h10]
        have := crlfL_len n r hr
        simp; omega
    · by_cases h10 : c = 10
      · subst h10
        rw [crlfL_lf]
        have := crlfL_len n r hr
        simp; omega
      · rw [crlfL_other ⟨h10, h13⟩]
        have := crlfL_len n r hr
        simp; omega
def spec2 (text : Array Nat) (s : Nat) : List Nat := crlfL (text.toList.drop s)
theorem getD_list (text : Array Nat) (p : Nat) : text.getD p 0 = text.toList.getD p 0 := by simp
theorem drop_cons {l : List Nat} {p : Nat} (h : p < l.length) : l.drop p = l.getD p 0 :: l.drop (p + 1) := by
  rw [List.drop_eq_getElem_cons h]
  simp [List.getD, h]
theorem drop_split (l : List Nat) (s p : Nat) (h : s ≤ p) : l.drop s = (l.drop s).take (p - s) ++ l.drop p := by
  have e : l.drop p = (l.drop s).drop (p - s) := by rw [List.drop_drop]; congr 1; omega
  rw [e, List.take_append_drop]
theorem mem_part {l : List Nat} {s p c : Nat} (h : c ∈ (l.drop s).take (p - s)) : ∃ q, s ≤ q ∧ q < p ∧ q < l.length ∧ l.getD q 0 = c := by
  obtain ⟨i, hi, e⟩ := List.getElem_of_mem h
  rw [List.length_take, List.length_drop] at hi
  refine ⟨s + i, by omega, by omega, by omega, ?_⟩
  rw [List.getElem_take, List.getElem_drop] at e
  have hl : s + i < l.length := by omega
  simp [List.getD, hl, e]
theorem nlEnd_gt (text : Array Nat) (p : Nat) : p < nlEnd text p := by
  unfold nlEnd
  by_cases h : text.getD p 0 = 13 ∧ p + 1 < text.size ∧ text.getD (p + 1) 0 = 10
  · rw [if_pos h]; omega
  · rw [if_neg h]; omega
theorem nlEnd_le (text : Array Nat) {p : Nat} (hp : p < text.size) : nlEnd text p ≤ text.size := by
  unfold nlEnd
  by_cases h : text.getD p 0 = 13 ∧ p + 1 < text.size ∧ text.getD (p + 1) 0 = 10
  · rw [if_pos h]; omega
  · rw [if_neg h]; omega
theorem subSpec2 : SubSpec re2 [13, 10] spec2 where
  len text := by
    have := crlfL_len _ text.toList (Nat.le_refl _)
    simpa [spec2] using this
  step text s hs := by
    refine ⟨20, by omega, ?_⟩
    rcases search2 text s hs with ⟨p, h1, h2, h3, h4, h5, h6, h7⟩ | ⟨h1, h2⟩
    · refine .inl ⟨p, nlEnd text p, h1, ?_, ?_, h5, h6, h7, ?_⟩
      · exact nlEnd_gt text p
      · exact nlEnd_le text h2
      · unfold spec2
        have hl : p < text.toList.length := by simpa using h2
        conv => lhs; rw [drop_split text.toList s p h1]
        rw [crlfL_skip _ _ fun c hc => ?_, List.append_assoc]
        · congr 1
          rw [drop_cons hl]
          unfold NL at h3
          rw [getD_list] at h3
          unfold nlEnd
          rw [getD_list, getD_list]
          rcases h3 with h3 | h3
          · rw [h3, crlfL_lf, if_neg (by omega)]; rfl
          · rw [h3]
            by_cases hn : p + 1 < text.size ∧ text.toList.getD (p + 1) 0 = 10
            · rw [if_pos ⟨rfl, hn⟩, drop_cons (by simpa using hn.1), hn.2, crlfL_crlf]; rfl
            · rw [if_neg (fun q => hn q.2), crlfL_cr ?_]; · rfl
              intro q
              apply hn
              have hlt : p + 1 < text.toList.length := by
                rcases Nat.lt_or_ge (p + 1) text.toList.length with hlt | hge
                · exact hlt
                · rw [List.drop_eq_nil_of_le hge] at q; cases q
              rw [drop_cons hlt] at q
              exact ⟨by simpa using hlt, by simpa using q⟩
        · obtain ⟨q, q1, q2, q3, q4⟩ := mem_part hc
          have := h4 q q1 q2
          unfold NL at this
          rw [getD_list, q4] at this
          omega
    · refine .inr ⟨h2, ?_⟩
      unfold spec2
      have e := crlfL_skip (text.toList.drop s) [] fun c hc => ?_
      · simpa [crlfL] using e
      · obtain ⟨i, hi, rfl⟩ := List.getElem_of_mem hc
        rw [List.length_drop] at hi
        have hq : s + i < text.toList.length := by omega
        have := h1 (s + i) (by omega) (by simpa using hq)
        unfold NL at this
        rw [getD_list] at this
        rw [List.getElem_drop]
        have e2 : text.toList.getD (s + i) 0 = text.toList[s + i] := (by unfold List.getD; rw [List.getElem?_eq_getElem hq]; rfl)
        rw [e2] at this
        omega

noncomputable def dotL : Bool → List Nat → List Nat
  | _, [] => []
  | b, c :: r => (if b = true ∧ c = 46 then [46, 46] else [c]) ++ dotL (c == 10) r
theorem dotL_len : ∀ (l : List Nat) (b : Bool), (dotL b l).length ≤ 2 * l.length
  | [], _ => by simp [dotL]
  | c :: r, b => by
    have := dotL_len r (c == 10)
    rw [dotL, List.length_append]
    split <;> simp <;> omega
def bolAt (text : Array Nat) (s : Nat) : Bool := s == 0 || text.getD (s - 1) 0 == 10
theorem bolAt_iff {text : Array Nat} {s : Nat} : bolAt text s = true ↔ BOL text s := by
  unfold bolAt BOL; simp
theorem bolAt_succ (text : Array Nat) (s : Nat) : bolAt text (s + 1) = (text.toList.getD s 0 == 10) := by
  unfold bolAt; simp
def spec1 (text : Array Nat) (s : Nat) : List Nat := dotL (bolAt text s) (text.toList.drop s)
theorem spec1_miss {text : Array Nat} {s : Nat} (hs : s < text.size) (h : ¬ HIT text s) : spec1 text s = text.toList.getD s 0 :: spec1 text (s + 1) := by
  unfold spec1
  rw [drop_cons (by simpa using hs), dotL, bolAt_succ, if_neg]
  · rfl
  · rintro ⟨a, b⟩
    exact h ⟨bolAt_iff.mp a, by rw [getD_list]; exact b⟩
theorem spec1_hit {text : Array Nat} {s : Nat} (hs : s < text.size) (h : HIT text s) : spec1 text s = 46 :: 46 :: spec1 text (s + 1) := by
  unfold spec1
  rw [drop_cons (by simpa using hs), dotL, bolAt_succ, if_pos]
  · rfl
  · exact ⟨bolAt_iff.mpr h.1, by rw [← getD_list]; exact h.2⟩
theorem spec1_skip {text : Array Nat} : ∀ (n s : Nat), s + n ≤ text.size → (∀ q, s ≤ q → q < s + n → ¬ HIT text q) → spec1 text s = (text.toList.drop s).take n ++ spec1 text (s + n)
  | 0, s, _, _ => by simp
  | n + 1, s, h, hno => by
    rw [spec1_miss (by omega) (hno s (Nat.le_refl _) (by omega)), spec1_skip n (s + 1) (by omega) fun q a b => hno q (by omega) (by omega), drop_cons (l := text.toList) (p := s) (by simpa using (show s < text.size by omega)), List.take_succ_cons, List.cons_append]
    rw [show s + 1 + n = s + (n + 1) by omega]
theorem subSpec1 : SubSpec re1 [46, 46] spec1 where
  len text := by
    have := dotL_len text.toList (bolAt text 0)
    simpa [spec1] using this
  step text s hs := by
    obtain ⟨k, hk, h⟩ := search1 text s hs
    refine ⟨k, by omega, ?_⟩
    rcases h with ⟨p, h1, h2, h3, h4, h5, h6, h7⟩ | ⟨h1, h2⟩
    · refine .inl ⟨p, p + 1, h1, by omega, by omega, h5, h6, h7, ?_⟩
      have e := spec1_skip (text := text) (p - s) s (by omega) fun q a b => h4 q a (by omega)
      rw [e, show s + (p - s) = p by omega, spec1_hit h2 h3]
      simp
    · refine .inr ⟨h2, ?_⟩
      have e := spec1_skip (text := text) (text.size - s) s (by omega) fun q a b => h1 q a (by omega)
      rw [e, show s + (text.size - s) = text.size by omega]
      unfold spec1
      rw [show text.toList.drop text.size = [] from List.drop_eq_nil_of_le (by simp), dotL, List.append_nil, List.take_of_length_le (by simp)]
end MyLaw
end
end
section
open PySem PySem.Spec PySem.Calls PySem.W PySem.W.X PyProof.Rows
noncomputable section
namespace MyLaw
def crlfS (x : Str) : Str := ⟨(crlfL x.cps.toList).toArray⟩
def dotS (x : Str) : Str := ⟨(dotL true x.cps.toList).toArray⟩
def quoteS (x : Str) : Str := dotS (crlfS x)
theorem spec2_zero (x : Str) : (⟨(spec2 x.cps 0).toArray⟩ : Str) = crlfS x := rfl
theorem spec1_zero (x : Str) : (⟨(spec1 x.cps 0).toArray⟩ : Str) = dotS x := rfl
theorem crlfS_len (x : Str) : (crlfS x).cps.size ≤ 2 * x.cps.size := by
  have := crlfL_len _ x.cps.toList (Nat.le_refl _)
  simpa [crlfS] using this
theorem dotS_len (x : Str) : (dotS x).cps.size ≤ 2 * x.cps.size := by
  have := dotL_len x.cps.toList true
  simpa [dotS] using this
section
variable {w : World} {A : Around} {E : Value → Shared → Prop} {s : Shared} {h₀ : Heap} {L : Addr} {m : Str → Option Value} {news : List (Addr × Obj)}
theorem subM {a : Addr} {pl : Sem Bool} {Q : Value × List Value → Shared → Prop} (F : Fr h₀ L s.heap m) (X : (KK w.params).In h₀) (ha : a = 135 ∨ a = 140) (h : Q (.builtin "re.Pattern.sub", [.ref a]) s) : wpAny (model PP w) A (getMethod (.ref a) (Str.ofString "sub") pl) Q E s := by
  rcases ha with rfl | rfl
  · have ho := (X.keeps F.keep) 135 _ rfl
    exact getMethod_builtin ⟨_, ho, rfl⟩ plainAttrs_pat slot_sub type_sub (fun b e => by cases e; exact ⟨_, ho, rfl⟩) h
  · have ho := (X.keeps F.keep) 140 _ rfl
    exact getMethod_builtin ⟨_, ho, rfl⟩ plainAttrs_pat slot_sub type_sub (fun b e => by cases e; exact ⟨_, ho, rfl⟩) h
theorem sub2_K {x : Str} {tr tx : Tok} {Q : Value → Shared → Prop} (F : Fr h₀ L s.heap m) (X : (KK w.params).In h₀) (N : News h₀ L s.heap news) (hx : x.cps.size ≤ 100000)
    (h : ∀ h' t tk, Fr h₀ L h' m → News h₀ L h' news → Q (.str (crlfS x) t) { s with heap := h', toks := tk }) :
    wpAny (model PP w) A (call (.builtin "re.Pattern.sub") [.ref 140, .str (Str.ofString "\r\n") tr, .str x tx]) Q E s := by
  have K := X.keeps F.keep
  refine sub_call subSpec2 hx (by decide +kernel) (by decide +kernel) (K 140 _ rfl) (K 139 _ rfl) rfl (by decide +kernel) fun h' t tk hk => ?_
  rw [spec2_zero]
  exact h h' t tk (Fr.keeps F hk) (News.grown N hk)
theorem sub1_K {x : Str} {tr tx : Tok} {Q : Value → Shared → Prop} (F : Fr h₀ L s.heap m) (X : (KK w.params).In h₀) (N : News h₀ L s.heap news) (hx : x.cps.size ≤ 100000)
    (h : ∀ h' t tk, Fr h₀ L h' m → News h₀ L h' news → Q (.str (dotS x) t) { s with heap := h', toks := tk }) :
    wpAny (model PP w) A (call (.builtin "re.Pattern.sub") [.ref 135, .str (Str.ofString "..") tr, .str x tx]) Q E s := by
  have K := X.keeps F.keep
  refine sub_call subSpec1 hx (by decide +kernel) (by decide +kernel) (K 135 _ rfl) (K 134 _ rfl) rfl (by decide +kernel) fun h' t tk hk => ?_
  rw [spec1_zero]
  exact h h' t tk (Fr.keeps F hk) (News.grown N hk)
end
section
variable {w : World} {mean : ExcName → Option Value} {mg mb : Str → Option Value} {news : List (Addr × Obj)} {dp un : Nat} {gd : Option (List Code)} {cn : Str} {cs : Scope} {a : Addr} {ccd : Value} {cl : List (Str × Addr)} {outer : List Env} {A₀ : Around} {base h₀ : Heap} {L : Addr} {m : Str → Option Value} {s : Shared} {Q E : Value → Shared → Prop}
theorem quote_use {x : Str} {tn : Tok} (hx : x.cps.size ≤ 40000) (B : Below A₀ base outer h₀) (F : Fr h₀ L s.heap m) (X : (KK w.params).In h₀) (N : News h₀ L s.heap news) (T : Top VV (looseW VV LO) mean mg mb h₀) (hk : cs.kind = .function) (hd : dp + 1 < recursionLimit) (hu : un + 8 < cLine)
    (hret : ∀ t h' tk', Fr h₀ L h' m → News h₀ L h' news → Q (.str (quoteS x) t) { s with heap := h', toks := tk' }) :
    wpAny (model PP w) (ktrTop dp un gd cn cs L a ccd cl outer) (call (.ref 147) [.str x tn]) Q E s := by
  have cbI : CbIn 147 := CbIn.mk
  refine wpAny_call ?_
  k_dflt cell_enter
  generalize s.toks + List.length _ = tk0
  repeat' (first | (k_here; (with_reducible show wpAny _ _ (getMethod (Value.ref _) (Str.ofString "sub") _) _ _ _); k_dflt (first | (refine' subM ?k1 ?k2 (.inl rfl) ?_; (case k1 => k_asm); (case k2 => k_asm)) | (refine' subM ?k1 ?k2 (.inr rfl) ?_; (case k1 => k_asm); (case k2 => k_asm)))) | (k_unfold; (try dsimp only)) | (k_end; wrow_close) | walk1 | (dsimp only) | (leave1; (try dsimp only)))
  refine sub2_K (by k_asm) (by k_asm) (by k_asm) (by omega) fun h8 t8 tk8 F8 N8 => ?_
  dsimp only
  repeat' (first | (k_here; (with_reducible show wpAny _ _ (getMethod (Value.ref _) (Str.ofString "sub") _) _ _ _); k_dflt (first | (refine' subM ?k1 ?k2 (.inl rfl) ?_; (case k1 => k_asm); (case k2 => k_asm)) | (refine' subM ?k1 ?k2 (.inr rfl) ?_; (case k1 => k_asm); (case k2 => k_asm)))) | (k_unfold; (try dsimp only)) | (k_end; wrow_close) | walk1 | (dsimp only) | (leave1; (try dsimp only)))
  refine sub1_K (by k_asm) (by k_asm) (by k_asm) (by have := crlfS_len x; omega) fun h7 t7 tk7 F7 N7 => ?_
  dsimp only
  repeat' (first | (k_here; (with_reducible show wpAny _ _ (getMethod (Value.ref _) (Str.ofString "sub") _) _ _ _); k_dflt (first | (refine' subM ?k1 ?k2 (.inl rfl) ?_; (case k1 => k_asm); (case k2 => k_asm)) | (refine' subM ?k1 ?k2 (.inr rfl) ?_; (case k1 => k_asm); (case k2 => k_asm)))) | (k_unfold; (try dsimp only)) | (k_end; wrow_close) | walk1 | (dsimp only) | (leave1; (try dsimp only)))
  exact hret _ _ _ (by k_asm) (by k_asm)
end
end MyLaw
end
end
section
open PySem PySem.Spec PySem.Calls PySem.W PySem.W.X PyProof.Rows
noncomputable section
namespace MyLaw
def prepL (pre : List Int) : List Str := pre.filterMap fun n => if b1 n.toNat then none else some (foldC n.toNat)
theorem prepL_in {pre : List Int} {n : Nat} {kept : List Str} (h : kept = prepL pre) (hb : b1 n = true) : kept = prepL (pre ++ [(n : Int)]) := by
  subst h; unfold prepL; rw [List.filterMap_append]; simp [hb]
theorem prepL_out {pre : List Int} {n : Nat} {kept : List Str} (h : kept = prepL pre) (hb : b1 n = false) : kept ++ [foldC n] = prepL (pre ++ [(n : Int)]) := by
  subst h; unfold prepL; rw [List.filterMap_append]; simp [hb]
def prepS (x : Str) : Str := ⟨(catL (prepL (KStt.codes x))).toArray⟩
section
variable {w : World} {mean : ExcName → Option Value} {mg mb : Str → Option Value} {news : List (Addr × Obj)} {dp un : Nat} {gd : Option (List Code)} {cn : Str} {cs : Scope} {a : Addr} {ccd : Value} {cl : List (Str × Addr)} {outer : List Env} {A₀ : Around} {base h₀ : Heap} {L : Addr} {m : Str → Option Value} {s : Shared} {Q E : Value → Shared → Prop}
theorem prepL_sum (l : List Int) (h : ∀ c ∈ l, (foldC c.toNat).length ≤ 4) : ((prepL l).map (·.length)).sum ≤ 4 * l.length := by
  unfold prepL
  induction l with
  | nil => simp
  | cons a r ih =>
    have ih := ih fun c hc => h c (.tail _ hc)
    have := h a (.head _)
    rw [List.filterMap_cons]
    by_cases hb : b1 a.toNat = true
    · simp only [hb, if_true, List.length_cons]; omega
    · simp only [hb, Bool.false_eq_true, if_false, List.map_cons, List.sum_cons, List.length_cons]
      omega
theorem prep_use {x : Str} {tn : Tok} (hx : x.cps.size ≤ 40000) (hx4 : ∀ c ∈ KStt.codes x, (foldC c.toNat).length ≤ 4) (B : Below A₀ base outer h₀) (F : Fr h₀ L s.heap m) (X : (KK w.params).In h₀) (N : News h₀ L s.heap news) (T : Top VV (looseW VV LO) mean mg mb h₀) (hk : cs.kind = .function) (hd : dp + 3 < recursionLimit) (hu : un + 30 < cLine)
    (hret : ∀ t h' tk', Fr h₀ L h' m → News h₀ L h' news → Q (.str (prepS x) t) { s with heap := h', toks := tk' }) :
    wpAny (model PP w) (ktrTop dp un gd cn cs L a ccd cl outer) (call (.ref 168) [.str x tn]) Q E s := by
  have cbI : CbIn 168 := CbIn.mk
  refine wpAny_call ?_
  k_dflt cell_enter
  generalize s.toks + List.length _ = tk0
  k_with "pyIter str" => fail "stop"
  repeat' (first | (k_here; (with_reducible show wpAny _ _ (call (Value.ref 95) [Value.str _ _]) _ _ _); k_dflt (refine' mapb3_use ?k1 ?k2 ?k3 ?k4 ?k5 ?k6 ?k7 ?k8 ?_; (case k1 => k_asm); (case k2 => k_asm); (case k3 => k_asm); (case k4 => k_asm); (case k5 => k_asm); (case k6 => first | exact rfl | assumption); (case k7 => ktr_room); (case k8 => ktr_units)); intro t9 h9 tk9 F9 N9; (try dsimp only); (try k_fold)) | (k_here; (with_reducible show wpAny _ _ (call (Value.ref 49) [Value.str _ _]) _ _ _); k_dflt (refine' inb1_use ?k1 ?k2 ?k3 ?k4 ?k5 ?k6 ?k7 ?k8 ?_; (case k1 => k_asm); (case k2 => k_asm); (case k3 => k_asm); (case k4 => k_asm); (case k5 => k_asm); (case k6 => first | exact rfl | assumption); (case k7 => ktr_room); (case k8 => ktr_units)); intro h9 tk9 F9 N9; (try dsimp only); (try k_fold)) | (k_unfold; (try dsimp only)) | (k_end; wrow_close) | walk1 | (dsimp only) | (leave1; (try dsimp only)))
  rename_i l' hA hl1 h' F' N'
  refine KStt.kst_text (σ := List Value × Nat) (fun c => (l', W.listOf c.1.toArray c.2) :: news) (fun _ => [(Str.ofString "kept", .ref l')]) (fun _ => True) [Str.ofString "held"]
    (fun pre c => c.1.length ≤ pre.length ∧ ∃ ss, StrsAre c.1 ss ∧ ss = prepL pre) ([], 0) rfl F' N' trivial ?kk ⟨Nat.le_refl 0, [], .nil, rfl⟩ ?_ ?_
  case kk =>
    intro p hp
    rcases List.mem_cons.mp hp with rfl | hp
    · rfl
    · exact absurd hp (List.not_mem_nil)
  · rintro ⟨vs, k⟩ pre post n t u h tk own hq hoff _ ⟨hlen, ss, hss, hse⟩ F2 N2
    dsimp only [kstB] at F2
    dsimp only at N2 hoff
    clear F' N'
    rw [List.cons_append] at N2
    dsimp only at hlen
    have hsz : vs.toArray.size ≤ 40000 := by
      have h1 := congrArg List.length hq
      have h2 : (KStt.codes x).length = x.cps.size := KStt.codes_length x
      simp only [List.length_append, List.length_cons] at h1
      simp only [List.size_toArray]
      omega
    repeat' (first | (k_here; (with_reducible show wpAny _ _ (call (Value.ref 95) [Value.str _ _]) _ _ _); k_dflt (refine' mapb3_use ?k1 ?k2 ?k3 ?k4 ?k5 ?k6 ?k7 ?k8 ?_; (case k1 => k_asm); (case k2 => k_asm); (case k3 => k_asm); (case k4 => k_asm); (case k5 => k_asm); (case k6 => first | exact rfl | assumption); (case k7 => ktr_room); (case k8 => ktr_units)); intro t9 h9 tk9 F9 N9; (try dsimp only); (try k_fold)) | (k_here; (with_reducible show wpAny _ _ (call (Value.ref 49) [Value.str _ _]) _ _ _); k_dflt (refine' inb1_use ?k1 ?k2 ?k3 ?k4 ?k5 ?k6 ?k7 ?k8 ?_; (case k1 => k_asm); (case k2 => k_asm); (case k3 => k_asm); (case k4 => k_asm); (case k5 => k_asm); (case k6 => first | exact rfl | assumption); (case k7 => ktr_room); (case k8 => ktr_units)); intro h9 tk9 F9 N9; (try dsimp only); (try k_fold)) | (k_unfold; (try dsimp only)) | (k_end; wrow_close) | walk1 | (dsimp only) | (leave1; (try dsimp only)))
    · have hb' : b1 n = false := by
        rename (b1 n == false) = true => hb
        simpa using hb
      rename News _ _ _ _ => nE
      refine append_K (by k_asm) nE (Upd.head ?ua) (fun h5 F5 N5 => ?_) (by rw [sizeLine_eq]; omega)
      case ua =>
        intro p hp
        rcases List.mem_append.mp hp with hp | hp
        · exact Nat.ne_of_lt (hl1 p hp)
        · exact hoff p hp l' (List.Mem.head _)
      clear nE
      repeat' (first | (k_here; (with_reducible show wpAny _ _ (call (Value.ref 95) [Value.str _ _]) _ _ _); k_dflt (refine' mapb3_use ?k1 ?k2 ?k3 ?k4 ?k5 ?k6 ?k7 ?k8 ?_; (case k1 => k_asm); (case k2 => k_asm); (case k3 => k_asm); (case k4 => k_asm); (case k5 => k_asm); (case k6 => first | exact rfl | assumption); (case k7 => ktr_room); (case k8 => ktr_units)); intro t9 h9 tk9 F9 N9; (try dsimp only); (try k_fold)) | (k_here; (with_reducible show wpAny _ _ (call (Value.ref 49) [Value.str _ _]) _ _ _); k_dflt (refine' inb1_use ?k1 ?k2 ?k3 ?k4 ?k5 ?k6 ?k7 ?k8 ?_; (case k1 => k_asm); (case k2 => k_asm); (case k3 => k_asm); (case k4 => k_asm); (case k5 => k_asm); (case k6 => first | exact rfl | assumption); (case k7 => ktr_room); (case k8 => ktr_units)); intro h9 tk9 F9 N9; (try dsimp only); (try k_fold)) | (k_unfold; (try dsimp only)) | (k_end; wrow_close) | walk1 | (dsimp only) | (leave1; (try dsimp only)))
      rename News _ _ _ _ => nE
      (try simp only [List.push_toArray] at nE)
      refine kst_end (vs ++ [_], k + 1) (by assumption) nE (by kst_in) (by intro p hp; kst_mem) (by rfl) trivial (by kst_all) (by kst_same) ?_
      exact ⟨by simp only [List.length_append, List.length_cons, List.length_nil]; omega, _, strsAre_append hss (.cons _ _ .nil), prepL_out hse hb'⟩
    · exact absurd (by assumption) (by simp_all)
    · rename_i hb1 hb2
      have hb' : b1 n = true := by simpa using hb2
      rename News _ _ _ _ => nE
      refine kst_end (vs, k) (by assumption) nE (by kst_in) (by intro p hp; kst_mem) (by rfl) trivial (by kst_all) (by kst_same) ?_
      exact ⟨by simp only [List.length_append, List.length_cons, List.length_nil]; omega, _, hss, prepL_in hse hb'⟩
  · rintro ⟨vs, k⟩ u h tk _ ⟨hlen, ss, hss, hse⟩ F2 N2
    dsimp only [kstB] at F2
    dsimp only at N2
    clear F' N'
    repeat' (first | (k_here; (with_reducible show wpAny _ _ (call (Value.ref 95) [Value.str _ _]) _ _ _); k_dflt (refine' mapb3_use ?k1 ?k2 ?k3 ?k4 ?k5 ?k6 ?k7 ?k8 ?_; (case k1 => k_asm); (case k2 => k_asm); (case k3 => k_asm); (case k4 => k_asm); (case k5 => k_asm); (case k6 => first | exact rfl | assumption); (case k7 => ktr_room); (case k8 => ktr_units)); intro t9 h9 tk9 F9 N9; (try dsimp only); (try k_fold)) | (k_here; (with_reducible show wpAny _ _ (call (Value.ref 49) [Value.str _ _]) _ _ _); k_dflt (refine' inb1_use ?k1 ?k2 ?k3 ?k4 ?k5 ?k6 ?k7 ?k8 ?_; (case k1 => k_asm); (case k2 => k_asm); (case k3 => k_asm); (case k4 => k_asm); (case k5 => k_asm); (case k6 => first | exact rfl | assumption); (case k7 => ktr_room); (case k8 => ktr_units)); intro h9 tk9 F9 N9; (try dsimp only); (try k_fold)) | (k_unfold; (try dsimp only)) | (k_end; wrow_close) | walk1 | (dsimp only) | (leave1; (try dsimp only)))
    refine join_list (by is_list) hss ?_ fun t8 tk8 => ?_
    · subst hse
      have h1 := prepL_sum (KStt.codes x) hx4
      rw [KStt.codes_length] at h1
      have h2 : (Str.ofString "").length = 0 := rfl
      rw [h2]
      unfold Str.length at h1 ⊢
      omega
    · subst hse
      rw [show Str.ofString "" = (⟨#[]⟩ : Str) from rfl, join_nil]
      dsimp only
      repeat' (first | (k_here; (with_reducible show wpAny _ _ (call (Value.ref 95) [Value.str _ _]) _ _ _); k_dflt (refine' mapb3_use ?k1 ?k2 ?k3 ?k4 ?k5 ?k6 ?k7 ?k8 ?_; (case k1 => k_asm); (case k2 => k_asm); (case k3 => k_asm); (case k4 => k_asm); (case k5 => k_asm); (case k6 => first | exact rfl | assumption); (case k7 => ktr_room); (case k8 => ktr_units)); intro t9 h9 tk9 F9 N9; (try dsimp only); (try k_fold)) | (k_here; (with_reducible show wpAny _ _ (call (Value.ref 49) [Value.str _ _]) _ _ _); k_dflt (refine' inb1_use ?k1 ?k2 ?k3 ?k4 ?k5 ?k6 ?k7 ?k8 ?_; (case k1 => k_asm); (case k2 => k_asm); (case k3 => k_asm); (case k4 => k_asm); (case k5 => k_asm); (case k6 => first | exact rfl | assumption); (case k7 => ktr_room); (case k8 => ktr_units)); intro h9 tk9 F9 N9; (try dsimp only); (try k_fold)) | (k_unfold; (try dsimp only)) | (k_end; wrow_close) | walk1 | (dsimp only) | (leave1; (try dsimp only)))
      exact hret _ _ _ (by k_asm) (by refine' cb_drop ?cbN ?cbS; (case cbN => assumption); (case cbS => kcj_all))
end
end MyLaw
end
end
section
open PySem PySem.Spec PySem.Calls PySem.W PySem.W.X PyProof.Rows
noncomputable section
namespace MyLaw
theorem runs_up {M : Model} {Γ : PySem.Ctx} {p : Pos} {t : Sem Fin} {fs : List Frame} {s s' : Shared} {e : End} (h : Runs M Γ p t fs s e s') : s.toks ≤ s'.toks := by
  induction h with
  | done => exact Nat.le_refl _
  | raise => exact Nat.le_refl _
  | yield => exact Nat.le_refl _
  | again _ _ ih => exact ih
  | rule _ ih => exact ih
  | «at» _ ih => exact ih
  | load _ _ ih => exact ih
  | update _ _ ih => exact ih
  | loadIfAlive _ ih => exact ih
  | point _ ih => exact ih
  | alloc _ ih => exact ih
  | fresh _ ih => exact Nat.le_trans (Nat.le_succ _) ih
  | ask _ ih => exact ih
  | choose _ _ ih => exact ih
  | os _ ih => exact ih
  | handled _ ih => exact ih
  | genState _ _ ih => exact ih
  | stack _ ih => exact ih
  | thread _ ih => exact ih
  | newGen _ ih => exact ih
  | call _ _ ih1 ih2 => exact Nat.le_trans ih1 ih2
  | callSusp _ ih => exact ih
  | resumeFresh _ _ _ _ ih1 ih2 => exact Nat.le_trans ih1 ih2
  | resumeSuspended _ _ _ _ ih1 ih2 => exact Nat.le_trans ih1 ih2
  | resumeJustStarted _ _ _ ih => exact ih
  | resumeThrowFresh _ _ ih => exact ih
  | resumeRunning _ _ ih => exact ih
  | resumeFinished _ _ ih => exact ih
  | segRet _ _ ih1 ih2 => exact Nat.le_trans ih1 ih2
  | segGen _ _ ih1 ih2 => exact Nat.le_trans ih1 ih2
  | segSuspOut _ _ ih => exact ih
  | segSuspGen _ _ _ _ ih1 ih2 => exact Nat.le_trans ih1 ih2
theorem code_up {M : Model} {Γ : PySem.Ctx} {R : Result → Shared → Prop} {p : Pos} {s : Shared} (h : wpCode M Γ (fun r s' => s.toks ≤ s'.toks → R r s') p s) : wpCode M Γ R p s := by
  obtain ⟨r, s', hr, h'⟩ := h
  exact ⟨r, s', hr, h' (runs_up hr)⟩
theorem wp_up {α : Type} {M : Model} {Γ : PySem.Ctx} {t : Sem α} : ∀ {Q : α → Pos → Shared → Prop} {E : Value → Pos → Shared → Prop} {p : Pos} {s : Shared} {n : Nat},
    n ≤ s.toks → Sem.wp M Γ t (fun v p' s' => n ≤ s'.toks → Q v p' s') (fun e p' s' => n ≤ s'.toks → E e p' s') p s → Sem.wp M Γ t Q E p s := by
  induction t with
  | pure a => intro Q E p s n hn h; rw [Sem.wp] at h ⊢; exact h hn
  | raise a => intro Q E p s n hn h; rw [Sem.wp] at h ⊢; exact h hn
  | unsupported | finish | yield | fork | await | register => intro Q E p s n hn h; rw [Sem.wp] at h; exact h.elim
  | rule t k ih => intro Q E p s n hn h; rw [Sem.wp] at h ⊢; exact ih _ hn h
  | «at» q k ih => intro Q E p s n hn h; rw [Sem.wp] at h ⊢; exact ih _ hn h
  | load a q k ih => intro Q E p s n hn h; rw [Sem.wp] at h ⊢; obtain ⟨o, ho, h⟩ := h; exact ⟨o, ho, ih _ hn h⟩
  | update a q f k ih => intro Q E p s n hn h; rw [Sem.wp] at h ⊢; exact ⟨h.1, ih _ hn h.2⟩
  | loadIfAlive a k ih => intro Q E p s n hn h; rw [Sem.wp] at h ⊢; exact ih _ hn h
  | point l k ih => intro Q E p s n hn h; rw [Sem.wp] at h ⊢; exact ih _ hn h
  | alloc o k ih => intro Q E p s n hn h; rw [Sem.wp] at h ⊢; exact ih _ hn h
  | fresh k ih => intro Q E p s n hn h; rw [Sem.wp] at h ⊢; exact ih _ (Nat.le_trans hn (Nat.le_succ _)) h
  | ask k ih => intro Q E p s n hn h; rw [Sem.wp] at h ⊢; exact ih _ hn h
  | choose src m k ih => intro Q E p s n hn h; rw [Sem.wp] at h ⊢; exact ⟨h.1, ih _ hn h.2⟩
  | os q l k ih => intro Q E p s n hn h; rw [Sem.wp] at h ⊢; exact ih _ hn h
  | call c hd g l k ih =>
    intro Q E p s n hn h
    rw [Sem.wp] at h ⊢
    obtain ⟨r, s', hr, h'⟩ := h
    exact ⟨r, s', hr, ih _ (Nat.le_trans hn (runs_up hr)) h'⟩
  | handled own k ih => intro Q E p s n hn h; rw [Sem.wp] at h ⊢; exact ih _ hn h
  | genState g k ih => intro Q E p s n hn h; rw [Sem.wp] at h ⊢; obtain ⟨o, ho, h⟩ := h; exact ⟨o, ho, ih _ hn h⟩
  | newGen c k ih => intro Q E p s n hn h; rw [Sem.wp] at h ⊢; exact ih _ hn h
  | resume g r l k ih =>
    intro Q E p s n hn h
    rw [Sem.wp] at h ⊢
    obtain ⟨res, s', hw, h⟩ := h
    refine ⟨res, s', hw, ih _ (Nat.le_trans hn ?_) h⟩
    unfold Wakes at hw
    split at hw
    · exact hw.elim
    · split at hw
      · obtain ⟨e₁, s₁, hr, _, _, rfl⟩ := hw; have hz := runs_up hr; exact hz
      · rw [hw.2]; exact Nat.le_refl _
      · rw [hw.2]; exact Nat.le_refl _
    · obtain ⟨e₁, s₁, hr, _, _, rfl⟩ := hw; have hz := runs_up hr; exact hz
    · rw [hw.2]; exact Nat.le_refl _
    · rw [hw.2]; exact Nat.le_refl _
  | stack k ih => intro Q E p s n hn h; rw [Sem.wp] at h ⊢; exact ih _ hn h
  | thread k ih => intro Q E p s n hn h; rw [Sem.wp] at h ⊢; exact ih _ hn h
theorem any_up {α : Type} {M : Model} {A : Around} {t : Sem α} {Q : α → Shared → Prop} {E : Value → Shared → Prop} {s : Shared}
    (h : wpAny M A t (fun v s' => s.toks ≤ s'.toks → Q v s') (fun e s' => s.toks ≤ s'.toks → E e s') s) : wpAny M A t Q E s :=
  fun Γ p hΓ => wp_up (Nat.le_refl _) (h Γ p hΓ)
end MyLaw
end
end
section
open PySem PySem.Spec PySem.Calls PySem.W PySem.W.X PyProof.Rows
noncomputable section
namespace MyLaw
section
variable {prog : Program} {w : World} {A : Around} {E : Value → Shared → Prop} {s : Shared}
theorem next_sign {it : Addr} {x : Str} {t : Tok} {i c : Nat} {Q : Value → Shared → Prop} (hit : s.heap.IsStrIter it (strIterType x) x t i) (hx : x.cps[i]? = some c)
    (hQ : ∀ h', h'.IsStrIter it (strIterType x) x t (i + 1) → Heap.SameBut it s.heap h' → Q (.str ⟨#[c]⟩ s.toks) { s with heap := h', toks := s.toks + 1 }) :
    wpAny (model prog w) A (Builtin.SmallTypes.nextOf (.ref it)) Q E s := by
  unfold strIterType at hit hQ
  by_cases ha : (x.cps.all fun y => decide (y < 128)) = true
  · rw [if_pos ha] at hit hQ
    exact wpAny_nextOf_ascii_item hit hx hQ
  · rw [if_neg ha] at hit hQ
    exact wpAny_nextOf_wide_item hit hx hQ
theorem sign_end {it : Addr} {x : Str} {t : Tok} {i : Nat} {Q : Value → Shared → Prop} (hh : A.handled = none) (hit : s.heap.IsStrIter it (strIterType x) x t i) (hx : x.cps[i]? = none)
    (hE : ∀ h' e, Heap.ExtBut it s.heap h' → (∃ o, h'.get? e = some o ∧ o.cls = .type "StopIteration") → E (.ref e) { s with heap := h' }) :
    wpAny (model prog w) A (Builtin.SmallTypes.nextOf (.ref it)) Q E s := by
  unfold strIterType at hit
  by_cases ha : (x.cps.all fun y => decide (y < 128)) = true
  · rw [if_pos ha] at hit
    exact wpAny_nextOf_ascii_end hh hit hx hE
  · rw [if_neg ha] at hit
    exact wpAny_nextOf_wide_end hh hit hx hE
theorem enum_draw {e it : Addr} {x : Str} {t : Tok} {i c : Nat} {old : Value} {Q : Value → Shared → Prop} (he : IsEnum s.heap e it i old) (hit : s.heap.IsStrIter it (strIterType x) x t i) (hx : x.cps[i]? = some c) (hne : e ≠ it)
    (hQ : ∀ h', IsEnumOut h' e it ((i : Int) + 1) (.str ⟨#[c]⟩ s.toks) s.heap.objs.size → h'.IsStrIter it (strIterType x) x t (i + 1) →
      h'.get? s.heap.objs.size = some { cls := .type "tuple", data := .seq #[.int i (s.toks + 1), .str ⟨#[c]⟩ s.toks] } →
      (∀ b o, b ≠ e → b ≠ it → s.heap.get? b = some o → h'.get? b = some o) → Q (.ref s.heap.objs.size) { s with heap := h', toks := s.toks + 2 }) :
    wpAny (model prog w) A (Builtin.«enumerate.__next__» ⟨[.ref e], []⟩) (fun fin s' => ∃ v, fin = .done (.ret v) ∧ Q v s') E s := by
  have hel : e < s.heap.objs.size := Heap.lt_size he
  obtain ⟨hp, g, d, tk, os⟩ := s
  dsimp only at *
  show wpAny _ _ (field (.ref e) 2 >>= _) _ _ _
  refine wpAny_bind (wpAny_field he rfl (x := .ref it) rfl (wpAny_bind (next_sign hit hx fun h₁ it₁ k₁ => ?_)))
  have e₁ : IsEnum h₁ e it i old := (k₁.2 e hne).trans he
  show wpAny _ _ (field (.ref e) 3 >>= _) _ _ ⟨h₁, g, d, tk + 1, os⟩
  refine wpAny_bind (wpAny_field e₁ rfl (x := rawInt i) rfl ?_)
  show wpAny _ _ (field (.ref e) 4 >>= _) _ _ ⟨h₁, g, d, tk + 1, os⟩
  refine wpAny_bind (wpAny_field e₁ rfl (x := .none) rfl ?_)
  show wpAny _ _ (mkInt i >>= _) _ _ ⟨h₁, g, d, tk + 1, os⟩
  refine wpAny_bind (wpAny_mkInt ?_)
  show wpAny _ _ (setField (.ref e) 3 (rawInt ((i : Int) + 1)) >>= _) _ _ ⟨h₁, g, d, tk + 2, os⟩
  refine wpAny_bind (wpAny_setField_rec e₁ (by simp) fun h₂ e₂ k₂ => ?_)
  show wpAny _ _ (setField (.ref e) 4 .none >>= _) _ _ ⟨h₂, g, d, tk + 2, os⟩
  refine wpAny_bind (wpAny_setField_rec e₂ (by simp) fun h₃ e₃ k₃ => ?_)
  show wpAny _ _ (newTuple [.int i (tk + 1), .str ⟨#[c]⟩ tk] >>= _) _ _ ⟨h₃, g, d, tk + 2, os⟩
  refine wpAny_bind (wpAny_newTuple ?_)
  have z : h₃.objs.size = hp.objs.size := k₃.1.trans (k₂.1.trans k₁.1)
  have e₄ : IsEnum (h₃.push { cls := .type "tuple", data := .seq #[.int i (tk + 1), .str ⟨#[c]⟩ tk] }) e it ((i : Int) + 1) old := Heap.get?_push_of_some _ e₃
  have t₄ : (h₃.push { cls := .type "tuple", data := .seq #[.int i (tk + 1), .str ⟨#[c]⟩ tk] }).get? hp.objs.size = some { cls := .type "tuple", data := .seq #[.int i (tk + 1), .str ⟨#[c]⟩ tk] } := by
    have y := Heap.get?_push_size h₃ (o := { cls := .type "tuple", data := .seq #[.int i (tk + 1), .str ⟨#[c]⟩ tk] }) rfl
    rw [z] at y
    exact y
  have u₄ : ∀ b o, b ≠ e → b ≠ it → hp.get? b = some o → (h₃.push { cls := .type "tuple", data := .seq #[.int i (tk + 1), .str ⟨#[c]⟩ tk] }).get? b = some o :=
    fun b o p q y => Heap.get?_push_of_some _ (k₃.extBut b o p (k₂.extBut b o p (k₁.extBut b o q y)))
  have i₄ : (h₃.push { cls := .type "tuple", data := .seq #[.int i (tk + 1), .str ⟨#[c]⟩ tk] }).IsStrIter it (strIterType x) x t (i + 1) := by
    obtain ⟨o, ho, r⟩ := it₁
    exact ⟨o, Heap.get?_push_of_some _ (k₃.extBut _ o (Ne.symm hne) (k₂.extBut _ o (Ne.symm hne) ho)), r⟩
  show wpAny _ _ (Builtin.SmallTypes.ownedTupleIsFree (.ref e) >>= _) _ _ _
  rw [z]
  generalize h₃.push _ = h₄ at e₄ t₄ u₄ i₄ ⊢
  refine wpAny_bind ?_
  unfold Builtin.SmallTypes.ownedTupleIsFree
  refine wpAny_bind (wpAny_field e₄ rfl (x := .none) rfl (wpAny_pure ?_))
  simp only [if_true]
  refine wpAny_bind (wpAny_rule (wpAny_bind (wpAny_field e₄ rfl (x := old) rfl ?_)))
  refine wpAny_bind (wpAny_setField_rec e₄ (by simp) fun h₅ e₅ k₅ => ?_)
  refine wpAny_bind ?_
  unfold Builtin.SmallTypes.ownedTupleHandOut
  refine wpAny_bind (wpAny_setField_rec e₅ (by simp) fun h₆ e₆ k₆ => ?_)
  refine wpAny_setField_rec e₆ (by simp) fun h₇ e₇ k₇ => ?_
  have up : ∀ b o, b ≠ e → h₄.get? b = some o → h₇.get? b = some o := fun b o p y => k₇.extBut b o p (k₆.extBut b o p (k₅.extBut b o p y))
  refine wpAny_bind (wpAny_letGo (wpAny_pure ⟨_, rfl, hQ h₇ e₇ ?_ ?_ ?_⟩))
  · obtain ⟨o, ho, r⟩ := i₄
    exact ⟨o, up _ o (Ne.symm hne) ho, r⟩
  · exact up _ _ (Nat.ne_of_gt hel) t₄
  · exact fun b o p q y => up b o p (u₄ b o p q y)
theorem enum_next {e it : Addr} {x : Str} {t : Tok} {i c : Nat} {old : Value} {Q : Option Value → Shared → Prop} (he : IsEnum s.heap e it i old) (hit : s.heap.IsStrIter it (strIterType x) x t i) (hx : x.cps[i]? = some c) (hne : e ≠ it)
    (hQ : ∀ h', IsEnumOut h' e it ((i : Int) + 1) (.str ⟨#[c]⟩ s.toks) s.heap.objs.size → h'.IsStrIter it (strIterType x) x t (i + 1) →
      h'.get? s.heap.objs.size = some { cls := .type "tuple", data := .seq #[.int i (s.toks + 1), .str ⟨#[c]⟩ s.toks] } →
      (∀ b o, b ≠ e → b ≠ it → s.heap.get? b = some o → h'.get? b = some o) → Q (some (.ref s.heap.objs.size)) { s with heap := h', toks := s.toks + 2 }) :
    wpAny (model prog w) A (pyNext (.ref e)) Q E s := by
  have hT : s.TypeIs (.ref e) "enumerate" := ⟨_, he, rfl⟩
  unfold pyNext
  exact wpAny_bind (wpAny_attempt (wpAny_callSpecial?_slot (name := Str.ofString "__next__") hT F.slot_enumerate_next
    (wpAny_call_entry F.slot_enumerate_next hT F.entry_enumerate_next (enum_draw he hit hx hne fun h' a b c k => wpAny_pure (hQ h' a b c k)) (F.args_enumerate_next_1 _))))
theorem enum_end {e it : Addr} {x : Str} {t : Tok} {i : Nat} {k : Int} {old : Value} {Q : Option Value → Shared → Prop} (hh : A.in1.handled = none) (he : IsEnum s.heap e it k old) (hit : s.heap.IsStrIter it (strIterType x) x t i) (hx : x.cps[i]? = none)
    (hQ : ∀ h', Heap.ExtBut it s.heap h' → Q none { s with heap := h' }) : wpAny (model prog w) A (pyNext (.ref e)) Q E s := by
  have hT : s.TypeIs (.ref e) "enumerate" := ⟨_, he, rfl⟩
  unfold pyNext
  refine wpAny_bind (wpAny_attempt (wpAny_callSpecial?_slot (name := Str.ofString "__next__") hT F.slot_enumerate_next
    (wpAny_call_entry F.slot_enumerate_next hT F.entry_enumerate_next ?_ (F.args_enumerate_next_1 _))))
  show wpAny _ _ (field (.ref e) 2 >>= _) _ _ _
  refine wpAny_bind (wpAny_field he rfl (x := .ref it) rfl (wpAny_bind (sign_end hh hit hx fun h' y k' hy => ?_)))
  obtain ⟨o, ho, hc⟩ := hy
  exact wpAny_bind (wpAny_isInstance (T := "StopIteration") (b := true) ⟨o, ho, hc⟩ isSubtype_stop (wpAny_pure (hQ _ k')))
end
end MyLaw
end
end
section
open PySem PySem.Spec PySem.Calls PySem.W PySem.W.X PyProof.Rows
noncomputable section
namespace MyLaw
structure EnSt where
  h : Heap
  tk : Nat
  i : Nat
  old : Value
  vi : Option Value
  vc : Option Value
section
variable {prog : Program} {w : World} {A : Around} {s : Shared} {env : Env} {h₀ : Heap}
def twoM (m : Str → Option Value) (xi xc : Str) (vi vc : Option Value) : Str → Option Value := fun y => if y = xc then vc else if y = xi then vi else m y
theorem twoM_self (m : Str → Option Value) (xi xc : Str) : twoM m xi xc (m xi) (m xc) = m := by
  funext y
  unfold twoM
  by_cases h : y = xc
  · rw [if_pos h, h]
  · rw [if_neg h]
    by_cases h' : y = xi
    · rw [if_pos h', h']
    · rw [if_neg h']
theorem twoM_two (m : Str → Option Value) (xi xc : Str) (vi vc : Option Value) (a b : Value) : (fun y => if y = xc then some b else if y = xi then some a else twoM m xi xc vi vc y) = twoM m xi xc (some a) (some b) := by
  funext y
  unfold twoM
  by_cases h : y = xc
  · simp [h]
  · by_cases h' : y = xi <;> simp [h, h']
theorem enum_loop {R : Result → Shared → Prop} {xi xc : Str} {pk pv pt : Pos} {x1 : Nat} {body els : List Stmt} {e it : Addr} {x : Str} {t : Tok} {m : Str → Option Value}
    (hh : A.handled = none) (hxi : env.kindOf xi = some .local) (hxc : env.kindOf xc = some .local)
    (hp : (env.scope.kind == .class || (env.scope.kind == .module && env.locals != env.globals)) = false)
    (hne : e ≠ it) (hLe : env.locals ≠ e) (hLi : env.locals ≠ it) (he0 : h₀.get? e = none) (hi0 : h₀.get? it = none)
    (he : IsEnum s.heap e it 0 .none) (hit : s.heap.IsStrIter it (strIterType x) x t 0) (F : Fr h₀ env.locals s.heap m)
    (P : Nat → Prop) (P0 : P 0)
    (step : ∀ (i c : Nat) (u v : Tok) h tk, x.cps[i]? = some c → s.toks ≤ tk → s.toks ≤ u → P i → (∀ b o, b ≠ env.locals → b ≠ e → b ≠ it → s.heap.get? b = some o → h.get? b = some o) → Fr h₀ env.locals h (twoM m xi xc (some (.int i v)) (some (.str ⟨#[c]⟩ u))) →
      wpAny (model prog w) A (execs body env) (fun f s₃ => match f with
        | .next => P (i + 1) ∧ ∃ h' tk', tk ≤ tk' ∧ (∀ b o, h.get? b = some o → h'.get? b = some o) ∧ s₃ = { s with heap := h', toks := tk' }
        | .ret v => R (.ok (.ret v)) s₃
        | _ => False) (notedBy (model prog w) A env fun e s' => R (.error e) s') { s with heap := h, toks := tk })
    (fin : ∀ h tk vi vc, P x.cps.size → s.toks ≤ tk → (∀ b o, b ≠ env.locals → b ≠ e → b ≠ it → s.heap.get? b = some o → h.get? b = some o) → Fr h₀ env.locals h (twoM m xi xc vi vc) →
      wpAny (model prog w) A (execs els env) (fun f s₃ => R (.ok f) s₃) (notedBy (model prog w) A env fun e s' => R (.error e) s') { s with heap := h, toks := tk }) :
    codeAny (model prog w) A (.forLoop (.Tuple [.Name xi pk, .Name xc pv] x1 pt) (.ref e) body els env) R s := by
  have oldE : ∀ b o, h₀.get? b = some o → b ≠ e := fun b o y q => by rw [q, he0] at y; cases y
  have oldI : ∀ b o, h₀.get? b = some o → b ≠ it := fun b o y q => by rw [q, hi0] at y; cases y
  refine codeAny_forLoop_any
    (fun k s' => ∃ q9 : EnSt, s' = { s with heap := q9.h, toks := q9.tk } ∧ s.toks ≤ q9.tk ∧ IsEnum q9.h e it (q9.i : Nat) q9.old ∧ q9.h.IsStrIter it (strIterType x) x t q9.i ∧ Fr h₀ env.locals q9.h (twoM m xi xc q9.vi q9.vc) ∧ P q9.i ∧ (∀ b o, b ≠ env.locals → b ≠ e → b ≠ it → s.heap.get? b = some o → q9.h.get? b = some o) ∧ q9.i ≤ x.cps.size ∧ k = x.cps.size + 1 - q9.i) ?_ (x.cps.size + 1)
    ⟨⟨s.heap, s.toks, 0, .none, m xi, m xc⟩, rfl, Nat.le_refl _, he, hit, by rw [twoM_self]; exact F, P0, fun _ _ _ _ _ y => y, Nat.zero_le _, rfl⟩
  rintro k s' ⟨q9, P9⟩
  obtain ⟨H, tk, i, old, vi, vc⟩ := q9
  dsimp only at P9
  have es := P9.1
  have htk := P9.2.1
  have heH := P9.2.2.1
  have hiH := P9.2.2.2.1
  have FH := P9.2.2.2.2.1
  have hP := P9.2.2.2.2.2.1
  have hK := P9.2.2.2.2.2.2.1
  have hi := P9.2.2.2.2.2.2.2.1
  have ek := P9.2.2.2.2.2.2.2.2
  subst es
  subst ek
  clear P9
  have keep : ∀ h₁ : Heap, (∀ b o, b ≠ e → b ≠ it → H.get? b = some o → h₁.get? b = some o) → Fr h₀ env.locals h₁ (twoM m xi xc vi vc) := fun h₁ k₁ =>
    ⟨FH.ns.at' fun o y => k₁ _ o hLe hLi y, fun b o y => k₁ b o (oldE b o y) (oldI b o y) (FH.keep b o y), FH.above⟩
  by_cases hlt : i < x.cps.size
  · have hx : x.cps[i]? = some x.cps[i] := by simp [hlt]
    generalize x.cps[i] = c at hx
    refine enum_next heH hiH hx hne fun h₁ he₁ hi₁ ht₁ k₁ => ?_
    refine wpAny_letOwnedTupleGo_enum he₁ fun h₂ he₂ hs₂ => ?_
    replace hs₂ : Heap.SameBut e h₁ h₂ := hs₂
    have hTe : H.objs.size ≠ e := Nat.ne_of_gt (Heap.lt_size heH)
    have ht₂ : h₂.IsTuple H.objs.size #[.int i (tk + 1), .str ⟨#[c]⟩ tk] := ⟨_, hs₂.extBut _ _ hTe ht₁, rfl, _, rfl⟩
    refine wpAny_assign_Tuple hh ht₂ rfl rfl fun h₃ hx₃ => ?_
    replace hx₃ : Heap.ExtBut h₂.objs.size h₂ h₃ := hx₃
    have up₃ : ∀ b o, h₂.get? b = some o → h₃.get? b = some o := fun b o y => hx₃ b o (Nat.ne_of_lt (Heap.lt_size y)) y
    have F₃ := keep h₃ fun b o p q y => up₃ b o (hs₂.extBut b o p (k₁ b o p q y))
    show wpAny _ A (do holding [.str ⟨#[c]⟩ tk] (assign (.Name xi pk) env (.int i (tk + 1))); do holding [] (assign (.Name xc pv) env (.str ⟨#[c]⟩ tk)); pure ()) _ _ _
    refine wpAny_bind (wpAny_holding (wpAny_assign_Name (wpAny_storeName_local hxi F₃.ns (fun h₄ hn₄ hs₄ => ?_) hp)))
    replace hs₄ : Heap.SameBut env.locals h₃ h₄ := hs₄
    have F₄ := F₃.set hn₄ hs₄
    refine wpAny_bind (wpAny_holding (wpAny_assign_Name (wpAny_storeName_local hxc F₄.ns (fun h₅ hn₅ hs₅ => wpAny_pure ?_) hp)))
    replace hs₅ : Heap.SameBut env.locals h₄ h₅ := hs₅
    have F₅ := F₄.set hn₅ hs₅
    have e₅ : (fun y => if y = xc then some (Value.str ⟨#[c]⟩ tk) else if y = xi then some (.int i (tk + 1)) else twoM m xi xc vi vc y) = _ := twoM_two m xi xc vi vc (.int i (tk + 1)) (.str ⟨#[c]⟩ tk)
    rw [e₅] at F₅
    have up₅ : ∀ b o, b ≠ env.locals → h₂.get? b = some o → h₅.get? b = some o := fun b o p y => hs₅.extBut b o p (hs₄.extBut b o p (up₃ b o y))
    have he₅ : IsEnum h₅ e it ((i : Int) + 1) (.str ⟨#[c]⟩ tk) := up₅ _ _ (Ne.symm hLe) he₂
    have hi₅ : h₅.IsStrIter it (strIterType x) x t (i + 1) := by
      obtain ⟨o, ho, r⟩ := hi₁
      exact ⟨o, up₅ _ o (Ne.symm hLi) (hs₂.extBut _ o (Ne.symm hne) ho), r⟩
    have K₅ : ∀ b o, b ≠ env.locals → b ≠ e → b ≠ it → s.heap.get? b = some o → h₅.get? b = some o := fun b o p q r y => up₅ b o p (hs₂.extBut b o q (k₁ b o q r (hK b o p q r y)))
    refine wpAny_mono (step i c tk (tk + 1) h₅ _ hx ?ht5 htk hP K₅ F₅) (fun f s₃ h₆ => ?_) fun _ _ y => y
    case ht5 => dsimp only; omega
    cases f with
    | ret v => exact h₆
    | brk => exact h₆.elim
    | cont => exact h₆.elim
    | next =>
      obtain ⟨hP', h₆, tk₆, hle, hk₆, rfl⟩ := h₆
      refine ⟨x.cps.size + 1 - (i + 1), by omega, ⟨h₆, tk₆, i + 1, _, _, _⟩, rfl, Nat.le_trans (by dsimp only; omega) hle, by rw [Int.natCast_add]; exact hk₆ _ _ he₅, ?_, Fr.keeps F₅ hk₆, hP', fun b o p q r y => hk₆ b o (K₅ b o p q r y), hlt, rfl⟩
      obtain ⟨o, ho, r⟩ := hi₅
      exact ⟨o, hk₆ _ o ho, r⟩
  · have hin : i = x.cps.size := by omega
    subst hin
    refine enum_end ?_ heH hiH (by simp) fun h₁ k₁ => ?_
    · exact hh
    exact fin h₁ tk vi vc hP htk (fun b o p q r y => k₁ b o r (hK b o p q r y)) (keep h₁ fun b o _ q y => k₁ b o q y)
end
end MyLaw
end
end
section
open PySem PySem.Spec PySem.Calls PySem.W PySem.W.X PyProof.Rows
noncomputable section
namespace MyLaw
theorem booked_keeps {h h' : Heap} (C : NoneBooked h) (k : ∀ b o, h.get? b = some o → h'.get? b = some o) : NoneBooked h' := by
  obtain ⟨mc, ⟨o, es, ep, ho, r⟩, hn⟩ := C
  exact ⟨mc, ⟨o, es, ep, k _ o ho, r⟩, hn⟩
section
variable {M : Model} {A : Around} {E : Value → Shared → Prop} {s : Shared}
theorem is_strs {y z : Str} {u v : Tok} {Q : Value → Shared → Prop} (hu : u ≠ 0) (hv : v ≠ 0) (huv : u ≠ v) (hb : NoneBooked s.heap) (hq : ∀ b, (b = true → y = z) → Q (.bool b) s) :
    wpAny M A (compareOp .Is (.str y u) (.str z v)) Q E s := by
  have h0 : (u == 0 || v == 0) = false := by simp [hu, hv]
  show wpAny M A (isSame (.str y u) (.str z v) >>= fun b => pure (Value.bool b)) Q E s
  by_cases hyz : (y == z) = true
  · exact wpAny_bind (wpAny_isSame_str h0 hb fun b => wpAny_pure (hq b fun _ => eq_of_beq hyz))
  · have hyz' : (y == z) = false := by simpa using hyz
    rw [isSame_str_other y z u v h0 (by simp [huv]) hyz']
    exact wpAny_bind (wpAny_pure (wpAny_pure (hq false fun h => by cases h)))
end
section
variable {w : World} {mean : ExcName → Option Value} {mg mb : Str → Option Value} {news : List (Addr × Obj)} {dp un : Nat} {gd : Option (List Code)} {cn : Str} {cs : Scope} {a : Addr} {ccd : Value} {cl : List (Str × Addr)} {outer : List Env} {A₀ : Around} {base h₀ : Heap} {L : Addr} {m : Str → Option Value} {s : Shared} {Q E : Value → Shared → Prop}
theorem index_use {x : Str} {tx tb : Tok} {c p : Nat} (hp : x.cps[p]? = some c) (hfirst : ∀ q, q < p → x.cps[q]? ≠ some c) (hb0 : tb ≠ 0) (hbt : tb < s.toks) (C : NoneBooked h₀)
    (B : Below A₀ base outer h₀) (F : Fr h₀ L s.heap m) (X : (KK w.params).In h₀) (N : News h₀ L s.heap news) (T : Top VV (looseW VV LO) mean mg mb h₀) (hk : cs.kind = .function) (hd : dp + 3 < recursionLimit) (hu : un + 30 < cLine)
    (hret : ∀ t h' tk', Fr h₀ L h' m → News h₀ L h' news → s.toks ≤ tk' → Q (.int p t) { s with heap := h', toks := tk' }) :
    wpAny (model PP w) (ktrTop dp un gd cn cs L a ccd cl outer) (call (.ref 123) [.str x tx, .str ⟨#[c]⟩ tb]) Q E s := by
  have cbI : CbIn 123 := CbIn.mk
  refine any_up ?_
  refine wpAny_call ?_
  k_dflt cell_enter
  generalize htk : s.toks + List.length _ = tk0
  have hz : s.toks ≤ tk0 := htk ▸ Nat.le_add_right _ _
  clear htk
  repeat' (first | (k_here; (with_reducible show wpAny _ _ (call (Value.type "enumerate") [Value.str _ _]) _ _ _); (refine call_enumerate_str fun h8 he8 hit8 hsz8 hk8 => ?_); (refine wpAny_pyIter_enum he8 ?_)) | (k_here; (with_reducible refine wpAny_For ?_ ?khs); (case khs => intro _; with_unfolding_all rfl)) | (k_unfold; (try dsimp only)) | (k_end; wrow_close) | walk1 | (dsimp only) | (leave1; (try dsimp only)))
  rename_i h8 he8 hit8 hsz8 hk8
  rename Fr _ _ _ _ => F8
  rename Fr _ _ _ m => FG8
  rename News _ _ _ _ => N8
  refine enum_loop rfl rfl rfl rfl (Nat.succ_ne_self _) (Nat.ne_of_lt (Nat.lt_succ_of_lt F8.ns.lt)) (Nat.ne_of_lt F8.ns.lt)
    (Heap.get?_none_of_le (Nat.le_succ_of_le (Nat.le_trans F8.above (Nat.le_of_lt F8.ns.lt)))) (Heap.get?_none_of_le (Nat.le_trans F8.above (Nat.le_of_lt F8.ns.lt))) he8 hit8 (Fr.keeps F8 hk8) (fun i => i ≤ p) (Nat.zero_le _) ?_ ?_
  · intro i c' u v h tk hx' htk hu' hip K9 F9
    dsimp only at htk hu'
    dsimp only [twoM] at F9
    have N9 : News _ _ h news := fun q hq => ⟨K9 _ _ (N8 q hq).2.1 (Nat.ne_of_lt (Nat.lt_succ_of_lt (Heap.lt_size (N8 q hq).1))) (Nat.ne_of_lt (Heap.lt_size (N8 q hq).1)) (hk8 _ _ (N8 q hq).1), (N8 q hq).2⟩
    clear F8 he8 hit8 hsz8 hk8 N8 K9
    have CC : NoneBooked h := booked_keeps C fun b o y => F9.keep b o (FG8.keep b o y)
    have same : ∀ {b : Prop}, (c' = c → b) → (⟨#[c']⟩ : Str) = ⟨#[c]⟩ → b := fun f e => f (by have := congrArg Str.cps e; simpa using this)
    have ip : c' = c → i = p := fun e => by
      rcases Nat.lt_or_ge i p with hl | hl
      · exact absurd (e ▸ hx') (hfirst i hl)
      · exact Nat.le_antisymm hip hl
    repeat' (first | (k_here; (with_reducible show wpAny _ _ (call (Value.type "enumerate") [Value.str _ _]) _ _ _); (refine call_enumerate_str fun h8 he8 hit8 hsz8 hk8 => ?_); (refine wpAny_pyIter_enum he8 ?_)) | (k_here; (with_reducible refine wpAny_For ?_ ?khs); (case khs => intro _; with_unfolding_all rfl)) | (k_unfold; (try dsimp only)) | (k_end; wrow_close) | walk1 | (dsimp only) | (leave1; (try dsimp only)))
    refine is_strs (Nat.ne_of_gt (Nat.lt_of_lt_of_le (Nat.lt_of_le_of_lt (Nat.zero_le _) hbt) (Nat.le_trans hz hu'))) hb0 (Nat.ne_of_gt (Nat.lt_of_lt_of_le hbt (Nat.le_trans hz hu'))) CC fun b hb => ?_
    cases b
    · repeat' (first | (k_here; (with_reducible show wpAny _ _ (call (Value.type "enumerate") [Value.str _ _]) _ _ _); (refine call_enumerate_str fun h8 he8 hit8 hsz8 hk8 => ?_); (refine wpAny_pyIter_enum he8 ?_)) | (k_here; (with_reducible refine wpAny_For ?_ ?khs); (case khs => intro _; with_unfolding_all rfl)) | (k_unfold; (try dsimp only)) | (k_end; wrow_close) | walk1 | (dsimp only) | (leave1; (try dsimp only)))
      · rename (_ == _) = true => hq
        have e := same ip (eq_of_beq hq)
        subst e
        repeat' (first | (k_here; (with_reducible show wpAny _ _ (call (Value.type "enumerate") [Value.str _ _]) _ _ _); (refine call_enumerate_str fun h8 he8 hit8 hsz8 hk8 => ?_); (refine wpAny_pyIter_enum he8 ?_)) | (k_here; (with_reducible refine wpAny_For ?_ ?khs); (case khs => intro _; with_unfolding_all rfl)) | (k_unfold; (try dsimp only)) | (k_end; wrow_close) | walk1 | (dsimp only) | (leave1; (try dsimp only)))
        exact hret _ _ _ (by k_asm) (by k_asm) (by assumption)
      · rename (_ == _) = false => hq
        refine Nat.lt_of_le_of_ne hip fun e => ?_
        subst e
        rw [hp] at hx'
        cases hx'
        exact absurd hq (by simp)
      · exact Nat.le_refl _
    · have e := same ip (hb rfl)
      subst e
      repeat' (first | (k_here; (with_reducible show wpAny _ _ (call (Value.type "enumerate") [Value.str _ _]) _ _ _); (refine call_enumerate_str fun h8 he8 hit8 hsz8 hk8 => ?_); (refine wpAny_pyIter_enum he8 ?_)) | (k_here; (with_reducible refine wpAny_For ?_ ?khs); (case khs => intro _; with_unfolding_all rfl)) | (k_unfold; (try dsimp only)) | (k_end; wrow_close) | walk1 | (dsimp only) | (leave1; (try dsimp only)))
      exact hret _ _ _ (by k_asm) (by k_asm) (by assumption)
  · intro h tk vi vc hbad _ _ _
    have := (Array.getElem?_eq_some_iff.mp hp).1
    omega
end
end MyLaw
end
end
section
open PySem PySem.Spec PySem.Calls PySem.W PySem.W.X PyProof.Rows
noncomputable section
namespace MyLaw
theorem back_turn {h₀ g g' h s : Heap} {L L' : Addr} {m m' : Str → Option Value} {news' : List (Addr × Obj)} (F : Fr h₀ L s m) (FG : Fr h₀ L g m) (st : h₀.StaysIn g) (T : KtsTurn [L] g g') (F' : Fr g' L' h m') (N' : News g' L' h news') : Fr h₀ L h m ∧ News h₀ L h news' := by
  obtain ⟨o, es, ep, hL, hd, hk, hf⟩ := FG.ns
  obtain ⟨sl, hs⟩ := T.up hL
  refine ⟨⟨⟨_, es, ep, F'.keep _ _ hs, hd, hk, hf⟩, fun b o' e => F'.keep b o' (T.other b o' (st b o' e) fun q => ?_), F.above⟩, fun p hp => ⟨(N' p hp).1, fun q => ?_, ?_⟩⟩
  · rw [List.mem_singleton.mp q, kts_self F] at e
    cases e
  · have := (N' p hp).2.2
    rw [q, hs] at this
    cases this
  · cases q : h₀.get? p.1 with
    | none => rfl
    | some o' =>
      obtain ⟨sl', hs'⟩ := T.up (st _ _ q)
      have := (N' p hp).2.2
      rw [hs'] at this
      cases this
section
variable {w : World} {A₀ A : Around} {s : Shared} {base h₀ : Heap} {L : Addr} {m : Str → Option Value} {news : List (Addr × Obj)} {K : Frag} {prog : Program} {p : Program} {loose : List Str} {mean : ExcName → Option Value} {mg mb : Str → Option Value}
theorem code_turn {env : Env} {R : Result → Shared → Prop} {name qual : Str} {params : Arguments} {body : List Stmt} {scope : Scope} {dV kV doc pm cdv ct oc : Value} {an od : Option Addr} {osl : Array (Option Value)} {f : Addr} {args : Args} {binds : List (Str × Value)}
    (B : Below A₀ base [] h₀) (F : Fr h₀ L s.heap m) (X₀ : K.In h₀) (N : News h₀ L s.heap news) (T : Top p loose mean mg mb h₀) (hA : A.frames = some [env]) (hf : env.frame = some L) (hke : env.scope.kind = .function)
    (ho : K.lookup f = some ⟨oc, od, .func (fnOf name qual params body scope dV kV doc pm an cdv ct), osl⟩) (hcd : codeIn K cdv qual = true) (hroom : A.depth < recursionLimit)
    (hbind : BindsTo s (fnOf name qual params body scope dV kV doc pm an cdv ct) args binds) (hloc : ∀ y ∈ binds, scope.names.lookup y.1 = some .local)
    (h : ∀ g L' h₁, Fr h₀ L g m → Fr g L' h₁ (fun y => binds.reverse.lookup y) → News g L' h₁ news → Below A base [env] g → K.In g → Top p loose mean mg mb g → KtsDicts [L] g →
      wpAny (model prog w) (A.deeper (envOf qual scope L' f cdv)) (execs body (envOf qual scope L' f cdv))
        (fun fl s' => LeaveS0 [L] h₀ L m g R (match fl with | .ret v => v | _ => .none) s')
        (fun e s' => wpAny (model prog w) (A.deeper (envOf qual scope L' f cdv)) (leaving (envOf qual scope L' f cdv) e) (fun _ s'' => R (.error e) s'') (fun e' s'' => R (.error e') s'') s')
        { s with heap := h₁, toks := s.toks + binds.length })
    (hco : scope.isCoroutine = false) (hgen : scope.isGenerator = false) (hk : scope.kind = .function)
    (hcell : ∀ x ∈ scope.names, x.2 ≠ .cell) : codeAny (model prog w) A (.call (.ref f) args) R s := by
  obtain ⟨FG, BG, st, _⟩ := groundX (R := R) B F N hA hf hke
  have X := X₀.keeps F.keep
  refine codeAny_call_def (fd := fnOf name qual params body scope dV kV doc pm an cdv ct) (body := body) (binds := binds) hroom (X _ _ ho) rfl (T.nolimit.keeps F.keep) (codeRec_of X hcd) rfl hbind hcell hloc (fun h₁ hns hk₁ => ?_) hco hgen hk
  have D : KtsDicts [L] (hideAll s.heap (news.map (·.1))) := fun b hb => by
    rw [List.mem_singleton.mp hb]
    obtain ⟨o, es, ep, hL, hd, _⟩ := FG.ns
    exact ⟨o, es, ep, hL, hd⟩
  refine wpAny_mono (h _ s.heap.objs.size h₁ FG ⟨hns, fun b o e => hk₁ b o (of_hideAll _ e), Nat.le_of_eq (hideAll_size _ _)⟩
    (fun q hq => ⟨hk₁ _ _ (N q hq).1, Nat.ne_of_lt (Heap.lt_size (N q hq).1), hideAll_none _ (List.mem_map_of_mem hq)⟩) BG (X₀.keeps st) (T.keeps st) D) (fun fl s' hl => ?_) fun _ _ y => y
  obtain ⟨g', L', m', news', T', F', N', k⟩ := hl
  obtain ⟨a1, a2⟩ := back_turn F FG st T' F' N'
  exact k a1 a2
end
end MyLaw
end
end
section
open PySem PySem.Spec PySem.Calls PySem.W PySem.W.X PyProof.Rows
noncomputable section
namespace MyLaw
section
variable {w : World} {mean : ExcName → Option Value} {mg mb : Str → Option Value} {news : List (Addr × Obj)} {dp un : Nat} {gd : Option (List Code)} {cn : Str} {cs : Scope} {a : Addr} {ccd : Value} {cl : List (Str × Addr)} {outer : List Env} {A₀ : Around} {base h₀ : Heap} {L : Addr} {m : Str → Option Value} {s : Shared} {Q E : Value → Shared → Prop}
theorem unseen_use2 {n : Int} {tn : Tok} (h0 : 0 ≤ n) (B : Below A₀ base outer h₀) (F : Fr h₀ L s.heap m) (X : (KK w.params).In h₀) (N : News h₀ L s.heap news) (T : Top VV (looseW VV LO) mean mg mb h₀) (hk : cs.kind = .function) (hd : dp + 1 < recursionLimit) (hu : un + 8 < cLine)
    (hret : ∀ t h' tk', Fr h₀ L h' m → News h₀ L h' news → t + 1 = tk' → s.toks ≤ tk' → Q (.str (unseenS n) t) { s with heap := h', toks := tk' }) :
    wpAny (model PP w) (ktrTop dp un gd cn cs L a ccd cl outer) (call (.ref 161) [.int n tn]) Q E s := by
  have cbI : CbIn 161 := CbIn.mk
  refine any_up ?_
  refine wpAny_call ?_
  k_dflt cell_enter
  k_steps
  rename (CarriedAll _ _) => hC
  have hI9 := IntsAre.ofCarried hC
  refine add_arrays_ints (by k_asm) (by k_asm) (by kmk_list) (by kmk_list) (by l_ints) hI9 ?_ (by decide)
  intro h8 F8 N8 hI8
  dsimp only
  k_steps
  rw [show n.fmod 27 = n % 27 from Int.fmod_eq_emod_of_nonneg n (by decide)]
  refine chr_of_range (unseenTab_lo _) (unseenTab_hi _) ?_
  dsimp only
  k_steps
  refine hret _ _ _ (by k_asm) ?_ rfl (by assumption)
  refine' cb_drop ?cbN ?cbS
  (case cbN => assumption)
  (case cbS => kcj_all)
end
end MyLaw
end
end
section
open PySem PySem.Spec PySem.Calls PySem.W PySem.W.X PyProof.Rows
noncomputable section
namespace MyLaw
section
variable {w : World} {mean : ExcName → Option Value} {mg mb : Str → Option Value} {news : List (Addr × Obj)} {dp un : Nat} {gd : Option (List Code)} {cn : Str} {cs : Scope} {a : Addr} {ccd : Value} {cl : List (Str × Addr)} {A₀ : Around} {base h₀ : Heap} {L : Addr} {m : Str → Option Value} {s : Shared} {Q E : Value → Shared → Prop}
theorem item_zero {x : Str} {c : Nat} (h : x.cps[0]? = some c) : Txt.item x 0 = ⟨#[c]⟩ := by
  have hl : 0 < x.length := (Array.getElem?_eq_some_iff.mp h).1
  have e : Txt.charAt x 0 = some c := by
    unfold Txt.charAt seqIndex?
    simp [hl, h]
  unfold Txt.item
  rw [e]
  rfl
theorem item_last {x : Str} {c : Nat} (h : x.cps[x.cps.size - 1]? = some c) : Txt.item x (-1) = ⟨#[c]⟩ := by
  have hl : x.cps.size - 1 < x.length := (Array.getElem?_eq_some_iff.mp h).1
  have hl' : x.length = x.cps.size := rfl
  have e : Txt.charAt x (-1) = some c := by
    unfold Txt.charAt seqIndex?
    have e1 : (-1 + (x.length : Int)).toNat = x.cps.size - 1 := by omega
    have e2 : ¬ (-1 + (x.length : Int) < 0) := by omega
    have e3 : -1 + (x.length : Int) < (x.length : Int) := by omega
    have e4 : 0 ≤ -1 + (x.length : Int) := by omega
    simp [e1, e3, e4, h]
  unfold Txt.item
  rw [e]
  rfl
theorem place_use {x nm : Str} {tx tn tu : Tok} {l : Addr} {c0 c1 cu : Nat} {p : Nat} (hn0 : nm.cps[0]? = some c0) (hn1 : nm.cps[nm.cps.size - 1]? = some c1) (hns : nm.cps.size ≤ 8)
    (hp : x.cps[p]? = some c0) (hfirst : ∀ q, q < p → x.cps[q]? ≠ some c0) (hp1 : x.cps[p + nm.cps.size - 1]? = some c1) (hfirst1 : ∀ q, q < p + nm.cps.size - 1 → x.cps[q]? ≠ some c1)
    (hno : ∀ q : Nat, x.cps[q]? ≠ some cu) (hpb : p ≤ 1000) (hu0 : tu ≠ 0) (hut : tu < s.toks) (C : NoneBooked h₀)
    (B : Below A₀ base [] h₀) (F : Fr h₀ L s.heap m) (X : (KK w.params).In h₀) (N : News h₀ L s.heap news) (T : Top VV (looseW VV LO) mean mg mb h₀) (XB : (KK w.params).In base) (TB : Top VV (looseW VV LO) mean mg mb base) (hk : cs.kind = .function) (hd : dp + 6 < recursionLimit) (hu : un + 60 < cLine)
    (hret : ∀ t h' tk', Fr h₀ L h' m → News h₀ L h' news → s.toks ≤ tk' → Q (.int p t) { s with heap := h', toks := tk' }) :
    wpAny (model PP w) (ktrTop dp un gd cn cs L a ccd cl []) (call (.ref 189) [.str x tx, .str nm tn, .str ⟨#[cu]⟩ tu]) Q E s := by
  have cbI : CbIn 189 := CbIn.mk
  refine any_up ?_
  refine wpAny_call ?_
  k_dflt ((refine' code_turn ?k1 ?k2 ?k3 ?k4 ?k5 ?kA ?kF ?kK ?k6 ?k7 ?k8 ?k9 ?kB ?_ ?c2 ?c3 ?c4 ?c5; (case kA => exact rfl); (case kF => exact rfl); (case kK => assumption); (case k1 => k_asm); (case k2 => k_asm); (case k3 => k_asm); (case k4 => k_asm); (case k5 => k_asm); (case k6 => k_is); (case k7 => k_is); (case k8 => ktr_room); (case k9 => exact BindsTo.of_eq rfl); (case c5 => decide); (case kB => exact locs rfl); (case c2 => exact rfl); (case c3 => exact rfl); (case c4 => exact rfl); k_whole; intro g' L' h' FG' F' N' B' X' T' D'; (try dsimp only); (try k_lift B'); (try k_fold)))
  rename Fr h₀ _ _ m => FGa
  have Ca := booked_keeps C FGa.keep
  generalize htk : s.toks + List.length _ = tk0
  have hz : s.toks ≤ tk0 := htk ▸ Nat.le_add_right _ _
  clear htk
  repeat' (first | (k_here; (with_reducible show wpAny _ _ (call (Value.type "enumerate") [Value.str _ _]) _ _ _); (refine call_enumerate_str fun h8 he8 hit8 hsz8 hk8 => ?_); (refine wpAny_pyIter_enum he8 ?_)) | (k_here; (with_reducible refine wpAny_For ?_ ?khs); (case khs => intro _; with_unfolding_all rfl)) | (k_here; (with_reducible refine wpAny_execs_cons ?_); (try dsimp only)) | (k_unfold; (try dsimp only)) | (k_end; wrow_close) | walk1 | (dsimp only; (first | (k_here; (with_reducible show wpAny _ _ (call (Value.type "enumerate") [Value.str _ _]) _ _ _); (refine call_enumerate_str fun h8 he8 hit8 hsz8 hk8 => ?_); (refine wpAny_pyIter_enum he8 ?_)) | (k_here; (with_reducible refine wpAny_For ?_ ?khs); (case khs => intro _; with_unfolding_all rfl)) | (k_here; (with_reducible refine wpAny_execs_cons ?_); (try dsimp only)) | walk1)) | (leave1; (try dsimp only)))
  have hl1 : 1 ≤ nm.length := by have := (Array.getElem?_eq_some_iff.mp hn0).1; exact this
  have hl8 : nm.length ≤ 8 := hns
  refine KXi.item (n := nm.length) rfl (by omega) (by omega) (by omega) fun hi0 => ?_
  rw [item_zero hn0]
  repeat' (first | (k_here; (with_reducible show wpAny _ _ (call (Value.type "enumerate") [Value.str _ _]) _ _ _); (refine call_enumerate_str fun h8 he8 hit8 hsz8 hk8 => ?_); (refine wpAny_pyIter_enum he8 ?_)) | (k_here; (with_reducible refine wpAny_For ?_ ?khs); (case khs => intro _; with_unfolding_all rfl)) | (k_here; (with_reducible refine wpAny_execs_cons ?_); (try dsimp only)) | (k_unfold; (try dsimp only)) | (k_end; wrow_close) | walk1 | (dsimp only; (first | (k_here; (with_reducible show wpAny _ _ (call (Value.type "enumerate") [Value.str _ _]) _ _ _); (refine call_enumerate_str fun h8 he8 hit8 hsz8 hk8 => ?_); (refine wpAny_pyIter_enum he8 ?_)) | (k_here; (with_reducible refine wpAny_For ?_ ?khs); (case khs => intro _; with_unfolding_all rfl)) | (k_here; (with_reducible refine wpAny_execs_cons ?_); (try dsimp only)) | walk1)) | (leave1; (try dsimp only)))
  k_dflt (refine' index_use (p := p) hp hfirst ?b0 ?bt ?C ?B ?F ?X ?N ?T ?hk ?hd ?hu ?_)
  case F => k_asm
  case B => k_asm
  case X => k_asm
  case N => k_asm
  case T => k_asm
  case b0 => exact Nat.succ_ne_zero _
  case bt => exact Nat.lt_succ_self _
  case C => rename Fr _ _ _ m => FG8; exact booked_keeps C FG8.keep
  case hk => exact rfl
  case hd => ktr_room
  case hu => ktr_units
  intro t7 h7 tk7 F7 N7 hz7
  repeat' (first | (k_here; (with_reducible show wpAny _ _ (call (Value.type "enumerate") [Value.str _ _]) _ _ _); (refine call_enumerate_str fun h8 he8 hit8 hsz8 hk8 => ?_); (refine wpAny_pyIter_enum he8 ?_)) | (k_here; (with_reducible refine wpAny_For ?_ ?khs); (case khs => intro _; with_unfolding_all rfl)) | (k_here; (with_reducible refine wpAny_execs_cons ?_); (try dsimp only)) | (k_unfold; (try dsimp only)) | (k_end; wrow_close) | walk1 | (dsimp only; (first | (k_here; (with_reducible show wpAny _ _ (call (Value.type "enumerate") [Value.str _ _]) _ _ _); (refine call_enumerate_str fun h8 he8 hit8 hsz8 hk8 => ?_); (refine wpAny_pyIter_enum he8 ?_)) | (k_here; (with_reducible refine wpAny_For ?_ ?khs); (case khs => intro _; with_unfolding_all rfl)) | (k_here; (with_reducible refine wpAny_execs_cons ?_); (try dsimp only)) | walk1)) | (leave1; (try dsimp only)))
  rw [item_last hn1]
  k_dflt (refine' index_use (p := p + nm.cps.size - 1) hp1 hfirst1 ?b0 ?bt ?C ?B ?F ?X ?N ?T ?hk ?hd ?hu ?_)
  case F => k_asm
  case B => k_asm
  case X => k_asm
  case N => k_asm
  case T => k_asm
  case b0 => exact Nat.succ_ne_zero _
  case bt => exact Nat.lt_succ_self _
  case C => rename Fr _ _ _ m => FG8; exact booked_keeps C FG8.keep
  case hk => exact rfl
  case hd => ktr_room
  case hu => ktr_units
  intro t6 h6 tk6 F6 N6 hz6
  repeat' (first | (k_here; (with_reducible show wpAny _ _ (call (Value.type "enumerate") [Value.str _ _]) _ _ _); (refine call_enumerate_str fun h8 he8 hit8 hsz8 hk8 => ?_); (refine wpAny_pyIter_enum he8 ?_)) | (k_here; (with_reducible refine wpAny_For ?_ ?khs); (case khs => intro _; with_unfolding_all rfl)) | (k_here; (with_reducible refine wpAny_execs_cons ?_); (try dsimp only)) | (k_unfold; (try dsimp only)) | (k_end; wrow_close) | walk1 | (dsimp only; (first | (k_here; (with_reducible show wpAny _ _ (call (Value.type "enumerate") [Value.str _ _]) _ _ _); (refine call_enumerate_str fun h8 he8 hit8 hsz8 hk8 => ?_); (refine wpAny_pyIter_enum he8 ?_)) | (k_here; (with_reducible refine wpAny_For ?_ ?khs); (case khs => intro _; with_unfolding_all rfl)) | (k_here; (with_reducible refine wpAny_execs_cons ?_); (try dsimp only)) | walk1)) | (leave1; (try dsimp only)))
  · exfalso
    have e : nm.length = nm.cps.size := rfl
    omega
  · have hkk : ScopeKind.function = ScopeKind.function := rfl
    have hz8 : s.toks ≤ tk6 := by
      have a1 : tk0 + 1 + 1 ≤ tk7 := hz7
      have a2 : tk7 + 1 + 1 + 1 + 1 ≤ tk6 := hz6
      omega
    refine wpAny_call ?_
    k_dflt ((refine' code_defS ?k1 ?k2 ?k3 ?k4 ?k5 ?XB ?TB ?D ?T0 ?kA ?k6 ?k7 ?k8 ?k9 ?kB ?_ ?cK ?c2 ?c3 ?c4 ?c5; (case kA => exact rfl); (case k1 => k_asm); (case k2 => k_asm); (case XB => assumption); (case TB => assumption); (case D => assumption); (case T0 => first | assumption | exact KtsTurn.refl); (case k3 => k_asm); (case k4 => k_asm); (case k5 => k_asm); (case k6 => k_is); (case k7 => k_is); (case k8 => ktr_room); (case k9 => exact BindsTo.of_eq rfl); (case kB => exact locs rfl); (case cK => exact rfl); (case c2 => exact rfl); (case c3 => exact rfl); (case c4 => exact rfl); (case c5 => decide); k_whole; intro g' L' h' FG' F' N' B' X' T' D'; (try dsimp only); (try k_lift B'); (try k_fold)))
    have Cb := booked_keeps Ca (Fr.keep (by assumption))
    repeat' (first | (k_here; (with_reducible show wpAny _ _ (call (Value.type "enumerate") [Value.str _ _]) _ _ _); (refine call_enumerate_str fun h8 he8 hit8 hsz8 hk8 => ?_); (refine wpAny_pyIter_enum he8 ?_)) | (k_here; (with_reducible refine wpAny_For ?_ ?khs); (case khs => intro _; with_unfolding_all rfl)) | (k_here; (with_reducible refine wpAny_execs_cons ?_); (try dsimp only)) | (k_unfold; (try dsimp only)) | (k_end; wrow_close) | walk1 | (dsimp only; (first | (k_here; (with_reducible show wpAny _ _ (call (Value.type "enumerate") [Value.str _ _]) _ _ _); (refine call_enumerate_str fun h8 he8 hit8 hsz8 hk8 => ?_); (refine wpAny_pyIter_enum he8 ?_)) | (k_here; (with_reducible refine wpAny_For ?_ ?khs); (case khs => intro _; with_unfolding_all rfl)) | (k_here; (with_reducible refine wpAny_execs_cons ?_); (try dsimp only)) | walk1)) | (leave1; (try dsimp only)))
    have cbI2 : CbIn 123 := CbIn.mk
    refine wpAny_call ?_
    k_dflt cell_enter
    have Cc := booked_keeps Cb (Fr.keep (by assumption))
    generalize htk1 : (_ : Nat) + List.length _ = tk1
    repeat' (first | (k_here; (with_reducible show wpAny _ _ (call (Value.type "enumerate") [Value.str _ _]) _ _ _); (refine call_enumerate_str fun h8 he8 hit8 hsz8 hk8 => ?_); (refine wpAny_pyIter_enum he8 ?_)) | (k_here; (with_reducible refine wpAny_For ?_ ?khs); (case khs => intro _; with_unfolding_all rfl)) | (k_here; (with_reducible refine wpAny_execs_cons ?_); (try dsimp only)) | (k_unfold; (try dsimp only)) | (k_end; wrow_close) | walk1 | (dsimp only; (first | (k_here; (with_reducible show wpAny _ _ (call (Value.type "enumerate") [Value.str _ _]) _ _ _); (refine call_enumerate_str fun h8 he8 hit8 hsz8 hk8 => ?_); (refine wpAny_pyIter_enum he8 ?_)) | (k_here; (with_reducible refine wpAny_For ?_ ?khs); (case khs => intro _; with_unfolding_all rfl)) | (k_here; (with_reducible refine wpAny_execs_cons ?_); (try dsimp only)) | walk1)) | (leave1; (try dsimp only)))
    rename_i h8 he8 hit8 hsz8 hk8
    have hz9 : s.toks ≤ tk1 := Nat.le_trans hz8 (by rw [← htk1]; omega)
    clear htk1
    rename Fr _ _ _ _ => F8
    rename News _ _ _ _ => N8
    refine enum_loop rfl rfl rfl rfl (Nat.succ_ne_self _) (Nat.ne_of_lt (Nat.lt_succ_of_lt F8.ns.lt)) (Nat.ne_of_lt F8.ns.lt)
      (Heap.get?_none_of_le (Nat.le_succ_of_le (Nat.le_trans F8.above (Nat.le_of_lt F8.ns.lt)))) (Heap.get?_none_of_le (Nat.le_trans F8.above (Nat.le_of_lt F8.ns.lt))) he8 hit8 (Fr.keeps F8 hk8) (fun i => True) trivial ?_ ?_
    · intro i c' u v h tk hx' htk hu' _ K9 F9
      dsimp only at htk hu'
      dsimp only [twoM] at F9
      have N9 : News _ _ h news := fun q hq => ⟨K9 _ _ (N8 q hq).2.1 (Nat.ne_of_lt (Nat.lt_succ_of_lt (Heap.lt_size (N8 q hq).1))) (Nat.ne_of_lt (Heap.lt_size (N8 q hq).1)) (hk8 _ _ (N8 q hq).1), (N8 q hq).2⟩
      have CC : NoneBooked h := by
        exact booked_keeps Cc F9.keep
      clear F8 he8 hit8 hsz8 hk8 N8 K9
      have ne : c' ≠ cu := fun e => hno i (e ▸ hx')
      have same : (⟨#[c']⟩ : Str) ≠ ⟨#[cu]⟩ := fun e => ne (by have := congrArg Str.cps e; simpa using this)
      repeat' (first | (k_here; (with_reducible show wpAny _ _ (call (Value.type "enumerate") [Value.str _ _]) _ _ _); (refine call_enumerate_str fun h8 he8 hit8 hsz8 hk8 => ?_); (refine wpAny_pyIter_enum he8 ?_)) | (k_here; (with_reducible refine wpAny_For ?_ ?khs); (case khs => intro _; with_unfolding_all rfl)) | (k_here; (with_reducible refine wpAny_execs_cons ?_); (try dsimp only)) | (k_unfold; (try dsimp only)) | (k_end; wrow_close) | walk1 | (dsimp only; (first | (k_here; (with_reducible show wpAny _ _ (call (Value.type "enumerate") [Value.str _ _]) _ _ _); (refine call_enumerate_str fun h8 he8 hit8 hsz8 hk8 => ?_); (refine wpAny_pyIter_enum he8 ?_)) | (k_here; (with_reducible refine wpAny_For ?_ ?khs); (case khs => intro _; with_unfolding_all rfl)) | (k_here; (with_reducible refine wpAny_execs_cons ?_); (try dsimp only)) | walk1)) | (leave1; (try dsimp only)))
      refine is_strs (Nat.ne_of_gt (Nat.lt_of_lt_of_le (Nat.lt_of_le_of_lt (Nat.zero_le _) hut) (Nat.le_trans hz9 hu'))) hu0 (Nat.ne_of_gt (Nat.lt_of_lt_of_le hut (Nat.le_trans hz9 hu'))) CC fun b hb => ?_
      cases b
      · repeat' (first | (k_here; (with_reducible show wpAny _ _ (call (Value.type "enumerate") [Value.str _ _]) _ _ _); (refine call_enumerate_str fun h8 he8 hit8 hsz8 hk8 => ?_); (refine wpAny_pyIter_enum he8 ?_)) | (k_here; (with_reducible refine wpAny_For ?_ ?khs); (case khs => intro _; with_unfolding_all rfl)) | (k_here; (with_reducible refine wpAny_execs_cons ?_); (try dsimp only)) | (k_unfold; (try dsimp only)) | (k_end; wrow_close) | walk1 | (dsimp only; (first | (k_here; (with_reducible show wpAny _ _ (call (Value.type "enumerate") [Value.str _ _]) _ _ _); (refine call_enumerate_str fun h8 he8 hit8 hsz8 hk8 => ?_); (refine wpAny_pyIter_enum he8 ?_)) | (k_here; (with_reducible refine wpAny_For ?_ ?khs); (case khs => intro _; with_unfolding_all rfl)) | (k_here; (with_reducible refine wpAny_execs_cons ?_); (try dsimp only)) | walk1)) | (leave1; (try dsimp only)))
        · rename (_ == _) = true => hq
          exact absurd (eq_of_beq hq) same
        · exact trivial
        · exact Nat.le_refl _
      · exact absurd (hb rfl) same
    · intro h tk vi vc _ htk K9 F9
      dsimp only [twoM] at F9
      have N9 : News _ _ h news := fun q hq => ⟨K9 _ _ (N8 q hq).2.1 (Nat.ne_of_lt (Nat.lt_succ_of_lt (Heap.lt_size (N8 q hq).1))) (Nat.ne_of_lt (Heap.lt_size (N8 q hq).1)) (hk8 _ _ (N8 q hq).1), (N8 q hq).2⟩
      clear F8 he8 hit8 hsz8 hk8 N8 K9
      refine wpAny_passesOwn ?hE ?_
      case hE => first | passes_own | with_unfolding_all passes_own
      repeat' (first | (k_here; (with_reducible show wpAny _ _ (call (Value.type "enumerate") [Value.str _ _]) _ _ _); (refine call_enumerate_str fun h8 he8 hit8 hsz8 hk8 => ?_); (refine wpAny_pyIter_enum he8 ?_)) | (k_here; (with_reducible refine wpAny_For ?_ ?khs); (case khs => intro _; with_unfolding_all rfl)) | (k_here; (with_reducible refine wpAny_execs_cons ?_); (try dsimp only)) | (k_unfold; (try dsimp only)) | (k_end; wrow_close) | walk1 | (dsimp only; (first | (k_here; (with_reducible show wpAny _ _ (call (Value.type "enumerate") [Value.str _ _]) _ _ _); (refine call_enumerate_str fun h8 he8 hit8 hsz8 hk8 => ?_); (refine wpAny_pyIter_enum he8 ?_)) | (k_here; (with_reducible refine wpAny_For ?_ ?khs); (case khs => intro _; with_unfolding_all rfl)) | (k_here; (with_reducible refine wpAny_execs_cons ?_); (try dsimp only)) | walk1)) | (leave1; (try dsimp only)))
      refine hret _ _ _ (by k_asm) ?_ (by assumption)
      first | assumption | (refine' cb_drop ?cbN ?cbS; (case cbN => assumption); (case cbS => kcj_all))
end
end MyLaw
end
end
section
open PySem PySem.Spec PySem.Calls PySem.W PySem.W.X PyProof.Rows
noncomputable section
namespace MyLaw
open LCg
abbrev cellObj (v : Option Value) : Obj := { cls := .type "cell", data := .cell v }
section
variable {prog : Program} {w : World} {A : Around} {E : Value → Shared → Prop} {s : Shared} {h₀ : Heap} {L : Addr} {m : Str → Option Value} {env : Env}
noncomputable def CompRestC (prog : Program) (w : World) (A : Around) (h₀ : Heap) (L : Addr) (m : Str → Option Value) (env : Env) (elt : Expr) (x : Str) (scope : Scope) (cl : List (Str × Addr)) (s : Shared) (S : List (Addr × Obj) → Prop) (P : Nat → Value → Prop)
    (Fin : List Value → List (Addr × Obj) → Prop) : Nat → Nat → List Value → List (Addr × Obj) → Prop
  | 0, _, ys, news => Fin ys news
  | k + 1, i, ys, news => ∀ v I oI C oC D m₂ c oc h tk (E' : Value → Shared → Prop), P i v → NsObj oC m₂ → oc.data = .cell (some v) → Fr h₀ L h m → News h₀ L h ((I, oI) :: (C, oC) :: (D, lst ys) :: (c, oc) :: news) →
      Off3 I C D ((c, oc) :: news) → ((@Ne Nat I C) ∧ (@Ne Nat I D) ∧ (@Ne Nat C D)) → Off1 c news →
      wpAny (model prog w) A (eval elt (compEnvC scope ((x, c) :: cl) C env)) (fun y s₂ => ∃ h' tk' news', s₂ = { s with heap := h', toks := tk' } ∧ Fr h₀ L h' m ∧ News h₀ L h' ((I, oI) :: (C, oC) :: (D, lst ys) :: (c, oc) :: news') ∧
        Off3 I C D news' ∧ Off1 c news' ∧ S news' ∧ CompRestC prog w A h₀ L m env elt x scope cl s S P Fin k (i + 1) (ys ++ [y]) news') E' { s with heap := h, toks := tk }
theorem off1_mem {D : Addr} : ∀ {l : List (Addr × Obj)}, Off1 D l → ∀ p ∈ l, p.1 ≠ D
  | [], _, _, h => nomatch h
  | _ :: _, x, p, h => by
    rcases List.mem_cons.mp h with rfl | h
    · exact x.1
    · exact off1_mem x.2 p h
theorem off1_of {D : Addr} : ∀ {l : List (Addr × Obj)}, (∀ p ∈ l, p.1 ≠ D) → Off1 D l
  | [], _ => trivial
  | _ :: _, h => ⟨h _ List.mem_cons_self, off1_of fun p hp => h p (List.mem_cons_of_mem _ hp)⟩

theorem restC_zero {elt : Expr} {x : Str} {scope : Scope} {cl : List (Str × Addr)} {S : List (Addr × Obj) → Prop} {P : Nat → Value → Prop} {Fin : List Value → List (Addr × Obj) → Prop} {i : Nat} {ys : List Value} {news : List (Addr × Obj)} (h : Fin ys news) :
    CompRestC prog w A h₀ L m env elt x scope cl s S P Fin 0 i ys news := h
theorem restC_end {elt : Expr} {x : Str} {scope : Scope} {cl : List (Str × Addr)} {S : List (Addr × Obj) → Prop} {P : Nat → Value → Prop} {Fin : List Value → List (Addr × Obj) → Prop} {k i : Nat} {ys : List Value} {y : Value} {news : List (Addr × Obj)} {s' : Shared} {h : Heap} {tk : Nat} {I C D c Dn : Addr} {oI oC oc o : Obj}
    (F : Fr h₀ L h m) (N : News h₀ L h ((Dn, o) :: (I, oI) :: (C, oC) :: (D, lst ys) :: (c, oc) :: news)) (o1 : Off1 Dn ((I, oI) :: (C, oC) :: (D, lst ys) :: (c, oc) :: news)) (off : Off3 I C D ((c, oc) :: news)) (offc : Off1 c news) (hS : S ((Dn, o) :: news))
    (R : CompRestC prog w A h₀ L m env elt x scope cl s S P Fin k (i + 1) (ys ++ [y]) ((Dn, o) :: news)) :
    ∃ h' tk' news', ({ s' with heap := h, toks := tk } : Shared) = { s' with heap := h', toks := tk' } ∧ Fr h₀ L h' m ∧ News h₀ L h' ((I, oI) :: (C, oC) :: (D, lst ys) :: (c, oc) :: news') ∧
        Off3 I C D news' ∧ Off1 c news' ∧ S news' ∧ CompRestC prog w A h₀ L m env elt x scope cl s S P Fin k (i + 1) (ys ++ [y]) news' :=
  ⟨h, tk, (Dn, o) :: news, rfl, F, fun p hp => N p (by
    simp only [List.mem_cons] at hp ⊢
    rcases hp with h | h | h | h | h | h
    · exact .inr (.inl h)
    · exact .inr (.inr (.inl h))
    · exact .inr (.inr (.inr (.inl h)))
    · exact .inr (.inr (.inr (.inr (.inl h))))
    · exact .inl h
    · exact .inr (.inr (.inr (.inr (.inr h))))), ⟨⟨Ne.symm o1.1, Ne.symm o1.2.1, Ne.symm o1.2.2.1⟩, off.2⟩, ⟨Ne.symm o1.2.2.2.1, offc⟩, hS, R⟩
theorem newEnv_cell {M : Model} {scope : Scope} {globals : Addr} {cl : List (Str × Addr)} {qual : Str} {x : Str} {Q : Env → Shared → Prop}
    (hone : ∀ n, cellsFrom n scope.names cl = (x, n) :: cl) (hpush : ∀ h, pushCells h scope.names = h.push (cellObj none))
    (hQ : Q { scope, locals := s.heap.objs.size, globals, cells := (x, s.heap.objs.size + 1) :: cl, qual, func := none, code := env.code, frame := env.frame, builtins := env.builtins }
      { s with heap := (s.heap.push { cls := .type "dict", data := .dict #[] }).push (cellObj none) }) :
    wpAny M A (newFunctionEnv scope globals cl [] qual none .none (some env)) Q E s := by
  simp only [newFunctionEnv, Option.isSome_some, if_true]
  refine wpAny_bind (wpAny_alloc ?_)
  refine wpAny_bind (wpAny_layCells _ (fun name kind cells => by cases hkc : kind == NameKind.cell <;> simp [hkc]) _ _ _ _ ?_)
  rw [show ({ s with heap := s.heap.push { cls := .type "dict", data := .dict #[] } } : Shared).heap.objs.size = s.heap.objs.size + 1 from Heap.size_push .., hone]
  dsimp only
  rw [hpush]
  exact wpAny_bind (by rw [List.forIn_nil]; exact wpAny_pure (wpAny_pure hQ))

structure BlkSt where
  h : Heap
  tk : Nat
  i : Nat
  ys : List Value
  m : Str → Option Value
  v : Option Value
  oc : Obj
  nw : List (Addr × Obj)
theorem block_UC {elt iter : Expr} {x : Str} {px : Pos} {scope : Scope} {cl : List (Str × Addr)} {pos : Pos} {s₂ : Shared} {I : Addr} {fp : List Addr} {n : Nat} {P : Nat → Value → Prop} {St : Nat → Heap → Prop} {S : List (Addr × Obj) → Prop} {news : List (Addr × Obj)}
    {Fin : List Value → List (Addr × Obj) → Prop} {RR : Value → Addr → Result → Shared → Prop}
    (W : Walks prog w A I fp [I] n P St) (hsz : n ≤ sizeLine) (hIo : ∀ i h, St i h → ∃ o, h.get? I = some o)
    (hSt : ∀ i h h' o nw, St i h → h.get? I = some o → h'.get? I = some o → (∀ b o, h₀.get? b = some o → h'.get? b = some o) → News h₀ L h' nw → S nw → St i h')
    (hone : ∀ n, cellsFrom n scope.names cl = (x, n) :: cl) (hpush : ∀ h, pushCells h scope.names = h.push (cellObj none)) (hkind : scope.kind = .function) (hx : ∀ C c, (compEnvC scope ((x, c) :: cl) C env).kindOf x = some .cell) (hst : St 0 s₂.heap) (hfp : ∀ b ∈ fp, b < s₂.heap.objs.size)
    (F : Fr h₀ L s₂.heap m) (N : News h₀ L s₂.heap news) (hIL : L ≠ I) (hI₀ : h₀.get? I = none) (off : ∀ p ∈ news, p.1 ≠ I) (hS : S news)
    (R : CompRestC prog w A h₀ L m env elt x scope cl s₂ S P Fin n 0 [] news)
    (hRR : ∀ D C h tk m' ys news', Fr h₀ L h m → News h₀ L h ((D, lst ys) :: news') → Off1 D news' → h.Ns C m' → h₀.get? C = none → h₀.get? D = none → C ≠ L → D ≠ L → C ≠ D → (∀ p ∈ news', p.1 ≠ C) → Fin ys news' → RR (.ref D) C (.ok .next) { s₂ with heap := h, toks := tk }) :
    wpAny (model prog w) A (newList []) (fun acc s₃ => wpAny (model prog w) A (newFunctionEnv scope env.globals cl [] env.qual none .none (some env)) (fun cenv s₄ =>
      codeAny (model prog w) A (.compStart (.ListComp elt [⟨.Name x px, iter, [], 0⟩] scope pos) 0 (.ref I) acc { cenv with scope := relabel scope env }) (RR acc cenv.locals) s₄) E s₃) E s₂ := by
  refine wpAny_newObj_type (newEnv_cell hone hpush ?_)
  dsimp only
  generalize hH2 : s₂.heap.push { cls := .type "list", dict := none, data := .seq ([] : List Value).toArray } = H2
  have hC : H2.objs.size = s₂.heap.objs.size + 1 := by rw [← hH2, Heap.size_push]
  generalize hH3 : H2.push { cls := .type "dict", data := .dict #[] } = H3
  have hH3s : H3.objs.size = H2.objs.size + 1 := by rw [← hH3, Heap.size_push]
  generalize hh1 : H3.push (cellObj none) = h₁
  have hns₁ : h₁.Ns H2.objs.size (fun _ => none) := by
    have := (Heap.Ns.new H2 (.type "dict")).keeps (h' := h₁) (fun b o e => by rw [← hh1]; exact Heap.get?_push_of_some _ (hH3 ▸ e))
    exact this
  have hDC : s₂.heap.objs.size ≠ H2.objs.size := by rw [hC]; exact Nat.ne_of_lt (Nat.lt_succ_self _)
  generalize hcc : H2.objs.size + 1 = c
  have hc₁ : h₁.get? c = some (cellObj none) := by rw [← hh1, ← hcc, ← hH3s]; exact Heap.get?_push_size _ rfl
  have hcC : c ≠ H2.objs.size := by rw [← hcc]; exact Nat.succ_ne_self _
  have hcD : c ≠ s₂.heap.objs.size := by rw [← hcc, hC]; exact Nat.ne_of_gt (Nat.lt_succ_of_lt (Nat.lt_succ_self _))
  have below : ∀ b, b < s₂.heap.objs.size → b ≠ H2.objs.size ∧ b ≠ s₂.heap.objs.size ∧ b ≠ c := fun b hb => ⟨by rw [hC]; exact Nat.ne_of_lt (Nat.lt_succ_of_lt hb), Nat.ne_of_lt hb, by rw [← hcc, hC]; exact Nat.ne_of_lt (Nat.lt_succ_of_lt (Nat.lt_succ_of_lt hb))⟩
  have hDf : s₂.heap.objs.size ∉ fp := fun hm => Nat.lt_irrefl _ (hfp _ hm)
  have hCf : H2.objs.size ∉ fp := fun hm => (below _ (hfp _ hm)).1 rfl
  have hcf : c ∉ fp := fun hm => (below _ (hfp _ hm)).2.2 rfl
  have hIf : I ∈ fp := W.sub I (List.mem_singleton.mpr rfl)
  have hIlt : I < s₂.heap.objs.size := hfp I hIf
  have old : ∀ b o, s₂.heap.get? b = some o → h₁.get? b = some o := fun b o e => by rw [← hh1, ← hH3, ← hH2]; exact Heap.get?_push_of_some _ (Heap.get?_push_of_some _ (Heap.get?_push_of_some _ e))
  have hacc : h₁.get? s₂.heap.objs.size = some (lst []) := by rw [← hh1, ← hH3, ← hH2]; exact Heap.get?_push_of_some _ (Heap.get?_push_of_some _ (Heap.get?_push_size _ rfl))
  have hst₁ : St 0 h₁ := W.frame _ _ _ hst fun b _ o e => old b o e
  have fresh : ∀ a, s₂.heap.objs.size ≤ a → s₂.heap.get? a = none := fun a ha => by
    cases e : s₂.heap.get? a with
    | none => rfl
    | some o' => exact absurd (Heap.lt_size e) (Nat.not_lt.mpr ha)
  have fresh₀ : ∀ a, s₂.heap.objs.size ≤ a → h₀.get? a = none := fun a ha => by
    cases e : h₀.get? a with
    | none => rfl
    | some o' => have := F.keep a o' e; rw [fresh a ha] at this; cases this
  have hD₀ : h₀.get? s₂.heap.objs.size = none := fresh₀ _ (Nat.le_refl _)
  have hC₀ : h₀.get? H2.objs.size = none := fresh₀ _ (by rw [hC]; exact Nat.le_succ _)
  have hc₀ : h₀.get? c = none := fresh₀ _ (by rw [← hcc, hC]; omega)
  have hLlt : L < s₂.heap.objs.size := F.ns.lt
  have hDL : s₂.heap.objs.size ≠ L := Ne.symm (below L hLlt).2.1
  have hCL : H2.objs.size ≠ L := Ne.symm (below L hLlt).1
  have hcL : c ≠ L := Ne.symm (below L hLlt).2.2
  have hCI : I ≠ H2.objs.size := (below I hIlt).1
  have hDI : I ≠ s₂.heap.objs.size := (below I hIlt).2.1
  have hcI : I ≠ c := (below I hIlt).2.2
  have off₀ : Off3 I H2.objs.size s₂.heap.objs.size news := Off3.of fun p hp => ⟨off p hp, (below _ (Heap.lt_size (N p hp).1)).1, (below _ (Heap.lt_size (N p hp).1)).2.1⟩
  have offc₀ : Off1 c news := off1_of fun p hp => (below _ (Heap.lt_size (N p hp).1)).2.2
  have loop : ∀ s₃ : Shared, s₃ = { s₂ with heap := h₁ } →
      codeAny (model prog w) A (.compLoop (.ListComp elt [⟨.Name x px, iter, [], 0⟩] scope pos) 0 (.ref I) (.ref s₂.heap.objs.size) (compEnvC scope ((x, c) :: cl) H2.objs.size env))
        (RR (.ref s₂.heap.objs.size) H2.objs.size) s₃ := by
    rintro s₃ rfl
    refine codeAny_compLoop_tests
      (fun k s' => ∃ q : BlkSt, s' = { s₂ with heap := q.h, toks := q.tk } ∧ q.i ≤ n ∧ k = n + 1 - q.i ∧ q.ys.length = q.i ∧ St q.i q.h ∧ Fr h₀ L q.h m ∧ q.h.Ns H2.objs.size q.m ∧ q.oc.data = .cell q.v ∧ News h₀ L q.h ((s₂.heap.objs.size, lst q.ys) :: (c, q.oc) :: q.nw) ∧
        Off3 I H2.objs.size s₂.heap.objs.size q.nw ∧ Off1 c q.nw ∧ S q.nw ∧ CompRestC prog w A h₀ L m env elt x scope cl s₂ S P Fin (n - q.i) q.i q.ys q.nw) ?_ (n + 1)
      ⟨⟨h₁, _, 0, [], _, none, cellObj none, news⟩, rfl, Nat.zero_le _, rfl, rfl, hst₁, F.keeps old, hns₁, rfl, fun p hp => ?_, off₀, offc₀, hS, R⟩
    · rintro k s' ⟨q9, P9⟩
      obtain ⟨h', tk, i, ys, m', v₀, oc, news'⟩ := q9
      dsimp only at P9
      have es := P9.1
      have hi := P9.2.1
      have ek := P9.2.2.1
      have hyl := P9.2.2.2.1
      have hst' := P9.2.2.2.2.1
      have F' := P9.2.2.2.2.2.1
      have hn' := P9.2.2.2.2.2.2.1
      have hoc := P9.2.2.2.2.2.2.2.1
      have N' := P9.2.2.2.2.2.2.2.2.1
      have off' := P9.2.2.2.2.2.2.2.2.2.1
      have offc' := P9.2.2.2.2.2.2.2.2.2.2.1
      have hS' := P9.2.2.2.2.2.2.2.2.2.2.2.1
      have R' := P9.2.2.2.2.2.2.2.2.2.2.2.2
      subst es
      subst ek
      clear P9
      by_cases hlt : i < n
      · obtain ⟨j, hj⟩ : ∃ j, n - i = j + 1 := ⟨n - i - 1, by omega⟩
        rw [hj] at R'
        refine W.item i _ _ _ hlt hst' fun v h₂ tk₂ hPv hst₂ hk₂ => ?_
        have off3 := off'.mem
        have offc := off1_mem offc'
        have N₂ : News h₀ L h₂ ((s₂.heap.objs.size, lst ys) :: (c, oc) :: news') := news_but N' hk₂ fun p hp => by
          rcases List.mem_cons.mp hp with rfl | hp
          · exact Ne.symm hDI
          · rcases List.mem_cons.mp hp with rfl | hp
            · exact Ne.symm hcI
            · exact (off3 p hp).1
        have hcell₂ : h₂.IsCell c v₀ := ⟨oc, (N₂ (c, oc) (List.mem_cons_of_mem _ List.mem_cons_self)).1, hoc⟩
        refine wpAny_assign_Name (wpAny_storeName_cell hkind (hx _ _) (List.lookup_cons_self) hcell₂ fun h₃ hv₃ hs₃ => ?_)
        refine wpAny_tests_nil ?_
        simp only [if_true]
        have hst₃ : St (i + 1) h₃ := W.frame _ _ _ hst₂ fun b hb o e => hs₃.extBut b o (fun q => hcf (by have q' : b = c := q; rw [← q']; exact hb)) e
        obtain ⟨oI, heI⟩ := hIo _ _ hst₃
        have hn₃ : h₃.Ns H2.objs.size m' := (hn'.at' fun o e => hk₂ _ o (by simpa using Ne.symm hCI) e).sameBut hs₃ (Ne.symm hcC)
        obtain ⟨oC, heC, hoC⟩ := ns_obj hn₃
        obtain ⟨oc', heoc, hoc'⟩ := hv₃
        have F₃ : Fr h₀ L h₃ m := (fr_but F' hk₂ hIL hI₀).change hs₃ hcL hc₀
        have N₃ : News h₀ L h₃ ((I, oI) :: (H2.objs.size, oC) :: (s₂.heap.objs.size, lst ys) :: (c, oc') :: news') := fun p hp => by
          rcases List.mem_cons.mp hp with rfl | hp
          · exact ⟨heI, Ne.symm hIL, hI₀⟩
          · rcases List.mem_cons.mp hp with rfl | hp
            · exact ⟨heC, hCL, hC₀⟩
            · rcases List.mem_cons.mp hp with rfl | hp
              · have z := N₂ (s₂.heap.objs.size, lst ys) List.mem_cons_self
                exact ⟨hs₃.extBut _ _ (Ne.symm hcD) z.1, z.2⟩
              · rcases List.mem_cons.mp hp with rfl | hp
                · exact ⟨heoc, hcL, hc₀⟩
                · have z := N₂ p (List.mem_cons_of_mem _ (List.mem_cons_of_mem _ hp))
                  exact ⟨hs₃.extBut _ _ (offc p hp) z.1, z.2⟩
        refine wpAny_mono (R' v I oI H2.objs.size oC s₂.heap.objs.size m' c oc' h₃ _ _ hPv hoC hoc' F₃ N₃ ⟨⟨Ne.symm hcI, hcC, hcD⟩, off'⟩ ⟨hCI, hDI, Ne.symm hDC⟩ offc') (fun y s₄ h₄ => ?_) fun _ _ e => e
        obtain ⟨h₄, tk₄, news₄, rfl, F₄, N₄, off₄, offc₄, hS₄, R₄⟩ := h₄
        have zI := (N₄ (I, oI) List.mem_cons_self).1
        have zC := (N₄ (H2.objs.size, oC) (List.mem_cons_of_mem _ List.mem_cons_self)).1
        have zD := (N₄ (s₂.heap.objs.size, lst ys) (List.mem_cons_of_mem _ (List.mem_cons_of_mem _ List.mem_cons_self))).1
        have zc := (N₄ (c, oc') (List.mem_cons_of_mem _ (List.mem_cons_of_mem _ (List.mem_cons_of_mem _ List.mem_cons_self)))).1
        have N₄' : News h₀ L h₄ news₄ := fun p hp => N₄ p (List.mem_cons_of_mem _ (List.mem_cons_of_mem _ (List.mem_cons_of_mem _ (List.mem_cons_of_mem _ hp))))
        have hst₄ : St (i + 1) h₄ := hSt _ _ _ _ _ hst₃ heI zI F₄.keep N₄' hS₄
        refine append_at (hsz := by show ys.toArray.size ≤ sizeLine; rw [List.size_toArray, hyl]; exact Nat.le_trans hi hsz) zD fun h₅ hs₅ hD₅ => ?_
        have off4 := off₄.mem
        refine ⟨n + 1 - (i + 1), by omega, ⟨h₅, tk₄, i + 1, ys ++ [y], m', some v, oc', news₄⟩, rfl, hlt, rfl, by rw [List.length_append, List.length_singleton, hyl], W.frame _ _ _ hst₄ fun b hb o e => hs₅.extBut b o (fun q => hDf (q ▸ hb)) e, F₄.change hs₅ hDL hD₀,
          (hoC.ns zC).sameBut hs₅ (Ne.symm hDC), hoc', fun p hp => ?_, off₄, offc₄, hS₄, ?_⟩
        · rcases List.mem_cons.mp hp with rfl | hp
          · exact ⟨hD₅.trans (congrArg some (lst_snoc ys y)), hDL, hD₀⟩
          · rcases List.mem_cons.mp hp with rfl | hp
            · exact ⟨hs₅.extBut _ _ hcD zc, hcL, hc₀⟩
            · exact ⟨hs₅.extBut _ _ (off4 p hp).2.2 (N₄' p hp).1, (N₄' p hp).2⟩
        · rw [show n - (i + 1) = j by omega]
          exact R₄
      · obtain rfl : i = n := Nat.le_antisymm hi (Nat.not_lt.mp hlt)
        rw [Nat.sub_self] at R'
        refine W.done _ _ _ hst' fun h₂ tk₂ hk₂ => ?_
        have off3 := off'.mem
        refine hRR _ _ h₂ tk₂ _ ys news' (fr_but F' hk₂ hIL hI₀) (fun p hp => news_but N' hk₂ (fun p hp => ?_) p ?_) off'.one (hn'.at' fun o e => hk₂ _ o (by simpa using Ne.symm hCI) e) hC₀ hD₀ hCL hDL (Ne.symm hDC) (fun p hp => (off3 p hp).2.1) R'
        · rcases List.mem_cons.mp hp with rfl | hp
          · exact Ne.symm hDI
          · rcases List.mem_cons.mp hp with rfl | hp
            · exact Ne.symm hcI
            · exact (off3 p hp).1
        · rcases List.mem_cons.mp hp with rfl | hp
          · exact List.mem_cons_self
          · exact List.mem_cons_of_mem _ (List.mem_cons_of_mem _ hp)
    · rcases List.mem_cons.mp hp with rfl | hp
      · exact ⟨hacc, hDL, hD₀⟩
      · rcases List.mem_cons.mp hp with rfl | hp
        · exact ⟨hc₁, hcL, hc₀⟩
        · exact ⟨old _ _ (N p hp).1, (N p hp).2⟩
  exact codeAny_compStart_list (loop _ rfl) (W.self 0 _ _ _ hst₁ (loop _ rfl))
end
section
variable {prog : Program} {w : World} {A : Around} {E : Value → Shared → Prop} {s : Shared} {h₀ : Heap} {L : Addr} {m : Str → Option Value} {env : Env}
def SrcLC (prog : Program) (w : World) (A : Around) (h₀ : Heap) (L : Addr) (m : Str → Option Value) (env : Env) (elt : Expr) (x : Str) (scope : Scope) (cl : List (Str × Addr)) (Fin : Shared → List Value → List (Addr × Obj) → Prop) (xv : Value) (s₁ : Shared) : Prop :=
  ∃ ax its news, xv = .ref ax ∧ A.handled = none ∧ Fr h₀ L s₁.heap m ∧ News h₀ L s₁.heap news ∧ SrcAt h₀ ax its news ∧ its.size ≤ sizeLine ∧
    ∀ s₂ : Shared, (∃ h, s₂ = { s₁ with heap := h }) → CompRestC prog w A h₀ L m env elt x scope cl s₂ (SrcAt h₀ ax its) (fun i v => its[i]? = some v) (Fin s₂) its.size 0 [] news
def SrcRC (prog : Program) (w : World) (A : Around) (h₀ : Heap) (L : Addr) (m : Str → Option Value) (env : Env) (elt : Expr) (x : Str) (scope : Scope) (cl : List (Str × Addr)) (Fin : Shared → List Value → List (Addr × Obj) → Prop) (xv : Value) (s₁ : Shared) : Prop :=
  ∃ r a b t u v n news, xv = .ref r ∧ A.handled = none ∧ Fr h₀ L s₁.heap m ∧ News h₀ L s₁.heap news ∧ IsRange s₁.heap r a b 1 t u v ∧ Builtin.Range.small a b 1 = true ∧ Builtin.Range.rangeSize a b 1 = ((n : Nat) : Int) ∧ n ≤ sizeLine ∧
    ∀ s₂ : Shared, (∃ h, s₂ = { s₁ with heap := h }) → CompRestC prog w A h₀ L m env elt x scope cl s₂ (fun _ => True) (fun i v => ∃ t, v = .int (a + (i : Int)) t) (Fin s₂) n 0 [] news
def CompSrcC (prog : Program) (w : World) (A : Around) (h₀ : Heap) (L : Addr) (m : Str → Option Value) (env : Env) (elt : Expr) (x : Str) (scope : Scope) (cl : List (Str × Addr)) (Fin : Shared → List Value → List (Addr × Obj) → Prop) (xv : Value) (s₁ : Shared) : Prop :=
  SrcLC prog w A h₀ L m env elt x scope cl Fin xv s₁ ∨ SrcRC prog w A h₀ L m env elt x scope cl Fin xv s₁
theorem CompSrcC.ledger {elt : Expr} {x : Str} {scope : Scope} {cl : List (Str × Addr)} {Fin : Shared → List Value → List (Addr × Obj) → Prop} {ax : Addr} {its : Array Value} {k : Nat} {news : List (Addr × Obj)} {s₁ : Shared}
    (hh : A.handled = none) (F : Fr h₀ L s₁.heap m) (N : News h₀ L s₁.heap news) (hm : (ax, ({ cls := .type "list", data := .seq its k } : Obj)) ∈ news) (hsz : its.size ≤ sizeLine)
    (h : ∀ g, CompRestC prog w A h₀ L m env elt x scope cl { s₁ with heap := g } (SrcAt h₀ ax its) (fun i v => its[i]? = some v) (Fin { s₁ with heap := g }) its.size 0 [] news) :
    CompSrcC prog w A h₀ L m env elt x scope cl Fin (.ref ax) s₁ := .inl ⟨ax, its, news, rfl, hh, F, N, .inr ⟨_, hm, rfl, _, rfl⟩, hsz, fun _ ⟨g, e⟩ => e ▸ h g⟩
theorem CompSrcC.range {elt : Expr} {x : Str} {scope : Scope} {cl : List (Str × Addr)} {Fin : Shared → List Value → List (Addr × Obj) → Prop} {r : Addr} {a b : Int} {t u v : Tok} {n : Nat} {news : List (Addr × Obj)} {s₁ : Shared}
    (hh : A.handled = none) (F : Fr h₀ L s₁.heap m) (N : News h₀ L s₁.heap news) (hr : IsRange s₁.heap r a b 1 t u v) (hsm : Builtin.Range.small a b 1 = true) (hn : Builtin.Range.rangeSize a b 1 = ((n : Nat) : Int)) (hsz : n ≤ sizeLine)
    (h : ∀ g, CompRestC prog w A h₀ L m env elt x scope cl { s₁ with heap := g } (fun _ => True) (fun i v => ∃ t, v = .int (a + (i : Int)) t) (Fin { s₁ with heap := g }) n 0 [] news) :
    CompSrcC prog w A h₀ L m env elt x scope cl Fin (.ref r) s₁ := .inr ⟨r, a, b, t, u, v, n, news, rfl, hh, F, N, hr, hsm, hn, hsz, fun _ ⟨g, e⟩ => e ▸ h g⟩
theorem src_UC {elt iter : Expr} {x : Str} {px : Pos} {scope : Scope} {cl : List (Str × Addr)} {pos : Pos} {s₁ : Shared} {xv : Value} {Fin : Shared → List Value → List (Addr × Obj) → Prop} {RR : Value → Addr → Result → Shared → Prop}
    (hone : ∀ n, cellsFrom n scope.names cl = (x, n) :: cl) (hpush : ∀ h, pushCells h scope.names = h.push (cellObj none)) (hkind : scope.kind = .function) (hx : ∀ C c, (compEnvC scope ((x, c) :: cl) C env).kindOf x = some .cell)
    (h₁ : CompSrcC prog w A h₀ L m env elt x scope cl Fin xv s₁)
    (hRR : ∀ g D C h tk m' ys news', Fr h₀ L h m → News h₀ L h ((D, lst ys) :: news') → Off1 D news' → h.Ns C m' → h₀.get? C = none → C ≠ L → C ≠ D → (∀ p ∈ news', p.1 ≠ C) → Fin { s₁ with heap := g } ys news' →
      RR (.ref D) C (.ok .next) { s₁ with heap := h, toks := tk }) :
    wpAny (model prog w) A (pyIter xv) (fun it s₂ => wpAny (model prog w) A (newList []) (fun acc s₃ => wpAny (model prog w) A (newFunctionEnv scope env.globals cl [] env.qual none .none (some env)) (fun cenv s₄ =>
      codeAny (model prog w) A (.compStart (.ListComp elt [⟨.Name x px, iter, [], 0⟩] scope pos) 0 it acc { cenv with scope := relabel scope env }) (RR acc cenv.locals) s₄) E s₃) E s₂) E s₁ := by
  have fin : ∀ g D C h tk m' ys news', Fr h₀ L h m → News h₀ L h ((D, lst ys) :: news') → Off1 D news' → h.Ns C m' → h₀.get? C = none → h₀.get? D = none → C ≠ L → D ≠ L → C ≠ D → (∀ p ∈ news', p.1 ≠ C) → Fin { s₁ with heap := g } ys news' →
      RR (.ref D) C (.ok .next) { ({ s₁ with heap := g } : Shared) with heap := h, toks := tk } :=
    fun g D C h tk m' ys news' F' N' o1 hn hC₀ _ hCL _ hCD offC f => hRR g D C h tk m' ys news' F' N' o1 hn hC₀ hCL hCD offC f
  rcases h₁ with ⟨ax, its, news, rfl, hh, F, N, S, hsz, R⟩ | ⟨r, a, b, t, u, v, n, news, rfl, hh, F, N, hr, hsm, hn, hsz, R⟩
  · have hl := S.list F.keep N
    obtain ⟨_, e0, _⟩ := id hl
    have hlt : ax < s₁.heap.objs.size := Heap.lt_size e0
    have up : ∀ b o, s₁.heap.get? b = some o → (s₁.heap.push { cls := .type "list_iterator", data := .fields #[.ref ax, .int 0 0] }).get? b = some o := fun b o e => Heap.get?_push_of_some _ e
    refine wpAny_pyIter_list hl (block_UC (Walks.list hh s₁.heap.objs.size ax (Nat.ne_of_lt hlt) its) hsz (fun i h st => let ⟨o, e, _⟩ := st.1; ⟨o, e⟩) list_st hone hpush hkind hx ⟨⟨_, Heap.get?_push_size _ rfl, rfl, rfl⟩, hl.push _⟩ (fun b hb => ?_)
      (F.keeps up) (N.grown up) (Nat.ne_of_lt F.ns.lt) (next_is_new F) (fun p hp => Nat.ne_of_lt (Heap.lt_size (N p hp).1)) S (R _ ⟨_, rfl⟩) (fin _))
    simp only [List.mem_cons, List.not_mem_nil, or_false] at hb
    show b < (s₁.heap.push _).objs.size
    rw [Heap.size_push]
    rcases hb with rfl | rfl
    · exact Nat.lt_succ_self _
    · exact Nat.lt_succ_of_lt hlt
  · refine wpAny_pyIter_range hr hsm (block_UC (range_walks hh a n) hsz (fun i h st => ⟨_, st⟩) range_st hone hpush hkind hx (by show IsRangeIter _ _ _ _ _; rw [hn]; simpa using Heap.get?_push_size _ rfl) (fun b hb => ?_)
      (F.keeps fun _ _ e => Heap.get?_push_of_some _ e) (N.grown fun _ _ e => Heap.get?_push_of_some _ e) (Nat.ne_of_lt F.ns.lt) (next_is_new F) (fun p hp => Nat.ne_of_lt (Heap.lt_size (N p hp).1)) trivial (R _ ⟨_, rfl⟩) (fin _))
    rw [List.mem_singleton.mp hb]
    show s₁.heap.objs.size < (s₁.heap.push _).objs.size
    rw [Heap.size_push]
    exact Nat.lt_succ_self _
theorem let_go {L C D : Addr} {h h'' : Heap} {m : Str → Option Value} {ys : List Value} {news' : List (Addr × Obj)} (F : Fr h₀ L h m) (N : News h₀ L h ((D, lst ys) :: news')) (hC₀ : h₀.get? C = none) (hCL : C ≠ L) (hCD : C ≠ D) (offC : ∀ p ∈ news', p.1 ≠ C)
    (hs : Heap.SameBut C h h'') : Fr h₀ L h'' m ∧ News h₀ L h'' ((D, lst ys) :: news') := by
  refine ⟨F.change hs hCL hC₀, fun p hp => ⟨hs.extBut _ _ ?_ (N p hp).1, (N p hp).2⟩⟩
  rcases List.mem_cons.mp hp with rfl | hp
  · exact Ne.symm hCD
  · exact offC p hp
theorem ListComp_UC {elt iter : Expr} {x : Str} {px : Pos} {scope : Scope} {cl : List (Str × Addr)} {pos : Pos} {Q : Value → Shared → Prop} (_F₀ : Fr h₀ L s.heap m)
    (hclos : closureFor scope env = pure cl) (hone : ∀ n, cellsFrom n scope.names cl = (x, n) :: cl) (hpush : ∀ h, pushCells h scope.names = h.push (cellObj none)) (hkind : scope.kind = .function)
    (hnames : ∀ y ∈ scope.names, y.2 = .local → scope.names.lookup y.1 = some .local) (hx : ∀ C c, (compEnvC scope ((x, c) :: cl) C env).kindOf x = some .cell)
    (h : wpAny (model prog w) A (eval iter env) (CompSrcC prog w A h₀ L m env elt x scope cl (fun s₂ => FinE h₀ L m s₂ Q)) E s)
    (hs : ∀ x, foldedSetIterable iter env x = pure x) :
    wpAny (model prog w) A (eval (.ListComp elt [⟨.Name x px, iter, [], 0⟩] scope pos) env) Q E s := by
  rw [eval_ListComp]
  refine wpAny_comprehension_free (use := none) rfl hs hclos hkind hnames (wpAny_mono h (fun xv s₁ h₁ => ?_) fun _ _ e => e)
  refine src_UC hone hpush hkind hx h₁ fun g D C h' tk m' ys news' F' N' o1 hn hC₀ hCL hCD offC fin => ⟨m', hn, fun h'' hs'' => ?_⟩
  obtain ⟨F'', N''⟩ := let_go F' N' hC₀ hCL hCD offC hs''
  exact fin D h'' tk F'' N'' o1
theorem Assign_UC {elt iter : Expr} {x y : Str} {px py : Pos} {scope : Scope} {cl : List (Str × Addr)} {pos spos : Pos} {Q : Flow → Shared → Prop} (_F₀ : Fr h₀ L s.heap m) (hLe : env.locals = L)
    (hsw : swapsWith (.ListComp elt [⟨.Name x px, iter, [], 0⟩] scope pos) (some (.Name y py)) spos.line env = pure true)
    (hclos : closureFor scope env = pure cl) (hone : ∀ n, cellsFrom n scope.names cl = (x, n) :: cl) (hpush : ∀ h, pushCells h scope.names = h.push (cellObj none)) (hkind : scope.kind = .function)
    (hnames : ∀ z ∈ scope.names, z.2 = .local → scope.names.lookup z.1 = some .local) (hx : ∀ C c, (compEnvC scope ((x, c) :: cl) C env).kindOf x = some .cell)
    (hy : env.kindOf y = some .local) (hp : (env.scope.kind == .class || (env.scope.kind == .module && env.locals != env.globals)) = false)
    (h : wpAny (model prog w) A (eval iter env) (CompSrcC prog w A h₀ L m env elt x scope cl (fun s₂ => FinA h₀ L m s₂ y Q)) E s)
    (hs : ∀ x, foldedSetIterable iter env x = pure x) :
    wpAny (model prog w) A (exec (.Assign [.Name y py] (.ListComp elt [⟨.Name x px, iter, [], 0⟩] scope pos) spos) env) Q E s := by
  subst hLe
  rw [exec_Assign_Name_used _ _ _ _ hsw]
  refine wpAny_bind (wpAny_standAt (wpAny_bind ?_))
  refine wpAny_bind (wpAny_mono (wpAny_comprehension_free (use := some (assign (.Name y py) env)) (Q := fun _ s' => Q .next s') rfl hs hclos hkind hnames
    (wpAny_mono h (fun xv s₁ h₁ => ?_) fun _ _ e => e)) (fun _ s' hq => wpAny_pure (wpAny_pure hq)) fun _ _ e => e)
  refine src_UC hone hpush hkind hx h₁ fun g D C h' tk m' ys news' F' N' o1 hn hC₀ hCL hCD offC fin => ?_
  refine wpAny_assign_Name (wpAny_storeName_local hy F'.ns (fun h₂ hn₂ hs₂ => ?_) hp)
  have F₂ : Fr h₀ env.locals h₂ (fun z => if z = y then some (.ref D) else m z) := F'.set hn₂ hs₂
  obtain ⟨N₂⟩ : Nonempty (News h₀ env.locals h₂ ((D, lst ys) :: news')) := ⟨N'.set hs₂⟩
  refine ⟨m', hn.sameBut hs₂ hCL, fun h'' hs'' => ?_⟩
  obtain ⟨F'', N''⟩ := let_go F₂ N₂ hC₀ hCL hCD offC hs''
  exact fin D h'' _ F'' N'' o1
end
end MyLaw
end
end
section
open PySem PySem.Spec PySem.Calls PySem.W PySem.W.X PyProof.Rows
noncomputable section
namespace MyLaw
section
variable {w : World} {mean : ExcName → Option Value} {mg mb : Str → Option Value} {news : List (Addr × Obj)} {dp un : Nat} {gd : Option (List Code)} {cn : Str} {cs : Scope} {a : Addr} {ccd : Value} {cl : List (Str × Addr)} {outer : List Env} {A₀ : Around} {base h₀ : Heap} {L : Addr} {m : Str → Option Value} {s : Shared} {Q E : Value → Shared → Prop}
theorem add_use {x y : Int} {tx ty : Tok} (B : Below A₀ base outer h₀) (F : Fr h₀ L s.heap m) (X : (KK w.params).In h₀) (N : News h₀ L s.heap news) (T : Top VV (looseW VV LO) mean mg mb h₀) (hk : cs.kind = .function) (hd : dp + 1 < recursionLimit) (hu : un + 8 < cLine)
    (hret : ∀ t h' tk', Fr h₀ L h' m → News h₀ L h' news → Q (.int (x + y) t) { s with heap := h', toks := tk' }) :
    wpAny (model PP w) (ktrTop dp un gd cn cs L a ccd cl outer) (call (.ref 102) [.int x tx, .int y ty]) Q E s := by
  have cbI : CbIn 102 := CbIn.mk
  refine wpAny_call ?_
  k_dflt cell_enter
  generalize s.toks + List.length _ = tk0
  k_steps
  exact hret _ _ _ (by k_asm) (by k_asm)
theorem sub_use {x y : Int} {tx ty : Tok} (B : Below A₀ base outer h₀) (F : Fr h₀ L s.heap m) (X : (KK w.params).In h₀) (N : News h₀ L s.heap news) (T : Top VV (looseW VV LO) mean mg mb h₀) (hk : cs.kind = .function) (hd : dp + 1 < recursionLimit) (hu : un + 8 < cLine)
    (hret : ∀ t h' tk', Fr h₀ L h' m → News h₀ L h' news → Q (.int (x - y) t) { s with heap := h', toks := tk' }) :
    wpAny (model PP w) (ktrTop dp un gd cn cs L a ccd cl outer) (call (.ref 116) [.int x tx, .int y ty]) Q E s := by
  have cbI : CbIn 116 := CbIn.mk
  refine wpAny_call ?_
  k_dflt cell_enter
  generalize s.toks + List.length _ = tk0
  k_steps
  exact hret _ _ _ (by k_asm) (by k_asm)
theorem mul_use {x y : Int} {tx ty : Tok} (hmul : IntMulOk x y) (B : Below A₀ base outer h₀) (F : Fr h₀ L s.heap m) (X : (KK w.params).In h₀) (N : News h₀ L s.heap news) (T : Top VV (looseW VV LO) mean mg mb h₀) (hk : cs.kind = .function) (hd : dp + 1 < recursionLimit) (hu : un + 8 < cLine)
    (hret : ∀ t h' tk', Fr h₀ L h' m → News h₀ L h' news → Q (.int (x * y) t) { s with heap := h', toks := tk' }) :
    wpAny (model PP w) (ktrTop dp un gd cn cs L a ccd cl outer) (call (.ref 109) [.int x tx, .int y ty]) Q E s := by
  have cbI : CbIn 109 := CbIn.mk
  refine wpAny_call ?_
  k_dflt cell_enter
  generalize s.toks + List.length _ = tk0
  k_steps
  exact hret _ _ _ (by k_asm) (by k_asm)
theorem ipow_use {x y : Int} {tx ty : Tok} (hx : -1000 ≤ x ∧ x ≤ 1000) (hy : 0 ≤ y ∧ y ≤ 1000) (B : Below A₀ base outer h₀) (F : Fr h₀ L s.heap m) (X : (KK w.params).In h₀) (N : News h₀ L s.heap news) (T : Top VV (looseW VV LO) mean mg mb h₀) (hk : cs.kind = .function) (hd : dp + 1 < recursionLimit) (hu : un + 8 < cLine)
    (hret : ∀ t h' tk', Fr h₀ L h' m → News h₀ L h' news → Q (.int (x ^ y.toNat) t) { s with heap := h', toks := tk' }) :
    wpAny (model PP w) (ktrTop dp un gd cn cs L a ccd cl outer) (call (.ref 130) [.int x tx, .int y ty]) Q E s := by
  have cbI : CbIn 130 := CbIn.mk
  refine wpAny_call ?_
  k_dflt cell_enter
  generalize s.toks + List.length _ = tk0
  k_steps
  exact hret _ _ _ (by k_asm) (by k_asm)
end
end MyLaw
end
end
section
open PySem PySem.Spec PySem.Calls PySem.W PySem.W.X PyProof.Rows
noncomputable section
namespace MyLaw
theorem pow_small {x tm : Int} (hx : -1000 ≤ x ∧ x ≤ 1000) (hm : 1 ≤ tm ∧ tm ≤ 2) : Builtin.Int.intBits (x ^ tm.toNat) ≤ 64 := by
  have : tm = 1 ∨ tm = 2 := by omega
  rcases this with rfl | rfl
  · show Builtin.Int.intBits (x ^ 1) ≤ 64
    rw [Int.pow_succ, Int.pow_zero, Int.one_mul]
    exact PySem.intBits_le_64 (by omega) (by omega)
  · show Builtin.Int.intBits (x ^ 2) ≤ 64
    have e : x ^ 2 = x * x := by rw [Int.pow_succ, Int.pow_succ, Int.pow_zero, Int.one_mul]
    have h1 : 0 ≤ x * x := by
      by_cases h : 0 ≤ x
      · exact Int.mul_nonneg h h
      · have := Int.mul_nonneg (show 0 ≤ -x by omega) (show 0 ≤ -x by omega); rw [Int.neg_mul_neg] at this; exact this
    have h2 : x * x ≤ 1000000 := by
      have := Int.mul_nonneg (show 0 ≤ 1000 - x by omega) (show 0 ≤ 1000 + x by omega)
      have e2 : (1000 - x) * (1000 + x) = 1000000 - x * x := by
        simp only [Int.sub_mul, Int.mul_add]; omega
      omega
    rw [e]
    exact PySem.intBits_le_64 (by omega) (by omega)
def facC (x0 x1 x2 cc tm : Int) : Int :=
  if cc = 1 then x0 ^ tm.toNat + x1 ^ tm.toNat + x2 ^ tm.toNat
  else if cc = 2 then x0 ^ tm.toNat * x1 ^ tm.toNat + x0 ^ tm.toNat * x2 ^ tm.toNat + x1 ^ tm.toNat * x2 ^ tm.toNat
  else x0 ^ tm.toNat * x1 ^ tm.toNat * x2 ^ tm.toNat
section
variable {w : World} {mean : ExcName → Option Value} {mg mb : Str → Option Value} {news : List (Addr × Obj)} {dp un : Nat} {gd : Option (List Code)} {cn : Str} {cs : Scope} {a : Addr} {ccd : Value} {cl : List (Str × Addr)} {outer : List Env} {A₀ : Around} {base h₀ : Heap} {L : Addr} {m : Str → Option Value} {s : Shared} {Q E : Value → Shared → Prop}
local macro_rules | `(tactic| walk_at "CompSrc") => `(tactic| (k_here; k_dflt (refine LCg.CompSrc.ledger (by rfl) (by k_asm) (by k_asm) (by k_mem) (by first | size_fits | exact Nat.le_of_ble_eq_true rfl) ?_; intro g'; lcg_lit)))
local macro_rules | `(tactic| walk_at "CompEnd") => `(tactic| (refine LCg.CompEnd.intro (by assumption) (by assumption) _ (fun p hp => hp) (by first | assumption | (simp only [LCg.Off3, and_true]; assumption)) (by lcg_src) ?_))
theorem fac_use {ln : Addr} {kn : Nat} {x0 x1 x2 cc tm : Int} {tx0 tx1 tx2 tcc ttm : Tok}
    (hx0 : -1000 ≤ x0 ∧ x0 ≤ 1000) (hx1 : -1000 ≤ x1 ∧ x1 ≤ 1000) (hx2 : -1000 ≤ x2 ∧ x2 ≤ 1000) (hc : 1 ≤ cc ∧ cc ≤ 3) (hm : 1 ≤ tm ∧ tm ≤ 2)
    (hln : (ln, W.listOf #[.int x0 tx0, .int x1 tx1, .int x2 tx2] kn) ∈ news)
    (B : Below A₀ base outer h₀) (F : Fr h₀ L s.heap m) (X : (KK w.params).In h₀) (N : News h₀ L s.heap news) (T : Top VV (looseW VV LO) mean mg mb h₀) (hk : cs.kind = .function) (hd : dp + 6 < recursionLimit) (hu : un + 60 < cLine)
    (hret : ∀ t h' tk', Fr h₀ L h' m → News h₀ L h' news → Q (.int (facC x0 x1 x2 cc tm) t) { s with heap := h', toks := tk' }) :
    wpAny (model PP w) (ktrTop dp un gd cn cs L a ccd cl outer) (call (.ref 199) [.ref ln, .int cc tcc, .int tm ttm]) Q E s := by
  have cbI : CbIn 199 := CbIn.mk
  have N1 : News h₀ L s.heap ((ln, W.listOf #[.int x0 tx0, .int x1 tx1, .int x2 tx2] kn) :: news) := fun q hq => by
    rcases List.mem_cons.mp hq with rfl | hq
    · exact N _ hln
    exact N _ hq
  replace hret : ∀ t h' tk', Fr h₀ L h' m → News h₀ L h' ((ln, W.listOf #[.int x0 tx0, .int x1 tx1, .int x2 tx2] kn) :: news) → Q (.int (facC x0 x1 x2 cc tm) t) { s with heap := h', toks := tk' } := fun t h' tk' F' N' => hret t h' tk' F' fun q hq => N' q (.tail _ hq)
  clear N hln
  refine wpAny_call ?_
  (k_dflt (refine' code_defC ?k1 ?k2 ?k3 ?k4 ?k5 ?kA ?kF ?kK ?k6 ?k7 ?k8 ?k9 ?kB ?kD ?_ ?c2 ?c3 ?c4; (case kA => exact rfl); (case kF => exact rfl); (case kK => assumption); (case k1 => k_asm); (case k2 => k_asm); (case k3 => k_asm); (case k4 => k_asm); (case k5 => k_asm); (case k6 => k_is); (case k7 => k_is); (case k8 => ktr_room); (case k9 => exact BindsTo.of_eq rfl); (case kB => exact rfl); (case kD => decide +kernel); (case c2 => exact rfl); (case c3 => exact rfl); (case c4 => exact rfl); k_whole; intro g' L' h' tk' cells' FG' F' N' Y' B' X' T' l1; (try k_lt l1); k_cells Y'; (try simp only [List.cons_append, List.nil_append] at N'); (try dsimp only); (try k_lift B'); (try k_fold)))
  have hb0 := pow_small hx0 hm
  have hb1 := pow_small hx1 hm
  have hb2 := pow_small hx2 hm
  repeat' (first | ((with_reducible show wpAny _ _ (eval (PySem.Expr.ListComp _ _ _ _) _) _ _ _); (k_here; lcf_look; lcg_calm; k_dflt (refine LCg.ListComp_U (F₀ := by k_asm) (by with_unfolding_all rfl) (by decide) (by rfl) (by decide) (by rfl) ?_); k_dflt lcg_toSrc)) | (k_unfold; (try dsimp only)) | (k_end; wrow_close) | walk1 | (dsimp only) | (leave1; (try dsimp only)))
  · rw [facC, if_pos (by assumption)] at hret
    exact hret _ _ _ (by k_asm) (by refine' cb_drop ?cbN ?cbS; (case cbN => assumption); (case cbS => kcj_all))
  · rw [facC, if_neg (by omega), if_pos (by assumption)] at hret
    exact hret _ _ _ (by k_asm) (by refine' cb_drop ?cbN ?cbS; (case cbN => assumption); (case cbS => kcj_all))
  · rw [facC, if_neg (by assumption), if_neg (by assumption)] at hret
    exact hret _ _ _ (by k_asm) (by refine' cb_drop ?cbN ?cbS; (case cbN => assumption); (case cbS => kcj_all))
end
end MyLaw
end
end
section
open PySem PySem.Spec PySem.Calls PySem.W PySem.W.X PyProof.Rows
noncomputable section
namespace MyLaw
theorem pow_bits {x p : Int} (hx : -1000 ≤ x ∧ x ≤ 1000) (hp : 0 ≤ p ∧ p ≤ 20) : Builtin.Int.intBits (x ^ p.toNat) ≤ 2000 := by
  have h1 : Builtin.Int.intBits x ≤ 64 := PySem.intBits_le_64 (by omega) (by omega)
  refine Nat.le_trans (intBits_pow_le h1 _) ?_
  omega
theorem allLt_off {d : Addr} {l : List (Addr × Obj)} (h : AllLt d l) : ∀ p ∈ l, p.1 ≠ d := by
  induction l with
  | nil => intro p hp; cases hp
  | cons q r ih =>
    intro p hp
    rcases List.mem_cons.mp hp with e | hp
    · rw [e]; exact Nat.ne_of_lt h.1
    · exact ih h.2 p hp
def detV (x0 x1 x2 p0 p1 p2 : Int) : Int :=
  0 + x0 ^ p0.toNat * x1 ^ p1.toNat * x2 ^ p2.toNat + x0 ^ p1.toNat * x1 ^ p2.toNat * x2 ^ p0.toNat + x0 ^ p2.toNat * x1 ^ p0.toNat * x2 ^ p1.toNat
    - (0 + x0 ^ p0.toNat * x1 ^ p2.toNat * x2 ^ p1.toNat + x0 ^ p1.toNat * x1 ^ p0.toNat * x2 ^ p2.toNat + x0 ^ p2.toNat * x1 ^ p1.toNat * x2 ^ p0.toNat)
section
variable {w : World} {mean : ExcName → Option Value} {mg mb : Str → Option Value} {news : List (Addr × Obj)} {dp un : Nat} {gd : Option (List Code)} {cl : List (Str × Addr)} {outer : List Env} {A₀ : Around} {base h₀ : Heap} {L : Addr} {mr : Str → Option Value} {s : Shared} {Q : Flow → Shared → Prop} {E : Value → Shared → Prop}
def detBody : List Stmt := match q24.1.2.1.tail.tail.tail with
  | .For _ _ b _ _ :: _ => b
  | _ => []
theorem turn_map {u v a b c f : Option Value} : (fun y : Str => if y = Str.ofString "less" then u else if y = Str.ofString "more" then v else if y = Str.ofString "s" then c else if y = Str.ofString "less" then a else if y = Str.ofString "more" then b else if y = Str.ofString "p" then f else mr y)
    = fun y : Str => if y = Str.ofString "less" then u else if y = Str.ofString "more" then v else if y = Str.ofString "p" then f else (fun y : Str => if y = Str.ofString "s" then c else mr y) y := by
  funext y
  by_cases h1 : y = Str.ofString "less"
  · simp only [h1, if_true]
  by_cases h2 : y = Str.ofString "more"
  · simp only [h2, if_true]
  simp only [h1, h2, if_false]
  by_cases h3 : y = Str.ofString "s"
  · have h4 : ¬ y = Str.ofString "p" := by rw [h3]; decide
    simp only [h3, if_true]
    rw [if_neg (by decide)]
  · simp only [h3, if_false]
theorem rot5 {a b c d e : Addr × Obj} {h : Heap} (N : News h₀ L h (a :: b :: c :: d :: e :: news)) : News h₀ L h (b :: c :: d :: e :: a :: news) := fun p hp => N p (by
  simp only [List.mem_cons] at hp ⊢
  rcases hp with h | h | h | h | h | h
  · exact .inr (.inl h)
  · exact .inr (.inr (.inl h))
  · exact .inr (.inr (.inr (.inl h)))
  · exact .inr (.inr (.inr (.inr (.inl h))))
  · exact .inl h
  · exact .inr (.inr (.inr (.inr (.inr h)))))
theorem tor5 {a b c d e : Addr × Obj} {h : Heap} (N : News h₀ L h (b :: c :: d :: e :: a :: news)) : News h₀ L h (a :: b :: c :: d :: e :: news) := fun p hp => N p (by
  simp only [List.mem_cons] at hp ⊢
  rcases hp with h | h | h | h | h | h
  · exact .inr (.inr (.inr (.inr (.inl h))))
  · exact .inl h
  · exact .inr (.inl h)
  · exact .inr (.inr (.inl h))
  · exact .inr (.inr (.inr (.inl h)))
  · exact .inr (.inr (.inr (.inr (.inr h)))))
theorem det_turn0 {D d0 d1 d2 : Addr} {x0 x1 x2 p0 p1 p2 M Z : Int} {t00 t01 t02 t10 t11 t12 t20 t21 t22 tM tZ tk : Tok}
    (hx0 : -1000 ≤ x0 ∧ x0 ≤ 1000) (hx1 : -1000 ≤ x1 ∧ x1 ≤ 1000) (hx2 : -1000 ≤ x2 ∧ x2 ≤ 1000) (hp0 : 0 ≤ p0 ∧ p0 ≤ 20) (hp1 : 0 ≤ p1 ∧ p1 ≤ 20) (hp2 : 0 ≤ p2 ∧ p2 ≤ 20)
    (B : Below A₀ base outer h₀) (F : Fr h₀ L s.heap (fun y => if y = Str.ofString "s" then some (.int 0 tk) else if y = Str.ofString "less" then some (.int Z tZ) else if y = Str.ofString "more" then some (.int M tM) else if y = Str.ofString "p" then some (.ref D) else mr y)) (X : (KK w.params).In h₀)
    (N : News h₀ L s.heap ((D, W.listOf #[.ref d0, .ref d1, .ref d2] 3) :: (d2, W.listOf #[.int (x2 ^ p0.toNat) t20, .int (x2 ^ p1.toNat) t21, .int (x2 ^ p2.toNat) t22] 3) :: (d1, W.listOf #[.int (x1 ^ p0.toNat) t10, .int (x1 ^ p1.toNat) t11, .int (x1 ^ p2.toNat) t12] 3) :: (d0, W.listOf #[.int (x0 ^ p0.toNat) t00, .int (x0 ^ p1.toNat) t01, .int (x0 ^ p2.toNat) t02] 3) :: news))
    (T : Top VV (looseW VV LO) mean mg mb h₀) (hd : dp + 3 < recursionLimit) (hu : un + 30 < cLine)
    (hret : ∀ (mr' : Str → Option Value) tM' tZ' h' tk', Fr h₀ L h' (fun y => if y = Str.ofString "less" then some (.int (Z + x0 ^ p0.toNat * x1 ^ p2.toNat * x2 ^ p1.toNat) tZ') else if y = Str.ofString "more" then some (.int (M + x0 ^ p0.toNat * x1 ^ p1.toNat * x2 ^ p2.toNat) tM') else if y = Str.ofString "p" then some (.ref D) else mr' y) → News h₀ L h' ((D, W.listOf #[.ref d0, .ref d1, .ref d2] 3) :: (d2, W.listOf #[.int (x2 ^ p0.toNat) t20, .int (x2 ^ p1.toNat) t21, .int (x2 ^ p2.toNat) t22] 3) :: (d1, W.listOf #[.int (x1 ^ p0.toNat) t10, .int (x1 ^ p1.toNat) t11, .int (x1 ^ p2.toNat) t12] 3) :: (d0, W.listOf #[.int (x0 ^ p0.toNat) t00, .int (x0 ^ p1.toNat) t01, .int (x0 ^ p2.toNat) t02] 3) :: news) → Q .next { s with heap := h', toks := tk' }) :
    wpAny (model PP w) (ktrTop dp un gd (Str.ofString "_law_determinant") q24.1.2.2 L 194 (.ref 193) cl outer) (execs detBody (envX (Str.ofString "_law_determinant") q24.1.2.2 L 194 (.ref 193) cl)) Q E s := by
  have hb00 := pow_bits hx0 hp0
  have hb01 := pow_bits hx0 hp1
  have hb02 := pow_bits hx0 hp2
  have hb10 := pow_bits hx1 hp0
  have hb11 := pow_bits hx1 hp1
  have hb12 := pow_bits hx1 hp2
  have hb20 := pow_bits hx2 hp0
  have hb21 := pow_bits hx2 hp1
  have hb22 := pow_bits hx2 hp2
  repeat' (first | (k_here; (with_reducible show wpAny _ _ (call (Value.ref 130) [Value.int _ _, Value.int _ _]) _ _ _); k_dflt (refine' ipow_use ?ka ?kb ?k1 ?k2 ?k3 ?k4 ?k5 ?k6 ?k7 ?k8 ?_; (case ka => assumption); (case kb => constructor <;> omega); (case k1 => k_asm); (case k2 => k_asm); (case k3 => k_asm); (case k4 => k_asm); (case k5 => k_asm); (case k6 => first | exact rfl | assumption); (case k7 => ktr_room); (case k8 => ktr_units)); intro t9 h9 tk9 F9 N9; (try dsimp only); (try k_fold)) | (k_here; (with_reducible show wpAny _ _ (call (Value.ref 109) [Value.int _ _, Value.int _ _]) _ _ _); k_dflt (refine' mul_use ?ka ?k1 ?k2 ?k3 ?k4 ?k5 ?k6 ?k7 ?k8 ?_; (case ka => (first | exact IntMulOk.of_le (by assumption) (by assumption) (by decide) | exact IntMulOk.of_le (intBits_mul_le (by assumption) (by assumption)) (by assumption) (by decide))); (case k1 => k_asm); (case k2 => k_asm); (case k3 => k_asm); (case k4 => k_asm); (case k5 => k_asm); (case k6 => first | exact rfl | assumption); (case k7 => ktr_room); (case k8 => ktr_units)); intro t9 h9 tk9 F9 N9; (try dsimp only); (try k_fold)) | (k_here; (with_reducible show wpAny _ _ (call (Value.ref 116) [Value.int _ _, Value.int _ _]) _ _ _); k_dflt (refine' sub_use ?k1 ?k2 ?k3 ?k4 ?k5 ?k6 ?k7 ?k8 ?_; (case k1 => k_asm); (case k2 => k_asm); (case k3 => k_asm); (case k4 => k_asm); (case k5 => k_asm); (case k6 => first | exact rfl | assumption); (case k7 => ktr_room); (case k8 => ktr_units)); intro t9 h9 tk9 F9 N9; (try dsimp only); (try k_fold)) | (k_here; (with_reducible show wpAny _ _ (call (Value.ref 102) [Value.int _ _, Value.int _ _]) _ _ _); k_dflt (refine' add_use ?k1 ?k2 ?k3 ?k4 ?k5 ?k6 ?k7 ?k8 ?_; (case k1 => k_asm); (case k2 => k_asm); (case k3 => k_asm); (case k4 => k_asm); (case k5 => k_asm); (case k6 => first | exact rfl | assumption); (case k7 => ktr_room); (case k8 => ktr_units)); intro t9 h9 tk9 F9 N9; (try dsimp only); (try k_fold)) | (k_unfold; (try dsimp only)) | (k_end; wrow_close) | walk1 | (dsimp only) | (leave1; (try dsimp only)))
  rename Fr _ L _ _ => Fz
  rw [turn_map] at Fz
  exact hret _ _ _ _ _ Fz (by assumption)
theorem det_turn1 {D d0 d1 d2 : Addr} {x0 x1 x2 p0 p1 p2 M Z : Int} {t00 t01 t02 t10 t11 t12 t20 t21 t22 tM tZ tk : Tok}
    (hx0 : -1000 ≤ x0 ∧ x0 ≤ 1000) (hx1 : -1000 ≤ x1 ∧ x1 ≤ 1000) (hx2 : -1000 ≤ x2 ∧ x2 ≤ 1000) (hp0 : 0 ≤ p0 ∧ p0 ≤ 20) (hp1 : 0 ≤ p1 ∧ p1 ≤ 20) (hp2 : 0 ≤ p2 ∧ p2 ≤ 20)
    (B : Below A₀ base outer h₀) (F : Fr h₀ L s.heap (fun y => if y = Str.ofString "s" then some (.int 1 tk) else if y = Str.ofString "less" then some (.int Z tZ) else if y = Str.ofString "more" then some (.int M tM) else if y = Str.ofString "p" then some (.ref D) else mr y)) (X : (KK w.params).In h₀)
    (N : News h₀ L s.heap ((D, W.listOf #[.ref d0, .ref d1, .ref d2] 3) :: (d2, W.listOf #[.int (x2 ^ p0.toNat) t20, .int (x2 ^ p1.toNat) t21, .int (x2 ^ p2.toNat) t22] 3) :: (d1, W.listOf #[.int (x1 ^ p0.toNat) t10, .int (x1 ^ p1.toNat) t11, .int (x1 ^ p2.toNat) t12] 3) :: (d0, W.listOf #[.int (x0 ^ p0.toNat) t00, .int (x0 ^ p1.toNat) t01, .int (x0 ^ p2.toNat) t02] 3) :: news))
    (T : Top VV (looseW VV LO) mean mg mb h₀) (hd : dp + 3 < recursionLimit) (hu : un + 30 < cLine)
    (hret : ∀ (mr' : Str → Option Value) tM' tZ' h' tk', Fr h₀ L h' (fun y => if y = Str.ofString "less" then some (.int (Z + x0 ^ p1.toNat * x1 ^ p0.toNat * x2 ^ p2.toNat) tZ') else if y = Str.ofString "more" then some (.int (M + x0 ^ p1.toNat * x1 ^ p2.toNat * x2 ^ p0.toNat) tM') else if y = Str.ofString "p" then some (.ref D) else mr' y) → News h₀ L h' ((D, W.listOf #[.ref d0, .ref d1, .ref d2] 3) :: (d2, W.listOf #[.int (x2 ^ p0.toNat) t20, .int (x2 ^ p1.toNat) t21, .int (x2 ^ p2.toNat) t22] 3) :: (d1, W.listOf #[.int (x1 ^ p0.toNat) t10, .int (x1 ^ p1.toNat) t11, .int (x1 ^ p2.toNat) t12] 3) :: (d0, W.listOf #[.int (x0 ^ p0.toNat) t00, .int (x0 ^ p1.toNat) t01, .int (x0 ^ p2.toNat) t02] 3) :: news) → Q .next { s with heap := h', toks := tk' }) :
    wpAny (model PP w) (ktrTop dp un gd (Str.ofString "_law_determinant") q24.1.2.2 L 194 (.ref 193) cl outer) (execs detBody (envX (Str.ofString "_law_determinant") q24.1.2.2 L 194 (.ref 193) cl)) Q E s := by
  have hb00 := pow_bits hx0 hp0
  have hb01 := pow_bits hx0 hp1
  have hb02 := pow_bits hx0 hp2
  have hb10 := pow_bits hx1 hp0
  have hb11 := pow_bits hx1 hp1
  have hb12 := pow_bits hx1 hp2
  have hb20 := pow_bits hx2 hp0
  have hb21 := pow_bits hx2 hp1
  have hb22 := pow_bits hx2 hp2
  repeat' (first | (k_here; (with_reducible show wpAny _ _ (call (Value.ref 130) [Value.int _ _, Value.int _ _]) _ _ _); k_dflt (refine' ipow_use ?ka ?kb ?k1 ?k2 ?k3 ?k4 ?k5 ?k6 ?k7 ?k8 ?_; (case ka => assumption); (case kb => constructor <;> omega); (case k1 => k_asm); (case k2 => k_asm); (case k3 => k_asm); (case k4 => k_asm); (case k5 => k_asm); (case k6 => first | exact rfl | assumption); (case k7 => ktr_room); (case k8 => ktr_units)); intro t9 h9 tk9 F9 N9; (try dsimp only); (try k_fold)) | (k_here; (with_reducible show wpAny _ _ (call (Value.ref 109) [Value.int _ _, Value.int _ _]) _ _ _); k_dflt (refine' mul_use ?ka ?k1 ?k2 ?k3 ?k4 ?k5 ?k6 ?k7 ?k8 ?_; (case ka => (first | exact IntMulOk.of_le (by assumption) (by assumption) (by decide) | exact IntMulOk.of_le (intBits_mul_le (by assumption) (by assumption)) (by assumption) (by decide))); (case k1 => k_asm); (case k2 => k_asm); (case k3 => k_asm); (case k4 => k_asm); (case k5 => k_asm); (case k6 => first | exact rfl | assumption); (case k7 => ktr_room); (case k8 => ktr_units)); intro t9 h9 tk9 F9 N9; (try dsimp only); (try k_fold)) | (k_here; (with_reducible show wpAny _ _ (call (Value.ref 116) [Value.int _ _, Value.int _ _]) _ _ _); k_dflt (refine' sub_use ?k1 ?k2 ?k3 ?k4 ?k5 ?k6 ?k7 ?k8 ?_; (case k1 => k_asm); (case k2 => k_asm); (case k3 => k_asm); (case k4 => k_asm); (case k5 => k_asm); (case k6 => first | exact rfl | assumption); (case k7 => ktr_room); (case k8 => ktr_units)); intro t9 h9 tk9 F9 N9; (try dsimp only); (try k_fold)) | (k_here; (with_reducible show wpAny _ _ (call (Value.ref 102) [Value.int _ _, Value.int _ _]) _ _ _); k_dflt (refine' add_use ?k1 ?k2 ?k3 ?k4 ?k5 ?k6 ?k7 ?k8 ?_; (case k1 => k_asm); (case k2 => k_asm); (case k3 => k_asm); (case k4 => k_asm); (case k5 => k_asm); (case k6 => first | exact rfl | assumption); (case k7 => ktr_room); (case k8 => ktr_units)); intro t9 h9 tk9 F9 N9; (try dsimp only); (try k_fold)) | (k_unfold; (try dsimp only)) | (k_end; wrow_close) | walk1 | (dsimp only) | (leave1; (try dsimp only)))
  rename Fr _ L _ _ => Fz
  rw [turn_map] at Fz
  exact hret _ _ _ _ _ Fz (by assumption)
theorem det_turn2 {D d0 d1 d2 : Addr} {x0 x1 x2 p0 p1 p2 M Z : Int} {t00 t01 t02 t10 t11 t12 t20 t21 t22 tM tZ tk : Tok}
    (hx0 : -1000 ≤ x0 ∧ x0 ≤ 1000) (hx1 : -1000 ≤ x1 ∧ x1 ≤ 1000) (hx2 : -1000 ≤ x2 ∧ x2 ≤ 1000) (hp0 : 0 ≤ p0 ∧ p0 ≤ 20) (hp1 : 0 ≤ p1 ∧ p1 ≤ 20) (hp2 : 0 ≤ p2 ∧ p2 ≤ 20)
    (B : Below A₀ base outer h₀) (F : Fr h₀ L s.heap (fun y => if y = Str.ofString "s" then some (.int 2 tk) else if y = Str.ofString "less" then some (.int Z tZ) else if y = Str.ofString "more" then some (.int M tM) else if y = Str.ofString "p" then some (.ref D) else mr y)) (X : (KK w.params).In h₀)
    (N : News h₀ L s.heap ((D, W.listOf #[.ref d0, .ref d1, .ref d2] 3) :: (d2, W.listOf #[.int (x2 ^ p0.toNat) t20, .int (x2 ^ p1.toNat) t21, .int (x2 ^ p2.toNat) t22] 3) :: (d1, W.listOf #[.int (x1 ^ p0.toNat) t10, .int (x1 ^ p1.toNat) t11, .int (x1 ^ p2.toNat) t12] 3) :: (d0, W.listOf #[.int (x0 ^ p0.toNat) t00, .int (x0 ^ p1.toNat) t01, .int (x0 ^ p2.toNat) t02] 3) :: news))
    (T : Top VV (looseW VV LO) mean mg mb h₀) (hd : dp + 3 < recursionLimit) (hu : un + 30 < cLine)
    (hret : ∀ (mr' : Str → Option Value) tM' tZ' h' tk', Fr h₀ L h' (fun y => if y = Str.ofString "less" then some (.int (Z + x0 ^ p2.toNat * x1 ^ p1.toNat * x2 ^ p0.toNat) tZ') else if y = Str.ofString "more" then some (.int (M + x0 ^ p2.toNat * x1 ^ p0.toNat * x2 ^ p1.toNat) tM') else if y = Str.ofString "p" then some (.ref D) else mr' y) → News h₀ L h' ((D, W.listOf #[.ref d0, .ref d1, .ref d2] 3) :: (d2, W.listOf #[.int (x2 ^ p0.toNat) t20, .int (x2 ^ p1.toNat) t21, .int (x2 ^ p2.toNat) t22] 3) :: (d1, W.listOf #[.int (x1 ^ p0.toNat) t10, .int (x1 ^ p1.toNat) t11, .int (x1 ^ p2.toNat) t12] 3) :: (d0, W.listOf #[.int (x0 ^ p0.toNat) t00, .int (x0 ^ p1.toNat) t01, .int (x0 ^ p2.toNat) t02] 3) :: news) → Q .next { s with heap := h', toks := tk' }) :
    wpAny (model PP w) (ktrTop dp un gd (Str.ofString "_law_determinant") q24.1.2.2 L 194 (.ref 193) cl outer) (execs detBody (envX (Str.ofString "_law_determinant") q24.1.2.2 L 194 (.ref 193) cl)) Q E s := by
  have hb00 := pow_bits hx0 hp0
  have hb01 := pow_bits hx0 hp1
  have hb02 := pow_bits hx0 hp2
  have hb10 := pow_bits hx1 hp0
  have hb11 := pow_bits hx1 hp1
  have hb12 := pow_bits hx1 hp2
  have hb20 := pow_bits hx2 hp0
  have hb21 := pow_bits hx2 hp1
  have hb22 := pow_bits hx2 hp2
  repeat' (first | (k_here; (with_reducible show wpAny _ _ (call (Value.ref 130) [Value.int _ _, Value.int _ _]) _ _ _); k_dflt (refine' ipow_use ?ka ?kb ?k1 ?k2 ?k3 ?k4 ?k5 ?k6 ?k7 ?k8 ?_; (case ka => assumption); (case kb => constructor <;> omega); (case k1 => k_asm); (case k2 => k_asm); (case k3 => k_asm); (case k4 => k_asm); (case k5 => k_asm); (case k6 => first | exact rfl | assumption); (case k7 => ktr_room); (case k8 => ktr_units)); intro t9 h9 tk9 F9 N9; (try dsimp only); (try k_fold)) | (k_here; (with_reducible show wpAny _ _ (call (Value.ref 109) [Value.int _ _, Value.int _ _]) _ _ _); k_dflt (refine' mul_use ?ka ?k1 ?k2 ?k3 ?k4 ?k5 ?k6 ?k7 ?k8 ?_; (case ka => (first | exact IntMulOk.of_le (by assumption) (by assumption) (by decide) | exact IntMulOk.of_le (intBits_mul_le (by assumption) (by assumption)) (by assumption) (by decide))); (case k1 => k_asm); (case k2 => k_asm); (case k3 => k_asm); (case k4 => k_asm); (case k5 => k_asm); (case k6 => first | exact rfl | assumption); (case k7 => ktr_room); (case k8 => ktr_units)); intro t9 h9 tk9 F9 N9; (try dsimp only); (try k_fold)) | (k_here; (with_reducible show wpAny _ _ (call (Value.ref 116) [Value.int _ _, Value.int _ _]) _ _ _); k_dflt (refine' sub_use ?k1 ?k2 ?k3 ?k4 ?k5 ?k6 ?k7 ?k8 ?_; (case k1 => k_asm); (case k2 => k_asm); (case k3 => k_asm); (case k4 => k_asm); (case k5 => k_asm); (case k6 => first | exact rfl | assumption); (case k7 => ktr_room); (case k8 => ktr_units)); intro t9 h9 tk9 F9 N9; (try dsimp only); (try k_fold)) | (k_here; (with_reducible show wpAny _ _ (call (Value.ref 102) [Value.int _ _, Value.int _ _]) _ _ _); k_dflt (refine' add_use ?k1 ?k2 ?k3 ?k4 ?k5 ?k6 ?k7 ?k8 ?_; (case k1 => k_asm); (case k2 => k_asm); (case k3 => k_asm); (case k4 => k_asm); (case k5 => k_asm); (case k6 => first | exact rfl | assumption); (case k7 => ktr_room); (case k8 => ktr_units)); intro t9 h9 tk9 F9 N9; (try dsimp only); (try k_fold)) | (k_unfold; (try dsimp only)) | (k_end; wrow_close) | walk1 | (dsimp only) | (leave1; (try dsimp only)))
  rename Fr _ L _ _ => Fz
  rw [turn_map] at Fz
  exact hret _ _ _ _ _ Fz (by assumption)
local macro_rules | `(tactic| passes_own) => `(tactic| assumption)
theorem det_tail {D d0 d1 d2 : Addr} {x0 x1 x2 p0 p1 p2 : Int} {t00 t01 t02 t10 t11 t12 t20 t21 t22 : Tok}
    (hx0 : -1000 ≤ x0 ∧ x0 ≤ 1000) (hx1 : -1000 ≤ x1 ∧ x1 ≤ 1000) (hx2 : -1000 ≤ x2 ∧ x2 ≤ 1000) (hp0 : 0 ≤ p0 ∧ p0 ≤ 20) (hp1 : 0 ≤ p1 ∧ p1 ≤ 20) (hp2 : 0 ≤ p2 ∧ p2 ≤ 20)
    (B : Below A₀ base outer h₀) (F : Fr h₀ L s.heap (fun y => if y = Str.ofString "p" then some (.ref D) else mr y)) (X : (KK w.params).In h₀)
    (N : News h₀ L s.heap ((D, W.listOf #[.ref d0, .ref d1, .ref d2] 3) :: (d2, W.listOf #[.int (x2 ^ p0.toNat) t20, .int (x2 ^ p1.toNat) t21, .int (x2 ^ p2.toNat) t22] 3) :: (d1, W.listOf #[.int (x1 ^ p0.toNat) t10, .int (x1 ^ p1.toNat) t11, .int (x1 ^ p2.toNat) t12] 3) :: (d0, W.listOf #[.int (x0 ^ p0.toNat) t00, .int (x0 ^ p1.toNat) t01, .int (x0 ^ p2.toNat) t02] 3) :: news))
    (T : Top VV (looseW VV LO) mean mg mb h₀) (hd : dp + 3 < recursionLimit) (hu : un + 30 < cLine)
    (hE : PassesOwn (model PP w) (ktrTop dp un gd (Str.ofString "_law_determinant") q24.1.2.2 L 194 (.ref 193) cl outer) (envX (Str.ofString "_law_determinant") q24.1.2.2 L 194 (.ref 193) cl) E)
    (hret : ∀ m' t h' tk', Fr h₀ L h' m' → News h₀ L h' news → Q (.ret (.int (detV x0 x1 x2 p0 p1 p2) t)) { s with heap := h', toks := tk' }) :
    wpAny (model PP w) (ktrTop dp un gd (Str.ofString "_law_determinant") q24.1.2.2 L 194 (.ref 193) cl outer) (execs q24.1.2.1.tail (envX (Str.ofString "_law_determinant") q24.1.2.2 L 194 (.ref 193) cl)) Q E s := by
  have hb00 := pow_bits hx0 hp0
  have hb01 := pow_bits hx0 hp1
  have hb02 := pow_bits hx0 hp2
  have hb10 := pow_bits hx1 hp0
  have hb11 := pow_bits hx1 hp1
  have hb12 := pow_bits hx1 hp2
  have hb20 := pow_bits hx2 hp0
  have hb21 := pow_bits hx2 hp1
  have hb22 := pow_bits hx2 hp2
  iterate 18 (first | ((fail_if_success (with_reducible show wpAny _ _ _ _ _ _)); (refine UnrEnd.intro (by assumption) (by assumption) _ (fun p hp => hp) (allLt_off (by assumption)) ?_)) | (k_here; (with_reducible show wpAny _ _ (call (Value.ref 130) [Value.int _ _, Value.int _ _]) _ _ _); k_dflt (refine' ipow_use ?ka ?kb ?k1 ?k2 ?k3 ?k4 ?k5 ?k6 ?k7 ?k8 ?_; (case ka => assumption); (case kb => constructor <;> omega); (case k1 => k_asm); (case k2 => k_asm); (case k3 => k_asm); (case k4 => k_asm); (case k5 => k_asm); (case k6 => first | exact rfl | assumption); (case k7 => ktr_room); (case k8 => ktr_units)); intro t9 h9 tk9 F9 N9; (try dsimp only); (try k_fold)) | (k_here; (with_reducible show wpAny _ _ (call (Value.ref 109) [Value.int _ _, Value.int _ _]) _ _ _); k_dflt (refine' mul_use ?ka ?k1 ?k2 ?k3 ?k4 ?k5 ?k6 ?k7 ?k8 ?_; (case ka => (first | exact IntMulOk.of_le (by assumption) (by assumption) (by decide) | exact IntMulOk.of_le (intBits_mul_le (by assumption) (by assumption)) (by assumption) (by decide))); (case k1 => k_asm); (case k2 => k_asm); (case k3 => k_asm); (case k4 => k_asm); (case k5 => k_asm); (case k6 => first | exact rfl | assumption); (case k7 => ktr_room); (case k8 => ktr_units)); intro t9 h9 tk9 F9 N9; (try dsimp only); (try k_fold)) | (k_here; (with_reducible show wpAny _ _ (call (Value.ref 116) [Value.int _ _, Value.int _ _]) _ _ _); k_dflt (refine' sub_use ?k1 ?k2 ?k3 ?k4 ?k5 ?k6 ?k7 ?k8 ?_; (case k1 => k_asm); (case k2 => k_asm); (case k3 => k_asm); (case k4 => k_asm); (case k5 => k_asm); (case k6 => first | exact rfl | assumption); (case k7 => ktr_room); (case k8 => ktr_units)); intro t9 h9 tk9 F9 N9; (try dsimp only); (try k_fold)) | (k_here; (with_reducible show wpAny _ _ (call (Value.ref 102) [Value.int _ _, Value.int _ _]) _ _ _); k_dflt (refine' add_use ?k1 ?k2 ?k3 ?k4 ?k5 ?k6 ?k7 ?k8 ?_; (case k1 => k_asm); (case k2 => k_asm); (case k3 => k_asm); (case k4 => k_asm); (case k5 => k_asm); (case k6 => first | exact rfl | assumption); (case k7 => ktr_room); (case k8 => ktr_units)); intro t9 h9 tk9 F9 N9; (try dsimp only); (try k_fold)) | walk1)
  refine RangeRest.succ (fun t' h' tk' F' N' => ?_)
  k_dflt (refine' det_turn0 hx0 hx1 hx2 hp0 hp1 hp2 B F' X (rot5 N') T hd hu ?_)
  intro mr' tM' tZ' h'' tk'' F'' N''
  dsimp only [UnrPost]
  refine UnrEnd.intro F'' (tor5 N'') _ (fun p hp => hp) (allLt_off (by assumption)) ?_
  clear F' N' F'' N''
  refine RangeRest.succ (fun t' h' tk' F' N' => ?_)
  k_dflt (refine' det_turn1 hx0 hx1 hx2 hp0 hp1 hp2 B F' X (rot5 N') T hd hu ?_)
  intro mr' tM' tZ' h'' tk'' F'' N''
  dsimp only [UnrPost]
  refine UnrEnd.intro F'' (tor5 N'') _ (fun p hp => hp) (allLt_off (by assumption)) ?_
  clear F' N' F'' N''
  refine RangeRest.succ (fun t' h' tk' F' N' => ?_)
  k_dflt (refine' det_turn2 hx0 hx1 hx2 hp0 hp1 hp2 B F' X (rot5 N') T hd hu ?_)
  intro mr' tM' tZ' h'' tk'' F'' N''
  dsimp only [UnrPost]
  refine UnrEnd.intro F'' (tor5 N'') _ (fun p hp => hp) (allLt_off (by assumption)) ?_
  clear F' N' F'' N''
  refine RangeRest.zero (fun h' tk' F' N' => ?_)
  dsimp only
  repeat' (first | ((fail_if_success (with_reducible show wpAny _ _ _ _ _ _)); (refine UnrEnd.intro (by assumption) (by assumption) _ (fun p hp => hp) (allLt_off (by assumption)) ?_)) | (k_here; (with_reducible show wpAny _ _ (call (Value.ref 130) [Value.int _ _, Value.int _ _]) _ _ _); k_dflt (refine' ipow_use ?ka ?kb ?k1 ?k2 ?k3 ?k4 ?k5 ?k6 ?k7 ?k8 ?_; (case ka => assumption); (case kb => constructor <;> omega); (case k1 => k_asm); (case k2 => k_asm); (case k3 => k_asm); (case k4 => k_asm); (case k5 => k_asm); (case k6 => first | exact rfl | assumption); (case k7 => ktr_room); (case k8 => ktr_units)); intro t9 h9 tk9 F9 N9; (try dsimp only); (try k_fold)) | (k_here; (with_reducible show wpAny _ _ (call (Value.ref 109) [Value.int _ _, Value.int _ _]) _ _ _); k_dflt (refine' mul_use ?ka ?k1 ?k2 ?k3 ?k4 ?k5 ?k6 ?k7 ?k8 ?_; (case ka => (first | exact IntMulOk.of_le (by assumption) (by assumption) (by decide) | exact IntMulOk.of_le (intBits_mul_le (by assumption) (by assumption)) (by assumption) (by decide))); (case k1 => k_asm); (case k2 => k_asm); (case k3 => k_asm); (case k4 => k_asm); (case k5 => k_asm); (case k6 => first | exact rfl | assumption); (case k7 => ktr_room); (case k8 => ktr_units)); intro t9 h9 tk9 F9 N9; (try dsimp only); (try k_fold)) | (k_here; (with_reducible show wpAny _ _ (call (Value.ref 116) [Value.int _ _, Value.int _ _]) _ _ _); k_dflt (refine' sub_use ?k1 ?k2 ?k3 ?k4 ?k5 ?k6 ?k7 ?k8 ?_; (case k1 => k_asm); (case k2 => k_asm); (case k3 => k_asm); (case k4 => k_asm); (case k5 => k_asm); (case k6 => first | exact rfl | assumption); (case k7 => ktr_room); (case k8 => ktr_units)); intro t9 h9 tk9 F9 N9; (try dsimp only); (try k_fold)) | (k_here; (with_reducible show wpAny _ _ (call (Value.ref 102) [Value.int _ _, Value.int _ _]) _ _ _); k_dflt (refine' add_use ?k1 ?k2 ?k3 ?k4 ?k5 ?k6 ?k7 ?k8 ?_; (case k1 => k_asm); (case k2 => k_asm); (case k3 => k_asm); (case k4 => k_asm); (case k5 => k_asm); (case k6 => first | exact rfl | assumption); (case k7 => ktr_room); (case k8 => ktr_units)); intro t9 h9 tk9 F9 N9; (try dsimp only); (try k_fold)) | (k_unfold; (try dsimp only)) | (k_end; wrow_close) | walk1 | (dsimp only) | (leave1; (try dsimp only)))
  exact hret _ _ _ _ (by k_asm) (by refine' cb_drop ?cbN ?cbS; (case cbN => assumption); (case cbS => kcj_all))
end
end MyLaw
end
end
section
open PySem PySem.Spec PySem.Calls PySem.W PySem.W.X PyProof.Rows
noncomputable section
namespace MyLaw
section
variable {w : World} {mean : ExcName → Option Value} {mg mb : Str → Option Value} {news : List (Addr × Obj)} {dp un : Nat} {gd : Option (List Code)} {cn : Str} {cs : Scope} {a : Addr} {ccd : Value} {cl : List (Str × Addr)} {outer : List Env} {A₀ : Around} {base h₀ : Heap} {L : Addr} {m : Str → Option Value} {s : Shared} {Q E : Value → Shared → Prop}
local macro_rules | `(tactic| walk_at "CompSrc") => `(tactic| (k_here; k_dflt (refine LCg.CompSrc.ledger (by rfl) (by k_asm) (by k_asm) (by k_mem) (by first | size_fits | exact Nat.le_of_ble_eq_true rfl) ?_; intro g'; lcg_lit)))
local macro_rules | `(tactic| walk_at "CompEnd") => `(tactic| (refine LCg.CompEnd.intro (by assumption) (by assumption) _ (fun p hp => hp) (by first | assumption | (simp only [LCg.Off3, and_true]; assumption)) (by lcg_src) ?_))
local macro_rules | `(tactic| walk_at "CompSrcC") => `(tactic| (k_here; k_dflt (refine CompSrcC.ledger (by rfl) (by k_asm) (by k_asm) (by k_mem) (by first | size_fits | exact Nat.le_of_ble_eq_true rfl) ?_); intro g'))
local macro_rules | `(tactic| walk_at "CompRestC") => `(tactic| ((intro v' I' oI' C' oC' D' m' c' oc' h' tk' E' hv' hC' hcc' F' N' off' ne' offc'); (lcg_open hv'); (try simp only [LCg.Off3, and_true] at off')))
local macro_rules | `(tactic| walk_at "Exists") => `(tactic| (refine ⟨_, _, _, rfl, by assumption, (by assumption), (by first | assumption | (simp only [LCg.Off3, and_true]; assumption)), (by first | assumption | (simp only [LCg.Off1, and_true]; assumption)), (by lcg_src), ?_⟩))
theorem det_use {ln lp : Addr} {kn kp : Nat} {x0 x1 x2 p0 p1 p2 : Int} {tx0 tx1 tx2 tp0 tp1 tp2 : Tok}
    (hx0 : -1000 ≤ x0 ∧ x0 ≤ 1000) (hx1 : -1000 ≤ x1 ∧ x1 ≤ 1000) (hx2 : -1000 ≤ x2 ∧ x2 ≤ 1000) (hp0 : 0 ≤ p0 ∧ p0 ≤ 20) (hp1 : 0 ≤ p1 ∧ p1 ≤ 20) (hp2 : 0 ≤ p2 ∧ p2 ≤ 20)
    (hln : (ln, W.listOf #[.int x0 tx0, .int x1 tx1, .int x2 tx2] kn) ∈ news) (hlp : (lp, W.listOf #[.int p0 tp0, .int p1 tp1, .int p2 tp2] kp) ∈ news)
    (B : Below A₀ base outer h₀) (F : Fr h₀ L s.heap m) (X : (KK w.params).In h₀) (N : News h₀ L s.heap news) (T : Top VV (looseW VV LO) mean mg mb h₀) (hk : cs.kind = .function) (hd : dp + 6 < recursionLimit) (hu : un + 60 < cLine)
    (hret : ∀ t h' tk', Fr h₀ L h' m → News h₀ L h' news → Q (.int (detV x0 x1 x2 p0 p1 p2) t) { s with heap := h', toks := tk' }) :
    wpAny (model PP w) (ktrTop dp un gd cn cs L a ccd cl outer) (call (.ref 194) [.ref ln, .ref lp]) Q E s := by
  have cbI : CbIn 194 := CbIn.mk
  have N1 : News h₀ L s.heap ((ln, W.listOf #[.int x0 tx0, .int x1 tx1, .int x2 tx2] kn) :: (lp, W.listOf #[.int p0 tp0, .int p1 tp1, .int p2 tp2] kp) :: news) := fun q hq => by
    rcases List.mem_cons.mp hq with rfl | hq
    · exact N _ hln
    rcases List.mem_cons.mp hq with rfl | hq
    · exact N _ hlp
    exact N _ hq
  replace hret : ∀ t h' tk', Fr h₀ L h' m → News h₀ L h' ((ln, W.listOf #[.int x0 tx0, .int x1 tx1, .int x2 tx2] kn) :: (lp, W.listOf #[.int p0 tp0, .int p1 tp1, .int p2 tp2] kp) :: news) → Q (.int (detV x0 x1 x2 p0 p1 p2) t) { s with heap := h', toks := tk' } := fun t h' tk' F' N' => hret t h' tk' F' fun q hq => N' q (.tail _ (.tail _ hq))
  clear N hln hlp
  refine wpAny_call ?_
  (k_dflt (refine' code_defC ?k1 ?k2 ?k3 ?k4 ?k5 ?kA ?kF ?kK ?k6 ?k7 ?k8 ?k9 ?kB ?kD ?_ ?c2 ?c3 ?c4; (case kA => exact rfl); (case kF => exact rfl); (case kK => assumption); (case k1 => k_asm); (case k2 => k_asm); (case k3 => k_asm); (case k4 => k_asm); (case k5 => k_asm); (case k6 => k_is); (case k7 => k_is); (case k8 => ktr_room); (case k9 => exact BindsTo.of_eq rfl); (case kB => exact rfl); (case kD => decide +kernel); (case c2 => exact rfl); (case c3 => exact rfl); (case c4 => exact rfl); k_whole; intro g' L' h' tk' cells' FG' F' N' Y' B' X' T' l1; (try k_lt l1); k_cells Y'; (try simp only [List.cons_append, List.nil_append] at N'); (try dsimp only); (try k_lift B'); (try k_fold)))
  repeat' (first | ((with_reducible show wpAny _ _ (eval (PySem.Expr.ListComp _ _ _ _) _) _ _ _); (k_here; lcf_look; k_dflt (refine LCg.ListComp_U (F₀ := by k_asm) (by with_unfolding_all rfl) (by decide) (by rfl) (by decide) (by rfl) ?_); k_dflt lcg_toSrc)) | (k_here; (with_reducible show wpAny _ _ (call (Value.ref 130) [Value.int _ _, Value.int _ _]) _ _ _); k_dflt (refine' ipow_use ?ka ?kb ?k1 ?k2 ?k3 ?k4 ?k5 ?k6 ?k7 ?k8 ?_; (case ka => assumption); (case kb => constructor <;> omega); (case k1 => k_asm); (case k2 => k_asm); (case k3 => k_asm); (case k4 => k_asm); (case k5 => k_asm); (case k6 => first | exact rfl | assumption); (case k7 => ktr_room); (case k8 => ktr_units)); intro t9 h9 tk9 F9 N9; (try dsimp only); (try k_fold)) | (k_here; (with_reducible show wpAny _ _ (call (Value.ref 109) [Value.int _ _, Value.int _ _]) _ _ _); k_dflt (refine' mul_use ?ka ?k1 ?k2 ?k3 ?k4 ?k5 ?k6 ?k7 ?k8 ?_; (case ka => (first | exact IntMulOk.of_le (by assumption) (by assumption) (by decide) | exact IntMulOk.of_le (intBits_mul_le (by assumption) (by assumption)) (by assumption) (by decide))); (case k1 => k_asm); (case k2 => k_asm); (case k3 => k_asm); (case k4 => k_asm); (case k5 => k_asm); (case k6 => first | exact rfl | assumption); (case k7 => ktr_room); (case k8 => ktr_units)); intro t9 h9 tk9 F9 N9; (try dsimp only); (try k_fold)) | (k_here; (with_reducible show wpAny _ _ (call (Value.ref 116) [Value.int _ _, Value.int _ _]) _ _ _); k_dflt (refine' sub_use ?k1 ?k2 ?k3 ?k4 ?k5 ?k6 ?k7 ?k8 ?_; (case k1 => k_asm); (case k2 => k_asm); (case k3 => k_asm); (case k4 => k_asm); (case k5 => k_asm); (case k6 => first | exact rfl | assumption); (case k7 => ktr_room); (case k8 => ktr_units)); intro t9 h9 tk9 F9 N9; (try dsimp only); (try k_fold)) | (k_here; (with_reducible show wpAny _ _ (call (Value.ref 102) [Value.int _ _, Value.int _ _]) _ _ _); k_dflt (refine' add_use ?k1 ?k2 ?k3 ?k4 ?k5 ?k6 ?k7 ?k8 ?_; (case k1 => k_asm); (case k2 => k_asm); (case k3 => k_asm); (case k4 => k_asm); (case k5 => k_asm); (case k6 => first | exact rfl | assumption); (case k7 => ktr_room); (case k8 => ktr_units)); intro t9 h9 tk9 F9 N9; (try dsimp only); (try k_fold)) | (k_unfold; (try dsimp only)) | (k_end; wrow_close) | walk1 | (dsimp only) | (leave1; (try dsimp only)))
  k_dflt (refine Assign_UC (by k_asm) rfl (by with_unfolding_all rfl) (by with_unfolding_all rfl) (fun _ => rfl) (fun _ => rfl) rfl (by decide) (fun _ _ => rfl) rfl rfl ?_ (by intro _; rfl))
  (first | ((with_reducible show wpAny _ _ (eval (PySem.Expr.ListComp _ _ _ _) _) _ _ _); (k_here; lcf_look; k_dflt (refine LCg.ListComp_U (F₀ := by k_asm) (by with_unfolding_all rfl) (by decide) (by rfl) (by decide) (by rfl) ?_); k_dflt lcg_toSrc)) | (k_here; (with_reducible show wpAny _ _ (call (Value.ref 130) [Value.int _ _, Value.int _ _]) _ _ _); k_dflt (refine' ipow_use ?ka ?kb ?k1 ?k2 ?k3 ?k4 ?k5 ?k6 ?k7 ?k8 ?_; (case ka => assumption); (case kb => constructor <;> omega); (case k1 => k_asm); (case k2 => k_asm); (case k3 => k_asm); (case k4 => k_asm); (case k5 => k_asm); (case k6 => first | exact rfl | assumption); (case k7 => ktr_room); (case k8 => ktr_units)); intro t9 h9 tk9 F9 N9; (try dsimp only); (try k_fold)) | (k_here; (with_reducible show wpAny _ _ (call (Value.ref 109) [Value.int _ _, Value.int _ _]) _ _ _); k_dflt (refine' mul_use ?ka ?k1 ?k2 ?k3 ?k4 ?k5 ?k6 ?k7 ?k8 ?_; (case ka => (first | exact IntMulOk.of_le (by assumption) (by assumption) (by decide) | exact IntMulOk.of_le (intBits_mul_le (by assumption) (by assumption)) (by assumption) (by decide))); (case k1 => k_asm); (case k2 => k_asm); (case k3 => k_asm); (case k4 => k_asm); (case k5 => k_asm); (case k6 => first | exact rfl | assumption); (case k7 => ktr_room); (case k8 => ktr_units)); intro t9 h9 tk9 F9 N9; (try dsimp only); (try k_fold)) | (k_here; (with_reducible show wpAny _ _ (call (Value.ref 116) [Value.int _ _, Value.int _ _]) _ _ _); k_dflt (refine' sub_use ?k1 ?k2 ?k3 ?k4 ?k5 ?k6 ?k7 ?k8 ?_; (case k1 => k_asm); (case k2 => k_asm); (case k3 => k_asm); (case k4 => k_asm); (case k5 => k_asm); (case k6 => first | exact rfl | assumption); (case k7 => ktr_room); (case k8 => ktr_units)); intro t9 h9 tk9 F9 N9; (try dsimp only); (try k_fold)) | (k_here; (with_reducible show wpAny _ _ (call (Value.ref 102) [Value.int _ _, Value.int _ _]) _ _ _); k_dflt (refine' add_use ?k1 ?k2 ?k3 ?k4 ?k5 ?k6 ?k7 ?k8 ?_; (case k1 => k_asm); (case k2 => k_asm); (case k3 => k_asm); (case k4 => k_asm); (case k5 => k_asm); (case k6 => first | exact rfl | assumption); (case k7 => ktr_room); (case k8 => ktr_units)); intro t9 h9 tk9 F9 N9; (try dsimp only); (try k_fold)) | walk1)
  refine CompSrcC.ledger (by rfl) (by k_asm) (by k_asm) (by k_mem) (by exact Nat.le_of_ble_eq_true rfl) ?_
  intro g0
  intro v' I' oI' C' oC' D' m' c' oc' h' tk' E' hv' hC' hcc' F' N' off' ne' offc'
  lcg_open hv'
  simp only [LCg.Off3, and_true] at off'
  iterate 41 (first | ((with_reducible show wpAny _ _ (eval (PySem.Expr.ListComp _ _ _ _) _) _ _ _); (k_here; lcf_look; k_dflt (refine LCg.ListComp_U (F₀ := by k_asm) (by with_unfolding_all rfl) (by decide) (by rfl) (by decide) (by rfl) ?_); k_dflt lcg_toSrc)) | (k_here; (with_reducible show wpAny _ _ (call (Value.ref 130) [Value.int _ _, Value.int _ _]) _ _ _); k_dflt (refine' ipow_use ?ka ?kb ?k1 ?k2 ?k3 ?k4 ?k5 ?k6 ?k7 ?k8 ?_; (case ka => assumption); (case kb => constructor <;> omega); (case k1 => k_asm); (case k2 => k_asm); (case k3 => k_asm); (case k4 => k_asm); (case k5 => k_asm); (case k6 => first | exact rfl | assumption); (case k7 => ktr_room); (case k8 => ktr_units)); intro t9 h9 tk9 F9 N9; (try dsimp only); (try k_fold)) | (k_here; (with_reducible show wpAny _ _ (call (Value.ref 109) [Value.int _ _, Value.int _ _]) _ _ _); k_dflt (refine' mul_use ?ka ?k1 ?k2 ?k3 ?k4 ?k5 ?k6 ?k7 ?k8 ?_; (case ka => (first | exact IntMulOk.of_le (by assumption) (by assumption) (by decide) | exact IntMulOk.of_le (intBits_mul_le (by assumption) (by assumption)) (by assumption) (by decide))); (case k1 => k_asm); (case k2 => k_asm); (case k3 => k_asm); (case k4 => k_asm); (case k5 => k_asm); (case k6 => first | exact rfl | assumption); (case k7 => ktr_room); (case k8 => ktr_units)); intro t9 h9 tk9 F9 N9; (try dsimp only); (try k_fold)) | (k_here; (with_reducible show wpAny _ _ (call (Value.ref 116) [Value.int _ _, Value.int _ _]) _ _ _); k_dflt (refine' sub_use ?k1 ?k2 ?k3 ?k4 ?k5 ?k6 ?k7 ?k8 ?_; (case k1 => k_asm); (case k2 => k_asm); (case k3 => k_asm); (case k4 => k_asm); (case k5 => k_asm); (case k6 => first | exact rfl | assumption); (case k7 => ktr_room); (case k8 => ktr_units)); intro t9 h9 tk9 F9 N9; (try dsimp only); (try k_fold)) | (k_here; (with_reducible show wpAny _ _ (call (Value.ref 102) [Value.int _ _, Value.int _ _]) _ _ _); k_dflt (refine' add_use ?k1 ?k2 ?k3 ?k4 ?k5 ?k6 ?k7 ?k8 ?_; (case k1 => k_asm); (case k2 => k_asm); (case k3 => k_asm); (case k4 => k_asm); (case k5 => k_asm); (case k6 => first | exact rfl | assumption); (case k7 => ktr_room); (case k8 => ktr_units)); intro t9 h9 tk9 F9 N9; (try dsimp only); (try k_fold)) | walk1)
  unfold LCg.FinE
  intro Dn hn tkn Fn Nn on
  refine restC_end Fn Nn on (by simp only [LCg.Off3, and_true]; exact off') offc' (by lcg_src) ?_
  clear hC' hcc' F' N' off' ne' offc' Fn Nn on
  intro v' I' oI' C' oC' D' m' c' oc' h' tk' E' hv' hC' hcc' F' N' off' ne' offc'
  lcg_open hv'
  simp only [LCg.Off3, and_true] at off'
  iterate 41 (first | ((with_reducible show wpAny _ _ (eval (PySem.Expr.ListComp _ _ _ _) _) _ _ _); (k_here; lcf_look; k_dflt (refine LCg.ListComp_U (F₀ := by k_asm) (by with_unfolding_all rfl) (by decide) (by rfl) (by decide) (by rfl) ?_); k_dflt lcg_toSrc)) | (k_here; (with_reducible show wpAny _ _ (call (Value.ref 130) [Value.int _ _, Value.int _ _]) _ _ _); k_dflt (refine' ipow_use ?ka ?kb ?k1 ?k2 ?k3 ?k4 ?k5 ?k6 ?k7 ?k8 ?_; (case ka => assumption); (case kb => constructor <;> omega); (case k1 => k_asm); (case k2 => k_asm); (case k3 => k_asm); (case k4 => k_asm); (case k5 => k_asm); (case k6 => first | exact rfl | assumption); (case k7 => ktr_room); (case k8 => ktr_units)); intro t9 h9 tk9 F9 N9; (try dsimp only); (try k_fold)) | (k_here; (with_reducible show wpAny _ _ (call (Value.ref 109) [Value.int _ _, Value.int _ _]) _ _ _); k_dflt (refine' mul_use ?ka ?k1 ?k2 ?k3 ?k4 ?k5 ?k6 ?k7 ?k8 ?_; (case ka => (first | exact IntMulOk.of_le (by assumption) (by assumption) (by decide) | exact IntMulOk.of_le (intBits_mul_le (by assumption) (by assumption)) (by assumption) (by decide))); (case k1 => k_asm); (case k2 => k_asm); (case k3 => k_asm); (case k4 => k_asm); (case k5 => k_asm); (case k6 => first | exact rfl | assumption); (case k7 => ktr_room); (case k8 => ktr_units)); intro t9 h9 tk9 F9 N9; (try dsimp only); (try k_fold)) | (k_here; (with_reducible show wpAny _ _ (call (Value.ref 116) [Value.int _ _, Value.int _ _]) _ _ _); k_dflt (refine' sub_use ?k1 ?k2 ?k3 ?k4 ?k5 ?k6 ?k7 ?k8 ?_; (case k1 => k_asm); (case k2 => k_asm); (case k3 => k_asm); (case k4 => k_asm); (case k5 => k_asm); (case k6 => first | exact rfl | assumption); (case k7 => ktr_room); (case k8 => ktr_units)); intro t9 h9 tk9 F9 N9; (try dsimp only); (try k_fold)) | (k_here; (with_reducible show wpAny _ _ (call (Value.ref 102) [Value.int _ _, Value.int _ _]) _ _ _); k_dflt (refine' add_use ?k1 ?k2 ?k3 ?k4 ?k5 ?k6 ?k7 ?k8 ?_; (case k1 => k_asm); (case k2 => k_asm); (case k3 => k_asm); (case k4 => k_asm); (case k5 => k_asm); (case k6 => first | exact rfl | assumption); (case k7 => ktr_room); (case k8 => ktr_units)); intro t9 h9 tk9 F9 N9; (try dsimp only); (try k_fold)) | walk1)
  unfold LCg.FinE
  intro Dn hn tkn Fn Nn on
  refine restC_end Fn Nn on (by simp only [LCg.Off3, and_true]; exact off') offc' (by lcg_src) ?_
  clear hC' hcc' F' N' off' ne' offc' Fn Nn on
  intro v' I' oI' C' oC' D' m' c' oc' h' tk' E' hv' hC' hcc' F' N' off' ne' offc'
  lcg_open hv'
  simp only [LCg.Off3, and_true] at off'
  iterate 41 (first | ((with_reducible show wpAny _ _ (eval (PySem.Expr.ListComp _ _ _ _) _) _ _ _); (k_here; lcf_look; k_dflt (refine LCg.ListComp_U (F₀ := by k_asm) (by with_unfolding_all rfl) (by decide) (by rfl) (by decide) (by rfl) ?_); k_dflt lcg_toSrc)) | (k_here; (with_reducible show wpAny _ _ (call (Value.ref 130) [Value.int _ _, Value.int _ _]) _ _ _); k_dflt (refine' ipow_use ?ka ?kb ?k1 ?k2 ?k3 ?k4 ?k5 ?k6 ?k7 ?k8 ?_; (case ka => assumption); (case kb => constructor <;> omega); (case k1 => k_asm); (case k2 => k_asm); (case k3 => k_asm); (case k4 => k_asm); (case k5 => k_asm); (case k6 => first | exact rfl | assumption); (case k7 => ktr_room); (case k8 => ktr_units)); intro t9 h9 tk9 F9 N9; (try dsimp only); (try k_fold)) | (k_here; (with_reducible show wpAny _ _ (call (Value.ref 109) [Value.int _ _, Value.int _ _]) _ _ _); k_dflt (refine' mul_use ?ka ?k1 ?k2 ?k3 ?k4 ?k5 ?k6 ?k7 ?k8 ?_; (case ka => (first | exact IntMulOk.of_le (by assumption) (by assumption) (by decide) | exact IntMulOk.of_le (intBits_mul_le (by assumption) (by assumption)) (by assumption) (by decide))); (case k1 => k_asm); (case k2 => k_asm); (case k3 => k_asm); (case k4 => k_asm); (case k5 => k_asm); (case k6 => first | exact rfl | assumption); (case k7 => ktr_room); (case k8 => ktr_units)); intro t9 h9 tk9 F9 N9; (try dsimp only); (try k_fold)) | (k_here; (with_reducible show wpAny _ _ (call (Value.ref 116) [Value.int _ _, Value.int _ _]) _ _ _); k_dflt (refine' sub_use ?k1 ?k2 ?k3 ?k4 ?k5 ?k6 ?k7 ?k8 ?_; (case k1 => k_asm); (case k2 => k_asm); (case k3 => k_asm); (case k4 => k_asm); (case k5 => k_asm); (case k6 => first | exact rfl | assumption); (case k7 => ktr_room); (case k8 => ktr_units)); intro t9 h9 tk9 F9 N9; (try dsimp only); (try k_fold)) | (k_here; (with_reducible show wpAny _ _ (call (Value.ref 102) [Value.int _ _, Value.int _ _]) _ _ _); k_dflt (refine' add_use ?k1 ?k2 ?k3 ?k4 ?k5 ?k6 ?k7 ?k8 ?_; (case k1 => k_asm); (case k2 => k_asm); (case k3 => k_asm); (case k4 => k_asm); (case k5 => k_asm); (case k6 => first | exact rfl | assumption); (case k7 => ktr_room); (case k8 => ktr_units)); intro t9 h9 tk9 F9 N9; (try dsimp only); (try k_fold)) | walk1)
  unfold LCg.FinE
  intro Dn hn tkn Fn Nn on
  refine restC_end Fn Nn on (by simp only [LCg.Off3, and_true]; exact off') offc' (by lcg_src) ?_
  clear hC' hcc' F' N' off' ne' offc' Fn Nn on
  refine restC_zero ?_
  unfold LCg.FinA
  intro Dp hp9 tkp Fp Np op
  simp only [LCg.Off1, and_true] at op
  simp only [List.nil_append, List.cons_append] at Np
  dsimp only
  k_dflt (refine' det_tail hx0 hx1 hx2 hp0 hp1 hp2 B' Fp X' Np T' ?kd ?ku ?kE ?_)
  case kd => ktr_room
  case ku => ktr_units
  case kE => passes_own
  intro m9 t9 h9 tk9 F9 N9
  dsimp only
  repeat' (first | ((with_reducible show wpAny _ _ (eval (PySem.Expr.ListComp _ _ _ _) _) _ _ _); (k_here; lcf_look; k_dflt (refine LCg.ListComp_U (F₀ := by k_asm) (by with_unfolding_all rfl) (by decide) (by rfl) (by decide) (by rfl) ?_); k_dflt lcg_toSrc)) | (k_here; (with_reducible show wpAny _ _ (call (Value.ref 130) [Value.int _ _, Value.int _ _]) _ _ _); k_dflt (refine' ipow_use ?ka ?kb ?k1 ?k2 ?k3 ?k4 ?k5 ?k6 ?k7 ?k8 ?_; (case ka => assumption); (case kb => constructor <;> omega); (case k1 => k_asm); (case k2 => k_asm); (case k3 => k_asm); (case k4 => k_asm); (case k5 => k_asm); (case k6 => first | exact rfl | assumption); (case k7 => ktr_room); (case k8 => ktr_units)); intro t9 h9 tk9 F9 N9; (try dsimp only); (try k_fold)) | (k_here; (with_reducible show wpAny _ _ (call (Value.ref 109) [Value.int _ _, Value.int _ _]) _ _ _); k_dflt (refine' mul_use ?ka ?k1 ?k2 ?k3 ?k4 ?k5 ?k6 ?k7 ?k8 ?_; (case ka => (first | exact IntMulOk.of_le (by assumption) (by assumption) (by decide) | exact IntMulOk.of_le (intBits_mul_le (by assumption) (by assumption)) (by assumption) (by decide))); (case k1 => k_asm); (case k2 => k_asm); (case k3 => k_asm); (case k4 => k_asm); (case k5 => k_asm); (case k6 => first | exact rfl | assumption); (case k7 => ktr_room); (case k8 => ktr_units)); intro t9 h9 tk9 F9 N9; (try dsimp only); (try k_fold)) | (k_here; (with_reducible show wpAny _ _ (call (Value.ref 116) [Value.int _ _, Value.int _ _]) _ _ _); k_dflt (refine' sub_use ?k1 ?k2 ?k3 ?k4 ?k5 ?k6 ?k7 ?k8 ?_; (case k1 => k_asm); (case k2 => k_asm); (case k3 => k_asm); (case k4 => k_asm); (case k5 => k_asm); (case k6 => first | exact rfl | assumption); (case k7 => ktr_room); (case k8 => ktr_units)); intro t9 h9 tk9 F9 N9; (try dsimp only); (try k_fold)) | (k_here; (with_reducible show wpAny _ _ (call (Value.ref 102) [Value.int _ _, Value.int _ _]) _ _ _); k_dflt (refine' add_use ?k1 ?k2 ?k3 ?k4 ?k5 ?k6 ?k7 ?k8 ?_; (case k1 => k_asm); (case k2 => k_asm); (case k3 => k_asm); (case k4 => k_asm); (case k5 => k_asm); (case k6 => first | exact rfl | assumption); (case k7 => ktr_room); (case k8 => ktr_units)); intro t9 h9 tk9 F9 N9; (try dsimp only); (try k_fold)) | (k_unfold; (try dsimp only)) | (k_end; wrow_close) | walk1 | (dsimp only) | (leave1; (try dsimp only)))
  exact hret _ _ _ (by k_asm) (by refine' cb_drop ?cbN ?cbS; (case cbN => assumption); (case cbS => kcj_all))
end
end MyLaw
end
end
section
open PySem PySem.Spec PySem.Calls PySem.W PySem.W.X PyProof.Rows
noncomputable section
namespace MyLaw
def trnBody : List Stmt := match q21.1.2.1.tail with
  | .For _ _ b _ _ :: _ => b
  | _ => []
def endTab (j : Nat) : List Str := ([["", "", ""], ["\n", "\r", "\r\n"], ["\n\r", "\r\r\n", "\n\n"]].getD j []).map Str.ofString
def endS (j : Nat) (n t : Int) : Str := (endTab j).getD ((n.fdiv 3 + t).fmod 3).toNat Str.empty
theorem frC {h₀ h : Heap} {L : Addr} {m : Str → Option Value} {x : Str} {v : Value} (F : Fr h₀ L h m) (hx : m x = some v) : Fr h₀ L h (fun y => if y = x then some v else m y) := by
  have e : (fun y => if y = x then some v else m y) = m := by
    funext y
    by_cases h : y = x
    · rw [if_pos h, h, hx]
    · rw [if_neg h]
  rw [e]
  exact F
theorem app_empty (x : Str) : x ++ Str.empty = x := PySem.Str.ext' (by rw [PySem.Str.cps_append]; exact Array.append_empty)
def pieceS (j : Nat) (mail : Str) (n t : Int) (bare : Bool) (row : Str) : Str := mail ++ endS j n t ++ (if bare then Str.empty else unseenS (n + 13 * t)) ++ row
theorem Fr_str {h₀ h : Heap} {L : Addr} {m : Str → Option Value} {x : Str} {a b : Str} {t : Tok} (e : a = b) (F : Fr h₀ L h (fun y => if y = x then some (.str a t) else m y)) : Fr h₀ L h (fun y => if y = x then some (.str b t) else m y) := e ▸ F
theorem len_app {x y : Str} {a b : Nat} (hx : x.length ≤ a) (hy : y.length ≤ b) : (x ++ y).length ≤ a + b := by rw [strLen_append]; omega
theorem len_getD {l : List Str} {i a : Nat} (h : (l.all fun x => decide (x.length ≤ a)) = true) : (l.getD i Str.empty).length ≤ a := by
  rw [List.getD_eq_getElem?_getD]
  cases e : l[i]? with
  | none => exact Nat.zero_le _
  | some x => exact of_decide_eq_true (List.all_eq_true.mp h x (List.mem_of_getElem? e))
theorem len_unseen {n : Int} : (unseenS n).length ≤ 1 := Nat.le_refl _
section
variable {w : World} {mean : ExcName → Option Value} {mg mb : Str → Option Value} {news : List (Addr × Obj)} {dp un : Nat} {gd : Option (List Code)} {outer : List Env} {A₀ : Around} {base h₀ : Heap} {L : Addr} {mr : Str → Option Value} {s : Shared} {Q : Flow → Shared → Prop} {E : Value → Shared → Prop}
local macro_rules | `(tactic| kt_len) => `(tactic| first | assumption | exact len_unseen | exact len_getD (a := 3) (by decide +kernel) | (refine len_app ?_ ?_ <;> kt_len))
theorem trn_turn0 {lr lb ls : Addr} {kr kb ks : Nat} {r0 r1 r2 mail : Str} {n0 n1 n2 tn tz : Int} {bvs : List Value} {bs : List Int} {u0 u1 u2 v0 v1 v2 tt ttz tm tk : Tok}
    (hn0 : 0 ≤ n0) (hn1 : 0 ≤ n1) (hn2 : 0 ≤ n2) (htn : 0 ≤ tn ∧ tn ≤ 1) (hr0 : r0.length ≤ 60) (hr1 : r1.length ≤ 60) (hr2 : r2.length ≤ 60) (hmail : mail.length ≤ 400) (hbs : IntsAre bvs bs)
    (B : Below A₀ base outer h₀) (F : Fr h₀ L s.heap (fun y => if y = Str.ofString "j" then some (.int 0 tk) else if y = Str.ofString "mail" then some (.str mail tm) else if y = Str.ofString "rows" then some (.ref lr) else if y = Str.ofString "bare" then some (.ref lb) else if y = Str.ofString "rests" then some (.ref ls) else if y = Str.ofString "turn" then some (.int tn tt) else if y = Str.ofString "times" then some (.int tz ttz) else mr y)) (X : (KK w.params).In h₀)
    (N : News h₀ L s.heap ((lr, W.listOf #[.str r0 u0, .str r1 u1, .str r2 u2] kr) :: (lb, W.listOf bvs.toArray kb) :: (ls, W.listOf #[.int n0 v0, .int n1 v1, .int n2 v2] ks) :: news))
    (T : Top VV (looseW VV LO) mean mg mb h₀) (hd : dp + 3 < recursionLimit) (hu : un + 30 < cLine)
    (hret : ∀ (mr' : Str → Option Value) tm' h' tk', Fr h₀ L h' (fun y => if y = Str.ofString "mail" then some (.str (pieceS 0 mail n0 tn (bs.any fun x => x == 0) r0) tm') else if y = Str.ofString "rows" then some (.ref lr) else if y = Str.ofString "bare" then some (.ref lb) else if y = Str.ofString "rests" then some (.ref ls) else if y = Str.ofString "turn" then some (.int tn tt) else if y = Str.ofString "times" then some (.int tz ttz) else mr' y) →
      News h₀ L h' ((lr, W.listOf #[.str r0 u0, .str r1 u1, .str r2 u2] kr) :: (lb, W.listOf bvs.toArray kb) :: (ls, W.listOf #[.int n0 v0, .int n1 v1, .int n2 v2] ks) :: news) → Q .next { s with heap := h', toks := tk' }) :
    wpAny (model PP w) (ktrTop dp un gd (Str.ofString "_law_turn") q21.1.2.2 L 175 (.ref 174) [] outer) (execs trnBody (envX (Str.ofString "_law_turn") q21.1.2.2 L 175 (.ref 174) [])) Q E s := by
  k_with "table" => skip
  repeat' (first | ((with_reducible show wpAny _ _ (compareOp CmpOp.NotIn (Value.int _ _) (Value.ref _)) _ _ _); (k_here; refine notin_list_ints (News.isList (by k_asm) (by k_mem)) (by assumption) ?_)) | (k_here; (with_reducible show wpAny _ _ (call (Value.ref 161) [Value.int _ _]) _ _ _); k_dflt (refine' unseen_use ?ka ?k1 ?k2 ?k3 ?k4 ?k5 ?k6 ?k7 ?k8 ?_; (case ka => exact Int.add_nonneg (by assumption) (by omega)); (case k1 => k_asm); (case k2 => k_asm); (case k3 => k_asm); (case k4 => k_asm); (case k5 => k_asm); (case k6 => first | exact rfl | assumption); (case k7 => ktr_room); (case k8 => ktr_units)); intro t9 h9 tk9 F9 N9; (try dsimp only); (try k_fold)) | (k_unfold; (try dsimp only)) | (k_end; wrow_close) | walk1 | (dsimp only) | (leave1; (try dsimp only)))
  · rename (bs.any _) = true => hb
    rename Fr _ L _ _ => Fz
    have Fy := frC (frC (frC (frC (frC (frC (x := Str.ofString "times") Fz rfl) (x := Str.ofString "turn") rfl) (x := Str.ofString "rests") rfl) (x := Str.ofString "bare") rfl) (x := Str.ofString "rows") rfl) (x := Str.ofString "mail") rfl
    refine hret _ _ _ _ (Fr_str (by unfold pieceS; rw [hb, if_pos rfl, app_empty]; rfl) Fy) ?_
    refine' cb_drop ?cbN ?cbS
    (case cbN => assumption)
    (case cbS => kcj_all)
  · rename (bs.any _) = false => hb
    rename Fr _ L _ _ => Fz
    have Fy := frC (frC (frC (frC (frC (frC (x := Str.ofString "times") Fz rfl) (x := Str.ofString "turn") rfl) (x := Str.ofString "rests") rfl) (x := Str.ofString "bare") rfl) (x := Str.ofString "rows") rfl) (x := Str.ofString "mail") rfl
    refine hret _ _ _ _ (Fr_str (by unfold pieceS; rw [hb, if_neg Bool.false_ne_true]; rfl) Fy) ?_
    refine' cb_drop ?cbN ?cbS
    (case cbN => assumption)
    (case cbS => kcj_all)
theorem trn_turn1 {lr lb ls : Addr} {kr kb ks : Nat} {r0 r1 r2 mail : Str} {n0 n1 n2 tn tz : Int} {bvs : List Value} {bs : List Int} {u0 u1 u2 v0 v1 v2 tt ttz tm tk : Tok}
    (hn0 : 0 ≤ n0) (hn1 : 0 ≤ n1) (hn2 : 0 ≤ n2) (htn : 0 ≤ tn ∧ tn ≤ 1) (hr0 : r0.length ≤ 60) (hr1 : r1.length ≤ 60) (hr2 : r2.length ≤ 60) (hmail : mail.length ≤ 400) (hbs : IntsAre bvs bs)
    (B : Below A₀ base outer h₀) (F : Fr h₀ L s.heap (fun y => if y = Str.ofString "j" then some (.int 1 tk) else if y = Str.ofString "mail" then some (.str mail tm) else if y = Str.ofString "rows" then some (.ref lr) else if y = Str.ofString "bare" then some (.ref lb) else if y = Str.ofString "rests" then some (.ref ls) else if y = Str.ofString "turn" then some (.int tn tt) else if y = Str.ofString "times" then some (.int tz ttz) else mr y)) (X : (KK w.params).In h₀)
    (N : News h₀ L s.heap ((lr, W.listOf #[.str r0 u0, .str r1 u1, .str r2 u2] kr) :: (lb, W.listOf bvs.toArray kb) :: (ls, W.listOf #[.int n0 v0, .int n1 v1, .int n2 v2] ks) :: news))
    (T : Top VV (looseW VV LO) mean mg mb h₀) (hd : dp + 3 < recursionLimit) (hu : un + 30 < cLine)
    (hret : ∀ (mr' : Str → Option Value) tm' h' tk', Fr h₀ L h' (fun y => if y = Str.ofString "mail" then some (.str (pieceS 1 mail n1 tn (bs.any fun x => x == 1) r1) tm') else if y = Str.ofString "rows" then some (.ref lr) else if y = Str.ofString "bare" then some (.ref lb) else if y = Str.ofString "rests" then some (.ref ls) else if y = Str.ofString "turn" then some (.int tn tt) else if y = Str.ofString "times" then some (.int tz ttz) else mr' y) →
      News h₀ L h' ((lr, W.listOf #[.str r0 u0, .str r1 u1, .str r2 u2] kr) :: (lb, W.listOf bvs.toArray kb) :: (ls, W.listOf #[.int n0 v0, .int n1 v1, .int n2 v2] ks) :: news) → Q .next { s with heap := h', toks := tk' }) :
    wpAny (model PP w) (ktrTop dp un gd (Str.ofString "_law_turn") q21.1.2.2 L 175 (.ref 174) [] outer) (execs trnBody (envX (Str.ofString "_law_turn") q21.1.2.2 L 175 (.ref 174) [])) Q E s := by
  k_with "table" => skip
  repeat' (first | ((with_reducible show wpAny _ _ (compareOp CmpOp.NotIn (Value.int _ _) (Value.ref _)) _ _ _); (k_here; refine notin_list_ints (News.isList (by k_asm) (by k_mem)) (by assumption) ?_)) | (k_here; (with_reducible show wpAny _ _ (call (Value.ref 161) [Value.int _ _]) _ _ _); k_dflt (refine' unseen_use ?ka ?k1 ?k2 ?k3 ?k4 ?k5 ?k6 ?k7 ?k8 ?_; (case ka => exact Int.add_nonneg (by assumption) (by omega)); (case k1 => k_asm); (case k2 => k_asm); (case k3 => k_asm); (case k4 => k_asm); (case k5 => k_asm); (case k6 => first | exact rfl | assumption); (case k7 => ktr_room); (case k8 => ktr_units)); intro t9 h9 tk9 F9 N9; (try dsimp only); (try k_fold)) | (k_unfold; (try dsimp only)) | (k_end; wrow_close) | walk1 | (dsimp only) | (leave1; (try dsimp only)))
  · rename (bs.any _) = true => hb
    rename Fr _ L _ _ => Fz
    have Fy := frC (frC (frC (frC (frC (frC (x := Str.ofString "times") Fz rfl) (x := Str.ofString "turn") rfl) (x := Str.ofString "rests") rfl) (x := Str.ofString "bare") rfl) (x := Str.ofString "rows") rfl) (x := Str.ofString "mail") rfl
    refine hret _ _ _ _ (Fr_str (by unfold pieceS; rw [hb, if_pos rfl, app_empty]; rfl) Fy) ?_
    refine' cb_drop ?cbN ?cbS
    (case cbN => assumption)
    (case cbS => kcj_all)
  · rename (bs.any _) = false => hb
    rename Fr _ L _ _ => Fz
    have Fy := frC (frC (frC (frC (frC (frC (x := Str.ofString "times") Fz rfl) (x := Str.ofString "turn") rfl) (x := Str.ofString "rests") rfl) (x := Str.ofString "bare") rfl) (x := Str.ofString "rows") rfl) (x := Str.ofString "mail") rfl
    refine hret _ _ _ _ (Fr_str (by unfold pieceS; rw [hb, if_neg Bool.false_ne_true]; rfl) Fy) ?_
    refine' cb_drop ?cbN ?cbS
    (case cbN => assumption)
    (case cbS => kcj_all)
theorem trn_turn2 {lr lb ls : Addr} {kr kb ks : Nat} {r0 r1 r2 mail : Str} {n0 n1 n2 tn tz : Int} {bvs : List Value} {bs : List Int} {u0 u1 u2 v0 v1 v2 tt ttz tm tk : Tok}
    (hn0 : 0 ≤ n0) (hn1 : 0 ≤ n1) (hn2 : 0 ≤ n2) (htn : 0 ≤ tn ∧ tn ≤ 1) (hr0 : r0.length ≤ 60) (hr1 : r1.length ≤ 60) (hr2 : r2.length ≤ 60) (hmail : mail.length ≤ 400) (hbs : IntsAre bvs bs)
    (B : Below A₀ base outer h₀) (F : Fr h₀ L s.heap (fun y => if y = Str.ofString "j" then some (.int 2 tk) else if y = Str.ofString "mail" then some (.str mail tm) else if y = Str.ofString "rows" then some (.ref lr) else if y = Str.ofString "bare" then some (.ref lb) else if y = Str.ofString "rests" then some (.ref ls) else if y = Str.ofString "turn" then some (.int tn tt) else if y = Str.ofString "times" then some (.int tz ttz) else mr y)) (X : (KK w.params).In h₀)
    (N : News h₀ L s.heap ((lr, W.listOf #[.str r0 u0, .str r1 u1, .str r2 u2] kr) :: (lb, W.listOf bvs.toArray kb) :: (ls, W.listOf #[.int n0 v0, .int n1 v1, .int n2 v2] ks) :: news))
    (T : Top VV (looseW VV LO) mean mg mb h₀) (hd : dp + 3 < recursionLimit) (hu : un + 30 < cLine)
    (hret : ∀ (mr' : Str → Option Value) tm' h' tk', Fr h₀ L h' (fun y => if y = Str.ofString "mail" then some (.str (pieceS 2 mail n2 tn (bs.any fun x => x == 2) r2) tm') else if y = Str.ofString "rows" then some (.ref lr) else if y = Str.ofString "bare" then some (.ref lb) else if y = Str.ofString "rests" then some (.ref ls) else if y = Str.ofString "turn" then some (.int tn tt) else if y = Str.ofString "times" then some (.int tz ttz) else mr' y) →
      News h₀ L h' ((lr, W.listOf #[.str r0 u0, .str r1 u1, .str r2 u2] kr) :: (lb, W.listOf bvs.toArray kb) :: (ls, W.listOf #[.int n0 v0, .int n1 v1, .int n2 v2] ks) :: news) → Q .next { s with heap := h', toks := tk' }) :
    wpAny (model PP w) (ktrTop dp un gd (Str.ofString "_law_turn") q21.1.2.2 L 175 (.ref 174) [] outer) (execs trnBody (envX (Str.ofString "_law_turn") q21.1.2.2 L 175 (.ref 174) [])) Q E s := by
  k_with "table" => skip
  repeat' (first | ((with_reducible show wpAny _ _ (compareOp CmpOp.NotIn (Value.int _ _) (Value.ref _)) _ _ _); (k_here; refine notin_list_ints (News.isList (by k_asm) (by k_mem)) (by assumption) ?_)) | (k_here; (with_reducible show wpAny _ _ (call (Value.ref 161) [Value.int _ _]) _ _ _); k_dflt (refine' unseen_use ?ka ?k1 ?k2 ?k3 ?k4 ?k5 ?k6 ?k7 ?k8 ?_; (case ka => exact Int.add_nonneg (by assumption) (by omega)); (case k1 => k_asm); (case k2 => k_asm); (case k3 => k_asm); (case k4 => k_asm); (case k5 => k_asm); (case k6 => first | exact rfl | assumption); (case k7 => ktr_room); (case k8 => ktr_units)); intro t9 h9 tk9 F9 N9; (try dsimp only); (try k_fold)) | (k_unfold; (try dsimp only)) | (k_end; wrow_close) | walk1 | (dsimp only) | (leave1; (try dsimp only)))
  · rename (bs.any _) = true => hb
    rename Fr _ L _ _ => Fz
    have Fy := frC (frC (frC (frC (frC (frC (x := Str.ofString "times") Fz rfl) (x := Str.ofString "turn") rfl) (x := Str.ofString "rests") rfl) (x := Str.ofString "bare") rfl) (x := Str.ofString "rows") rfl) (x := Str.ofString "mail") rfl
    refine hret _ _ _ _ (Fr_str (by unfold pieceS; rw [hb, if_pos rfl, app_empty]; rfl) Fy) ?_
    refine' cb_drop ?cbN ?cbS
    (case cbN => assumption)
    (case cbS => kcj_all)
  · rename (bs.any _) = false => hb
    rename Fr _ L _ _ => Fz
    have Fy := frC (frC (frC (frC (frC (frC (x := Str.ofString "times") Fz rfl) (x := Str.ofString "turn") rfl) (x := Str.ofString "rests") rfl) (x := Str.ofString "bare") rfl) (x := Str.ofString "rows") rfl) (x := Str.ofString "mail") rfl
    refine hret _ _ _ _ (Fr_str (by unfold pieceS; rw [hb, if_neg Bool.false_ne_true]; rfl) Fy) ?_
    refine' cb_drop ?cbN ?cbS
    (case cbN => assumption)
    (case cbS => kcj_all)
end
end MyLaw
end
end
section
open PySem PySem.Spec PySem.Calls PySem.W PySem.W.X PyProof.Rows
noncomputable section
namespace MyLaw
noncomputable def quoteN : Nat → Str → Str
  | 0, x => x
  | n + 1, x => quoteN n (quoteS x)
theorem quoteS_len (x : Str) : (quoteS x).cps.size ≤ 4 * x.cps.size := by
  have h1 := crlfS_len x
  have h2 := dotS_len (crlfS x)
  unfold quoteS
  omega
theorem lt_off {d : Addr} {l : List (Addr × Obj)} (h : ∀ p ∈ l, p.1 < d) : ∀ p ∈ l, p.1 ≠ d := fun p hp => Nat.ne_of_lt (h p hp)
theorem catL_sumlen : ∀ l : List Str, (catL l).length = (l.map (·.length)).sum
  | [] => rfl
  | a :: r => by
    have ih := catL_sumlen r
    simp only [List.map_cons, List.sum_cons, ← ih]
    show (a.cps.toList ++ catL r).length = a.cps.size + _
    rw [List.length_append, Array.length_toList]
theorem prepS_len {x : Str} (h : ∀ c ∈ KStt.codes x, (foldC c.toNat).length ≤ 4) : (prepS x).length ≤ 4 * x.length := by
  have h1 := prepL_sum (KStt.codes x) h
  rw [KStt.codes_length, ← catL_sumlen] at h1
  exact h1
section
variable {w : World} {mean : ExcName → Option Value} {mg mb : Str → Option Value} {news : List (Addr × Obj)} {dp un : Nat} {gd : Option (List Code)} {outer : List Env} {A₀ : Around} {base h₀ : Heap} {L : Addr} {mr : Str → Option Value} {s : Shared} {Q : Flow → Shared → Prop} {E : Value → Shared → Prop}
local macro_rules | `(tactic| passes_own) => `(tactic| assumption)
theorem trn_tail1 {x : Str} {tm tz : Tok} (hx : x.cps.size ≤ 2000) (hx4 : ∀ c ∈ KStt.codes (quoteS x), (foldC c.toNat).length ≤ 4)
    (B : Below A₀ base outer h₀) (F : Fr h₀ L s.heap (fun y => if y = Str.ofString "mail" then some (.str x tm) else if y = Str.ofString "times" then some (.int 1 tz) else mr y)) (X : (KK w.params).In h₀) (N : News h₀ L s.heap news)
    (T : Top VV (looseW VV LO) mean mg mb h₀) (hd : dp + 5 < recursionLimit) (hu : un + 50 < cLine)
    (hE : PassesOwn (model PP w) (ktrTop dp un gd (Str.ofString "_law_turn") q21.1.2.2 L 175 (.ref 174) [] outer) (envX (Str.ofString "_law_turn") q21.1.2.2 L 175 (.ref 174) []) E)
    (hret : ∀ m' D l h' tk', Fr h₀ L h' m' → News h₀ L h' ((D, W.listOf (strValues l).toArray 0) :: news) → (∀ p ∈ news, p.1 < D) → l.map (·.1) = Txt.split (prepS (quoteN 1 x)) (Str.ofString "\r\n") → Q (.ret (.ref D)) { s with heap := h', toks := tk' }) :
    wpAny (model PP w) (ktrTop dp un gd (Str.ofString "_law_turn") q21.1.2.2 L 175 (.ref 174) [] outer) (execs q21.1.2.1.tail.tail (envX (Str.ofString "_law_turn") q21.1.2.2 L 175 (.ref 174) [])) Q E s := by
  have hq := quoteS_len x
  have hp := prepS_len hx4
  repeat' (first | ((fail_if_success (with_reducible show wpAny _ _ _ _ _ _)); (refine UnrEnd.intro (by assumption) (by assumption) _ (fun p hp => hp) (by first | exact allLt_off (by assumption) | exact lt_off (by assumption)) ?_)) | (k_here; (with_reducible show wpAny _ _ (call (Value.ref 168) [Value.str _ _]) _ _ _); k_dflt (refine' prep_use ?ka ?kb ?k1 ?k2 ?k3 ?k4 ?k5 ?k6 ?k7 ?k8 ?_; (case ka => omega); (case kb => assumption); (case k1 => k_asm); (case k2 => k_asm); (case k3 => k_asm); (case k4 => k_asm); (case k5 => k_asm); (case k6 => first | exact rfl | assumption); (case k7 => ktr_room); (case k8 => ktr_units)); intro t9 h9 tk9 F9 N9; (try dsimp only); (try k_fold)) | (k_here; (with_reducible show wpAny _ _ (call (Value.ref 147) [Value.str _ _]) _ _ _); k_dflt (refine' quote_use ?ka ?k1 ?k2 ?k3 ?k4 ?k5 ?k6 ?k7 ?k8 ?_; (case ka => omega); (case k1 => k_asm); (case k2 => k_asm); (case k3 => k_asm); (case k4 => k_asm); (case k5 => k_asm); (case k6 => first | exact rfl | assumption); (case k7 => ktr_room); (case k8 => ktr_units)); intro t9 h9 tk9 F9 N9; (try dsimp only); (try k_fold)) | (k_unfold; (try dsimp only)) | (k_end; wrow_close) | walk1 | (dsimp only) | (leave1; (try dsimp only)))
  refine KSpl.split1 (by k_asm) (by k_asm) (by decide) ?_ (by rw [sizeLine_eq]; have : x.length = x.cps.size := rfl; have : (quoteS x).length = (quoteS x).cps.size := rfl; omega)
  intro D l h7 k7 e7 a7 F7 N7 l7
  exact hret _ _ _ _ _ F7 N7 l7 e7
theorem trn_tail2 {x : Str} {tm tz : Tok} (hx : x.cps.size ≤ 2000) (hx4 : ∀ c ∈ KStt.codes (quoteS (quoteS x)), (foldC c.toNat).length ≤ 4)
    (B : Below A₀ base outer h₀) (F : Fr h₀ L s.heap (fun y => if y = Str.ofString "mail" then some (.str x tm) else if y = Str.ofString "times" then some (.int 2 tz) else mr y)) (X : (KK w.params).In h₀) (N : News h₀ L s.heap news)
    (T : Top VV (looseW VV LO) mean mg mb h₀) (hd : dp + 5 < recursionLimit) (hu : un + 50 < cLine)
    (hE : PassesOwn (model PP w) (ktrTop dp un gd (Str.ofString "_law_turn") q21.1.2.2 L 175 (.ref 174) [] outer) (envX (Str.ofString "_law_turn") q21.1.2.2 L 175 (.ref 174) []) E)
    (hret : ∀ m' D l h' tk', Fr h₀ L h' m' → News h₀ L h' ((D, W.listOf (strValues l).toArray 0) :: news) → (∀ p ∈ news, p.1 < D) → l.map (·.1) = Txt.split (prepS (quoteN 2 x)) (Str.ofString "\r\n") → Q (.ret (.ref D)) { s with heap := h', toks := tk' }) :
    wpAny (model PP w) (ktrTop dp un gd (Str.ofString "_law_turn") q21.1.2.2 L 175 (.ref 174) [] outer) (execs q21.1.2.1.tail.tail (envX (Str.ofString "_law_turn") q21.1.2.2 L 175 (.ref 174) [])) Q E s := by
  have hq := quoteS_len x
  have hq2 := quoteS_len (quoteS x)
  have hp := prepS_len hx4
  repeat' (first | ((fail_if_success (with_reducible show wpAny _ _ _ _ _ _)); (refine UnrEnd.intro (by assumption) (by assumption) _ (fun p hp => hp) (by first | exact allLt_off (by assumption) | exact lt_off (by assumption)) ?_)) | (k_here; (with_reducible show wpAny _ _ (call (Value.ref 168) [Value.str _ _]) _ _ _); k_dflt (refine' prep_use ?ka ?kb ?k1 ?k2 ?k3 ?k4 ?k5 ?k6 ?k7 ?k8 ?_; (case ka => omega); (case kb => assumption); (case k1 => k_asm); (case k2 => k_asm); (case k3 => k_asm); (case k4 => k_asm); (case k5 => k_asm); (case k6 => first | exact rfl | assumption); (case k7 => ktr_room); (case k8 => ktr_units)); intro t9 h9 tk9 F9 N9; (try dsimp only); (try k_fold)) | (k_here; (with_reducible show wpAny _ _ (call (Value.ref 147) [Value.str _ _]) _ _ _); k_dflt (refine' quote_use ?ka ?k1 ?k2 ?k3 ?k4 ?k5 ?k6 ?k7 ?k8 ?_; (case ka => omega); (case k1 => k_asm); (case k2 => k_asm); (case k3 => k_asm); (case k4 => k_asm); (case k5 => k_asm); (case k6 => first | exact rfl | assumption); (case k7 => ktr_room); (case k8 => ktr_units)); intro t9 h9 tk9 F9 N9; (try dsimp only); (try k_fold)) | (k_unfold; (try dsimp only)) | (k_end; wrow_close) | walk1 | (dsimp only) | (leave1; (try dsimp only)))
  refine KSpl.split1 (by k_asm) (by k_asm) (by decide) ?_ (by rw [sizeLine_eq]; have : x.length = x.cps.size := rfl; have : (quoteS (quoteS x)).length = (quoteS (quoteS x)).cps.size := rfl; omega)
  intro D l h7 k7 e7 a7 F7 N7 l7
  exact hret _ _ _ _ _ F7 N7 l7 e7
end
end MyLaw
end
end
section
open PySem PySem.Spec PySem.Calls PySem.W PySem.W.X PyProof.Rows
noncomputable section
namespace MyLaw
def mailS (r0 r1 r2 : Str) (n0 n1 n2 tn : Int) (bs : List Int) : Str :=
  pieceS 2 (pieceS 1 (pieceS 0 Str.empty n0 tn (bs.any fun x => x == 0) r0) n1 tn (bs.any fun x => x == 1) r1) n2 tn (bs.any fun x => x == 2) r2
theorem endS_len (j : Nat) (hj : j < 3) (n t : Int) : (endS j n t).length ≤ 3 := by
  have : j = 0 ∨ j = 1 ∨ j = 2 := by omega
  rcases this with rfl | rfl | rfl
  · exact len_getD (by decide +kernel)
  · exact len_getD (by decide +kernel)
  · exact len_getD (by decide +kernel)
theorem pieceS_len {j : Nat} (hj : j < 3) {mail row : Str} {n t : Int} {b : Bool} {k : Nat} (hm : mail.length ≤ k) (hr : row.length ≤ 60) : (pieceS j mail n t b row).length ≤ k + 64 := by
  unfold pieceS
  have h1 : (if b = true then Str.empty else unseenS (n + 13 * t)).length ≤ 1 := by cases b <;> exact Nat.le_of_ble_eq_true rfl
  have h2 := endS_len j hj n t
  rw [strLen_append, strLen_append, strLen_append]
  omega
section
variable {w : World} {mean : ExcName → Option Value} {mg mb : Str → Option Value} {news : List (Addr × Obj)} {dp un : Nat} {gd : Option (List Code)} {cn : Str} {cs : Scope} {a : Addr} {ccd : Value} {cl : List (Str × Addr)} {outer : List Env} {A₀ : Around} {base h₀ : Heap} {L : Addr} {m : Str → Option Value} {s : Shared} {Q E : Value → Shared → Prop}
theorem rot4 {a b c d : Addr × Obj} {h : Heap} (N : News h₀ L h (a :: b :: c :: d :: news)) : News h₀ L h (b :: c :: d :: a :: news) := fun p hp => N p (by
  simp only [List.mem_cons] at hp ⊢
  rcases hp with h | h | h | h | h
  · exact .inr (.inl h)
  · exact .inr (.inr (.inl h))
  · exact .inr (.inr (.inr (.inl h)))
  · exact .inl h
  · exact .inr (.inr (.inr (.inr h))))
theorem tor4 {a b c d : Addr × Obj} {h : Heap} (N : News h₀ L h (b :: c :: d :: a :: news)) : News h₀ L h (a :: b :: c :: d :: news) := fun p hp => N p (by
  simp only [List.mem_cons] at hp ⊢
  rcases hp with h | h | h | h | h
  · exact .inr (.inr (.inr (.inl h)))
  · exact .inl h
  · exact .inr (.inl h)
  · exact .inr (.inr (.inl h))
  · exact .inr (.inr (.inr (.inr h))))
end
section
variable {w : World} {mean : ExcName → Option Value} {mg mb : Str → Option Value} {news : List (Addr × Obj)} {dp un : Nat} {gd : Option (List Code)} {outer : List Env} {A₀ : Around} {base h₀ : Heap} {L : Addr} {mr : Str → Option Value} {s : Shared} {Q : Flow → Shared → Prop} {E : Value → Shared → Prop}
local macro_rules | `(tactic| passes_own) => `(tactic| assumption)
theorem trn_loop {lr lb ls : Addr} {kr kb ks : Nat} {r0 r1 r2 : Str} {n0 n1 n2 tn : Int} {z : Nat} {bvs : List Value} {bs : List Int} {u0 u1 u2 v0 v1 v2 tt tm ttz : Tok}
    (hn0 : 0 ≤ n0) (hn1 : 0 ≤ n1) (hn2 : 0 ≤ n2) (htn : 0 ≤ tn ∧ tn ≤ 1) (hz : z = 1 ∨ z = 2) (hr0 : r0.length ≤ 60) (hr1 : r1.length ≤ 60) (hr2 : r2.length ≤ 60) (hbs : IntsAre bvs bs)
    (hx4 : ∀ c ∈ KStt.codes (quoteN z (mailS r0 r1 r2 n0 n1 n2 tn bs)), (foldC c.toNat).length ≤ 4)
    (B : Below A₀ base outer h₀) (F : Fr h₀ L s.heap (fun y => if y = Str.ofString "mail" then some (.str Str.empty tm) else if y = Str.ofString "rows" then some (.ref lr) else if y = Str.ofString "bare" then some (.ref lb) else if y = Str.ofString "rests" then some (.ref ls) else if y = Str.ofString "turn" then some (.int tn tt) else if y = Str.ofString "times" then some (.int z ttz) else mr y)) (X : (KK w.params).In h₀)
    (N : News h₀ L s.heap ((lr, W.listOf #[.str r0 u0, .str r1 u1, .str r2 u2] kr) :: (lb, W.listOf bvs.toArray kb) :: (ls, W.listOf #[.int n0 v0, .int n1 v1, .int n2 v2] ks) :: news))
    (T : Top VV (looseW VV LO) mean mg mb h₀) (hd : dp + 6 < recursionLimit) (hu : un + 60 < cLine)
    (hE : PassesOwn (model PP w) (ktrTop dp un gd (Str.ofString "_law_turn") q21.1.2.2 L 175 (.ref 174) [] outer) (envX (Str.ofString "_law_turn") q21.1.2.2 L 175 (.ref 174) []) E)
    (hret : ∀ m' D l h' tk', Fr h₀ L h' m' → News h₀ L h' ((D, W.listOf (strValues l).toArray 0) :: ((lr, W.listOf #[.str r0 u0, .str r1 u1, .str r2 u2] kr) :: (lb, W.listOf bvs.toArray kb) :: (ls, W.listOf #[.int n0 v0, .int n1 v1, .int n2 v2] ks) :: news)) → (∀ p ∈ ((lr, W.listOf #[.str r0 u0, .str r1 u1, .str r2 u2] kr) :: (lb, W.listOf bvs.toArray kb) :: (ls, W.listOf #[.int n0 v0, .int n1 v1, .int n2 v2] ks) :: news), p.1 < D) → l.map (·.1) = Txt.split (prepS (quoteN z (mailS r0 r1 r2 n0 n1 n2 tn bs))) (Str.ofString "\r\n") → Q (.ret (.ref D)) { s with heap := h', toks := tk' }) :
    wpAny (model PP w) (ktrTop dp un gd (Str.ofString "_law_turn") q21.1.2.2 L 175 (.ref 174) [] outer) (execs q21.1.2.1.tail (envX (Str.ofString "_law_turn") q21.1.2.2 L 175 (.ref 174) [])) Q E s := by
  have hm0 : Str.empty.length ≤ 0 := Nat.le_refl 0
  have hm1 := pieceS_len (j := 0) (by decide) (n := n0) (t := tn) (b := bs.any fun x => x == 0) hm0 hr0
  have hm2 := pieceS_len (j := 1) (by decide) (n := n1) (t := tn) (b := bs.any fun x => x == 1) hm1 hr1
  have hm3 := pieceS_len (j := 2) (by decide) (n := n2) (t := tn) (b := bs.any fun x => x == 2) hm2 hr2
  iterate 10 (first | ((with_reducible show wpAny _ _ (exec (Stmt.For _ _ _ _ _) _) _ _ _); (k_here; (rename Fr _ _ _ _ => lF'); (with_unfolding_all refine' For_invVF lF' ?k1 ?k2 ?_; (case k1 => exact rfl); (case k2 => exact rfl); k_whole))) | ((fail_if_success (with_reducible show wpAny _ _ _ _ _ _)); (refine UnrEnd.intro (by assumption) (by assumption) _ (fun p hp => hp) (by first | exact allLt_off (by assumption) | exact lt_off (by assumption)) ?_)) | walk1)
  refine RangeRest.succ ?_
  intro t' h' tk' F' N'
  show wpAny (model PP w) (ktrTop dp un gd (Str.ofString "_law_turn") q21.1.2.2 L 175 (.ref 174) [] outer) (execs trnBody (envX (Str.ofString "_law_turn") q21.1.2.2 L 175 (.ref 174) [])) _ _ _
  with_reducible refine' trn_turn0 hn0 hn1 hn2 htn hr0 hr1 hr2 ?hm hbs B ?F X ?N T ?hd ?hu ?_
  case F => exact F'
  case N => exact rot4 N'
  case hd => omega
  case hu => omega
  case hm => exact Nat.le_trans hm0 (by decide)
  intro mr' tm' h'' tk'' F'' N''
  dsimp only [UnrPost]
  refine UnrEnd.intro F'' (tor4 N'') _ (fun p hp => hp) (allLt_off (by assumption)) ?_
  clear F' N' F'' N''
  refine RangeRest.succ ?_
  intro t' h' tk' F' N'
  show wpAny (model PP w) (ktrTop dp un gd (Str.ofString "_law_turn") q21.1.2.2 L 175 (.ref 174) [] outer) (execs trnBody (envX (Str.ofString "_law_turn") q21.1.2.2 L 175 (.ref 174) [])) _ _ _
  with_reducible refine' trn_turn1 hn0 hn1 hn2 htn hr0 hr1 hr2 ?hm hbs B ?F X ?N T ?hd ?hu ?_
  case F => exact F'
  case N => exact rot4 N'
  case hd => omega
  case hu => omega
  case hm => exact Nat.le_trans hm1 (by decide)
  intro mr' tm' h'' tk'' F'' N''
  dsimp only [UnrPost]
  refine UnrEnd.intro F'' (tor4 N'') _ (fun p hp => hp) (allLt_off (by assumption)) ?_
  clear F' N' F'' N''
  refine RangeRest.succ ?_
  intro t' h' tk' F' N'
  show wpAny (model PP w) (ktrTop dp un gd (Str.ofString "_law_turn") q21.1.2.2 L 175 (.ref 174) [] outer) (execs trnBody (envX (Str.ofString "_law_turn") q21.1.2.2 L 175 (.ref 174) [])) _ _ _
  with_reducible refine' trn_turn2 hn0 hn1 hn2 htn hr0 hr1 hr2 ?hm hbs B ?F X ?N T ?hd ?hu ?_
  case F => exact F'
  case N => exact rot4 N'
  case hd => omega
  case hu => omega
  case hm => exact Nat.le_trans hm2 (by decide)
  intro mr' tm' h'' tk'' F'' N''
  dsimp only [UnrPost]
  refine UnrEnd.intro F'' (tor4 N'') _ (fun p hp => hp) (allLt_off (by assumption)) ?_
  clear F' N' F'' N''
  refine RangeRest.zero ?_
  intro h' tk' F' N'
  dsimp only
  have hsz : (mailS r0 r1 r2 n0 n1 n2 tn bs).cps.size ≤ 2000 := Nat.le_trans hm3 (by decide)
  rcases hz with rfl | rfl
  · show wpAny (model PP w) (ktrTop dp un gd (Str.ofString "_law_turn") q21.1.2.2 L 175 (.ref 174) [] outer) (execs q21.1.2.1.tail.tail (envX (Str.ofString "_law_turn") q21.1.2.2 L 175 (.ref 174) [])) _ _ _
    with_reducible refine' trn_tail1 (x := mailS r0 r1 r2 n0 n1 n2 tn bs) hsz ?hx B ?F X N' T ?hd ?hu hE ?_
    case hx => exact hx4
    case F => exact frC (frC F' (x := Str.ofString "times") rfl) (x := Str.ofString "mail") rfl
    case hd => omega
    case hu => omega
    intro m' D l h7 k7 F7 N7 l7 e7
    exact hret m' D l h7 k7 F7 N7 l7 e7
  · show wpAny (model PP w) (ktrTop dp un gd (Str.ofString "_law_turn") q21.1.2.2 L 175 (.ref 174) [] outer) (execs q21.1.2.1.tail.tail (envX (Str.ofString "_law_turn") q21.1.2.2 L 175 (.ref 174) [])) _ _ _
    with_reducible refine' trn_tail2 (x := mailS r0 r1 r2 n0 n1 n2 tn bs) hsz ?hx B ?F X N' T ?hd ?hu hE ?_
    case hx => exact hx4
    case F => exact frC (frC F' (x := Str.ofString "times") rfl) (x := Str.ofString "mail") rfl
    case hd => omega
    case hu => omega
    intro m' D l h7 k7 F7 N7 l7 e7
    exact hret m' D l h7 k7 F7 N7 l7 e7
end
end MyLaw
end
end
section
open PySem PySem.Spec PySem.Calls PySem.W PySem.W.X PyProof.Rows
noncomputable section
namespace MyLaw
section
variable {w : World} {mean : ExcName → Option Value} {mg mb : Str → Option Value} {news : List (Addr × Obj)} {dp un : Nat} {gd : Option (List Code)} {cn : Str} {cs : Scope} {a : Addr} {ccd : Value} {cl : List (Str × Addr)} {outer : List Env} {A₀ : Around} {base h₀ : Heap} {L : Addr} {m : Str → Option Value} {s : Shared} {Q E : Value → Shared → Prop}
theorem turn_use {lr lb ls : Addr} {kr kb ks : Nat} {r0 r1 r2 : Str} {n0 n1 n2 tn : Int} {z : Nat} {bvs : List Value} {bs : List Int} {u0 u1 u2 v0 v1 v2 tt ttz : Tok}
    (hn0 : 0 ≤ n0) (hn1 : 0 ≤ n1) (hn2 : 0 ≤ n2) (htn : 0 ≤ tn ∧ tn ≤ 1) (hz : z = 1 ∨ z = 2) (hr0 : r0.length ≤ 60) (hr1 : r1.length ≤ 60) (hr2 : r2.length ≤ 60) (hbs : IntsAre bvs bs)
    (hx4 : ∀ c ∈ KStt.codes (quoteN z (mailS r0 r1 r2 n0 n1 n2 tn bs)), (foldC c.toNat).length ≤ 4)
    (hlr : (lr, W.listOf #[.str r0 u0, .str r1 u1, .str r2 u2] kr) ∈ news) (hlb : (lb, W.listOf bvs.toArray kb) ∈ news) (hls : (ls, W.listOf #[.int n0 v0, .int n1 v1, .int n2 v2] ks) ∈ news)
    (B : Below A₀ base outer h₀) (F : Fr h₀ L s.heap m) (X : (KK w.params).In h₀) (N : News h₀ L s.heap news) (T : Top VV (looseW VV LO) mean mg mb h₀) (hk : cs.kind = .function) (hd : dp + 8 < recursionLimit) (hu : un + 100 < cLine)
    (hret : ∀ D l h' tk', Fr h₀ L h' m → News h₀ L h' ((D, W.listOf (strValues l).toArray 0) :: news) → (∀ p ∈ news, p.1 < D) → l.map (·.1) = Txt.split (prepS (quoteN z (mailS r0 r1 r2 n0 n1 n2 tn bs))) (Str.ofString "\r\n") → Q (.ref D) { s with heap := h', toks := tk' }) :
    wpAny (model PP w) (ktrTop dp un gd cn cs L a ccd cl outer) (call (.ref 175) [.ref lr, .ref lb, .ref ls, .int tn tt, .int z ttz]) Q E s := by
  have cbI : CbIn 175 := CbIn.mk
  have N1 : News h₀ L s.heap ((lr, W.listOf #[.str r0 u0, .str r1 u1, .str r2 u2] kr) :: (lb, W.listOf bvs.toArray kb) :: (ls, W.listOf #[.int n0 v0, .int n1 v1, .int n2 v2] ks) :: news) := fun q hq => by
    rcases List.mem_cons.mp hq with rfl | hq
    · exact N _ hlr
    rcases List.mem_cons.mp hq with rfl | hq
    · exact N _ hlb
    rcases List.mem_cons.mp hq with rfl | hq
    · exact N _ hls
    exact N _ hq
  replace hret : ∀ D l h' tk', Fr h₀ L h' m → News h₀ L h' ((D, W.listOf (strValues l).toArray 0) :: ((lr, W.listOf #[.str r0 u0, .str r1 u1, .str r2 u2] kr) :: (lb, W.listOf bvs.toArray kb) :: (ls, W.listOf #[.int n0 v0, .int n1 v1, .int n2 v2] ks) :: news)) → (∀ p ∈ ((lr, W.listOf #[.str r0 u0, .str r1 u1, .str r2 u2] kr) :: (lb, W.listOf bvs.toArray kb) :: (ls, W.listOf #[.int n0 v0, .int n1 v1, .int n2 v2] ks) :: news), p.1 < D) → l.map (·.1) = Txt.split (prepS (quoteN z (mailS r0 r1 r2 n0 n1 n2 tn bs))) (Str.ofString "\r\n") → Q (.ref D) { s with heap := h', toks := tk' } :=
    fun D l h' tk' F' N' l' e => hret D l h' tk' F' (fun q hq => N' q (by
      rcases List.mem_cons.mp hq with rfl | hq
      · exact .head _
      · exact .tail _ (.tail _ (.tail _ (.tail _ hq))))) (fun p hp => l' p (.tail _ (.tail _ (.tail _ hp)))) e
  clear N hlr hlb hls
  refine wpAny_call ?_
  k_dflt cell_enter
  generalize s.toks + List.length _ = tk0
  walk1
  walk1
  walk1
  walk1
  dsimp only
  rename Fr _ _ _ (fun _ => _) => Fz
  rename News _ _ _ _ => Nz
  rename Below (ktrTop _ _ _ _ _ _ _ _ _ _) _ _ _ => Bz
  rename (KK w.params).In _ => Xz
  rename Top _ _ _ _ _ _ => Tz
  show wpAny (model PP w) (ktrTop _ _ _ (Str.ofString "_law_turn") q21.1.2.2 _ 175 (.ref 174) [] (envX cn cs L a ccd cl :: outer)) (execs q21.1.2.1.tail (envX (Str.ofString "_law_turn") q21.1.2.2 _ 175 (.ref 174) [])) _ _ _
  with_reducible refine' trn_loop (tm := tk0) hn0 hn1 hn2 htn hz hr0 hr1 hr2 hbs ?hx Bz ?F Xz Nz Tz ?hd ?hu ?hE ?_
  case hx => exact hx4
  case F => exact frC (frC (frC (frC (frC (frC Fz (x := Str.ofString "times") rfl) (x := Str.ofString "turn") rfl) (x := Str.ofString "rests") rfl) (x := Str.ofString "bare") rfl) (x := Str.ofString "rows") rfl) (x := Str.ofString "mail") rfl
  case hd => ktr_room
  case hu => ktr_units
  case hE => passes_own
  intro m9 D l h9 tk9 F9 N9 l9 e9
  dsimp only
  k_steps
  exact hret _ _ _ _ (by k_asm) (by k_asm) l9 e9
end
end MyLaw
end
end
section
open PySem PySem.Spec PySem.Calls PySem.W PySem.W.X PyProof.Rows
noncomputable section
namespace MyLaw
open LCg
abbrev lawN : Str := Str.ofString "law"
abbrev lawSc : Scope := q26.1.2.2
def lawCl (L : Addr) : List (Str × Addr) := cellsFrom (L + 1) q26.1.2.2.names []
def lawFor : List Stmt := match q26.1.2.1[12]? with
  | some (Stmt.For _ _ b _ _) => b
  | _ => []
def lawFor2 : List Stmt := match lawFor[4]? with
  | some (Stmt.For _ _ b _ _) => b
  | _ => []
theorem nM {g h : Heap} {L : Addr} {all l : List (Addr × Obj)} {p : Addr × Obj} (N : News g L h all) (hm : p ∈ all) (N2 : News g L h l) : News g L h (p :: l) := fun q hq => by
  rcases List.mem_cons.mp hq with rfl | hq
  · exact N _ hm
  · exact N2 _ hq
theorem news_tail {g h : Heap} {L : Addr} {all pre : List (Addr × Obj)} {p : Addr × Obj} (N : News g L h (p :: (pre ++ all))) : News g L h (p :: all) := fun q hq => N q (by
  rcases List.mem_cons.mp hq with rfl | hq
  · exact .head _
  · exact .tail _ (List.mem_append_right _ hq))
theorem news_rest {g h : Heap} {L : Addr} {all pre : List (Addr × Obj)} (N : News g L h (pre ++ all)) : News g L h all := fun q hq => N q (List.mem_append_right _ hq)
theorem off1_tail {D : Addr} {all : List (Addr × Obj)} : ∀ {pre : List (Addr × Obj)}, Off1 D (pre ++ all) → Off1 D all
  | [], h => h
  | _ :: r, h => off1_tail (pre := r) h.2
theorem room_le {d a b r : Nat} (h : d + a < r) (e : b ≤ a) : d + b < r := Nat.lt_of_le_of_lt (Nat.add_le_add_left e d) h
theorem nAd {L a b : Nat} (h : a ≠ b) : @Ne Nat (L + a) (L + b) := fun e => h (Nat.add_left_cancel e)
theorem hs_cons {c : Addr} {q : Addr × Obj} {news rest : List (Addr × Obj)} (hm : q ∈ news) (hne : @Ne Nat q.1 c) (h : ∀ p ∈ rest, p ∈ news ∧ p.1 ≠ c) : ∀ p ∈ q :: rest, p ∈ news ∧ p.1 ≠ c := fun p hp => by
  rcases List.mem_cons.mp hp with rfl | hp
  · exact ⟨hm, hne⟩
  · exact h p hp
theorem store_cell {M : Model} {A : Around} {E : Value → Shared → Prop} {s : Shared} {h₀ : Heap} {L a : Addr} {m : Str → Option Value} {cn : Str} {cs : Scope} {ccd : Value} {cl : List (Str × Addr)} {x : Str} {v : Value} {Q : Unit → Shared → Prop} {news rest : List (Addr × Obj)} {c : Addr} {o : Obj} {v₀ : Option Value}
    (F : Fr h₀ L s.heap m) (N : News h₀ L s.heap news) (hc : cl.lookup x = some c) (hm : (c, o) ∈ news) (hd : o.data = .cell v₀) (hs : ∀ p ∈ rest, p ∈ news ∧ p.1 ≠ c)
    (h : ∀ h' o', o'.data = .cell (some v) → Fr h₀ L h' m → News h₀ L h' ((c, o') :: rest) → Q () { s with heap := h' })
    (hk : cs.kind = .function) (hx : (envX cn cs L a ccd cl).kindOf x = some .cell) : wpAny M A (storeName (envX cn cs L a ccd cl) x v) Q E s := by
  have hmem := N (c, o) hm
  refine wpAny_storeName_cell hk hx hc ⟨o, hmem.1, hd⟩ fun h' hv hsb => ?_
  obtain ⟨o', ho', hd'⟩ := hv
  refine h h' o' hd' ⟨F.ns.sameBut hsb (Ne.symm hmem.2.1), fun b ob e => (hsb.2 b (fun q => ?_)).trans (F.keep b ob e), F.above⟩ (fun p hp => ?_)
  · rw [q, hmem.2.2] at e; cases e
  · rcases List.mem_cons.mp hp with rfl | hp
    · exact ⟨ho', hmem.2⟩
    · obtain ⟨h1, h2⟩ := hs p hp
      exact ⟨hsb.extBut _ _ h2 (N p h1).1, (N p h1).2⟩
def TurnEnd (h₀ : Heap) (L : Addr) (m : Str → Option Value) (s : Shared) (news : List (Addr × Obj)) (R : Value → Prop) (y : Value) (s₂ : Shared) : Prop :=
  ∃ h' tk', s₂ = { s with heap := h', toks := tk' } ∧ Fr h₀ L h' m ∧ News h₀ L h' news ∧ R y
theorem TurnEnd.intro {h₀ h' : Heap} {L : Addr} {m : Str → Option Value} {s : Shared} {news all : List (Addr × Obj)} {R : Value → Prop} {y : Value} {tk' : Nat} (F : Fr h₀ L h' m) (N : News h₀ L h' all) (sub : ∀ p ∈ news, p ∈ all) (r : R y) :
    TurnEnd h₀ L m s news R y { s with heap := h', toks := tk' } := ⟨h', tk', rfl, F, fun p hp => N p (sub p hp), r⟩
theorem rest3 {prog : Program} {w : World} {A : Around} {h₀ : Heap} {L : Addr} {m : Str → Option Value} {env : Env} {elt : Expr} {x : Str} {scope : Scope} {cl : List (Str × Addr)} {s : Shared} {Fin : List Value → List (Addr × Obj) → Prop} {news : List (Addr × Obj)} (R : Nat → Value → Prop)
    (turn : ∀ (j : Nat) I oI C oC D m₂ ys h tk (E' : Value → Shared → Prop) t, j < 3 → NsObj oC m₂ → m₂ x = some (.int j t) → Fr h₀ L h m → News h₀ L h ((I, oI) :: (C, oC) :: (D, lst ys) :: news) → Off3 I C D news → ((@Ne Nat I C) ∧ (@Ne Nat I D) ∧ (@Ne Nat C D)) →
      wpAny (model prog w) A (eval elt (compEnvC scope cl C env)) (TurnEnd h₀ L m s ((I, oI) :: (C, oC) :: (D, lst ys) :: news) (R j)) E' { s with heap := h, toks := tk })
    (fin : ∀ y0 y1 y2, R 0 y0 → R 1 y1 → R 2 y2 → Fin [y0, y1, y2] news) :
    CompRest prog w A h₀ L m env elt x scope cl s (fun _ => True) (fun i v => ∃ t, v = .int (0 + (i : Int)) t) Fin 3 0 [] news := by
  have step : ∀ (k i : Nat) ys, i < 3 → (∀ y, R i y → CompRest prog w A h₀ L m env elt x scope cl s (fun _ => True) (fun i v => ∃ t, v = .int (0 + (i : Int)) t) Fin k (i + 1) (ys ++ [y]) news) →
      CompRest prog w A h₀ L m env elt x scope cl s (fun _ => True) (fun i v => ∃ t, v = .int (0 + (i : Int)) t) Fin (k + 1) i ys news := by
    intro k i ys hi next
    refine CompRest.succ ?_
    intro v I oI C oC D m₂ h tk E' hv hC hx F N off ne
    obtain ⟨t, rfl⟩ := hv
    rw [Int.zero_add] at hx
    refine wpAny_mono (turn i I oI C oC D m₂ ys h tk E' t hi hC hx F N off ne) (fun y s₂ hy => ?_) fun _ _ e => e
    obtain ⟨h', tk', rfl, F', N', hR⟩ := hy
    exact ⟨h', tk', news, rfl, F', N', off, trivial, next y hR⟩
  exact step 2 0 [] (by decide) fun y0 h0 => step 1 1 _ (by decide) fun y1 h1 => step 0 2 _ (by decide) fun y2 h2 => CompRest.zero (fin y0 y1 y2 h0 h1 h2)
end MyLaw
end
end
section
open PySem PySem.Spec PySem.Calls PySem.W PySem.W.X PyProof.Rows
noncomputable section
namespace MyLaw
def lawHigher : PySem.Expr := match lawFor2[1]? with
  | some (Stmt.Assign _ e _) => e
  | _ => .Constant .none 0 default
def lawPowers : PySem.Expr := match lawFor[1]? with
  | some (Stmt.Assign _ e _) => e
  | _ => .Constant .none 0 default
section
variable {w : World} {mean : ExcName → Option Value} {mg mb : Str → Option Value} {news : List (Addr × Obj)} {dp un : Nat} {gd : Option (List Code)} {A₀ : Around} {base h₀ : Heap} {L : Addr} {mr : Str → Option Value} {s : Shared} {Q : Value → Shared → Prop} {E : Value → Shared → Prop}
theorem higher_use {lp lt lb : Addr} {kp kt kb : Nat} {oP oT oS : Obj} {p0 p1 p2 t0 t1 : Int} {up0 up1 up2 ut0 ut1 : Tok} {bvs : List Value} {bs : List Int} (hbs : IntsAre bvs bs)
    (hoP : oP.data = .cell (some (.ref lp))) (hoT : oT.data = .cell (some (.ref lt))) (hoS : oS.data = .cell (some (.ref lb)))
    (B : Below A₀ base [] h₀) (X : (KK w.params).In h₀) (T : Top VV (looseW VV LO) mean mg mb h₀) (F : Fr h₀ L s.heap mr)
    (N : News h₀ L s.heap ((L + 11, oP) :: (L + 9, oT) :: (L + 12, oS) :: (lp, W.listOf #[.int p0 up0, .int p1 up1, .int p2 up2] kp) :: (lt, W.listOf #[.int t0 ut0, .int t1 ut1] kt) :: (lb, W.listOf bvs.toArray kb) :: news)) (hd : dp + 3 < recursionLimit) (hu : un + 30 < cLine)
    (hret : ∀ D y0 y1 y2 h' tk', (∃ t, y0 = .int (p0 + if (bs.any fun x => x == 0) then t1 else 0) t) → (∃ t, y1 = .int (p1 + if (bs.any fun x => x == 1) then t1 else 0) t) → (∃ t, y2 = .int (p2 + if (bs.any fun x => x == 2) then t1 else 0) t) → Fr h₀ L h' mr → News h₀ L h' ((D, LCg.lst [y0, y1, y2]) :: ((L + 11, oP) :: (L + 9, oT) :: (L + 12, oS) :: (lp, W.listOf #[.int p0 up0, .int p1 up1, .int p2 up2] kp) :: (lt, W.listOf #[.int t0 ut0, .int t1 ut1] kt) :: (lb, W.listOf bvs.toArray kb) :: news)) → LCg.Off1 D ((L + 11, oP) :: (L + 9, oT) :: (L + 12, oS) :: (lp, W.listOf #[.int p0 up0, .int p1 up1, .int p2 up2] kp) :: (lt, W.listOf #[.int t0 ut0, .int t1 ut1] kt) :: (lb, W.listOf bvs.toArray kb) :: news) → Q (.ref D) { s with heap := h', toks := tk' }) :
    wpAny (model PP w) (ktrTop dp un gd lawN lawSc L 204 (.ref 203) (lawCl L) []) (eval lawHigher (envX lawN lawSc L 204 (.ref 203) (lawCl L))) Q E s := by
  show wpAny _ _ (eval (PySem.Expr.ListComp _ _ _ _) _) _ _ _
  (try k_fold)
  iterate 8 (walk1)
  k_dflt (refine LCg.CompSrc.range (n := 3) (by rfl) (by k_asm) (by k_asm) (by assumption) (by decide) (by decide) (Nat.le_of_ble_eq_true rfl) ?_)
  intro g0
  refine rest3 (fun j y => ∃ t, y = .int (([p0, p1, p2] : List Int).getD j 0 + if (bs.any fun x => x == (j : Int)) then t1 else 0) t) ?turn ?fin
  case fin =>
    rintro y0 y1 y2 h0 h1 h2 D h' tk' F' N' o1
    exact hret D y0 y1 y2 h' tk' h0 h1 h2 F' N' o1
  case turn =>
    intro j I' oI' C' oC' D' m' ys' h' tk' E' t' hj hC' hx' F' N' off' ne'
    clear hret
    simp only [LCg.Off3, and_true] at off'
    have hj3 : j = 0 ∨ j = 1 ∨ j = 2 := by omega
    rcases hj3 with rfl | rfl | rfl
    all_goals repeat' (first | ((with_reducible show wpAny _ _ (compareOp CmpOp.In (Value.int _ _) (Value.ref _)) _ _ _); (k_here; refine in_list_ints (News.isList (by k_asm) (by k_mem)) (by assumption) ?_)) | ((with_reducible show wpAny _ _ (eval (PySem.Expr.ListComp _ _ _ _) _) _ _ _); (k_here; k_dflt (refine LCg.ListComp_U (F₀ := by k_asm) (by with_unfolding_all rfl) (by decide) (by rfl) (by decide) (by rfl) ?_))) | (k_unfold; (try dsimp only)) | (k_end; wrow_close) | walk1 | (dsimp only) | (leave1; (try dsimp only)))
    all_goals (refine TurnEnd.intro (by k_asm) (by assumption) (fun p hp => hp) ?_; rename (bs.any _) = _ => hb; exact ⟨_, by rw [hb]; rfl⟩)
theorem higher_useM {lp lt lb : Addr} {kp kt kb : Nat} {oP oT oS : Obj} {p0 p1 p2 t0 t1 : Int} {up0 up1 up2 ut0 ut1 : Tok} {bvs : List Value} {bs : List Int} (hbs : IntsAre bvs bs)
    (hoP : oP.data = .cell (some (.ref lp))) (hoT : oT.data = .cell (some (.ref lt))) (hoS : oS.data = .cell (some (.ref lb)))
    (B : Below A₀ base [] h₀) (X : (KK w.params).In h₀) (T : Top VV (looseW VV LO) mean mg mb h₀) (F : Fr h₀ L s.heap mr) (N : News h₀ L s.heap news) (hm0 : (L + 11, oP) ∈ news) (hm1 : (L + 9, oT) ∈ news) (hm2 : (L + 12, oS) ∈ news) (hm3 : (lp, W.listOf #[.int p0 up0, .int p1 up1, .int p2 up2] kp) ∈ news) (hm4 : (lt, W.listOf #[.int t0 ut0, .int t1 ut1] kt) ∈ news) (hm5 : (lb, W.listOf bvs.toArray kb) ∈ news) (hd : dp + 3 < recursionLimit) (hu : un + 30 < cLine)
    (hret : ∀ D y0 y1 y2 h' tk', (∃ t, y0 = .int (p0 + if (bs.any fun x => x == 0) then t1 else 0) t) → (∃ t, y1 = .int (p1 + if (bs.any fun x => x == 1) then t1 else 0) t) → (∃ t, y2 = .int (p2 + if (bs.any fun x => x == 2) then t1 else 0) t) → Fr h₀ L h' mr → News h₀ L h' ((D, LCg.lst [y0, y1, y2]) :: news) → LCg.Off1 D news → Q (.ref D) { s with heap := h', toks := tk' }) :
    wpAny (model PP w) (ktrTop dp un gd lawN lawSc L 204 (.ref 203) (lawCl L) []) (eval lawHigher (envX lawN lawSc L 204 (.ref 203) (lawCl L))) Q E s :=
  higher_use hbs hoP hoT hoS B X T F (nM N hm0 (nM N hm1 (nM N hm2 (nM N hm3 (nM N hm4 (nM N hm5 N)))))) hd hu fun D y0 y1 y2 h' tk' e0 e1 e2 F' N' o1 => hret D y0 y1 y2 h' tk' e0 e1 e2 F' (news_tail (pre := [_, _, _, _, _, _]) N') (off1_tail (pre := [_, _, _, _, _, _]) o1)
theorem powers_use {lp lt lb : Addr} {kp kt kb : Nat} {oP oT oS : Obj} {p0 p1 p2 t0 t1 : Int} {up0 up1 up2 ut0 ut1 : Tok} {bvs : List Value} {bs : List Int} (hbs : IntsAre bvs bs)
    (hoP : oP.data = .cell (some (.ref lp))) (hoT : oT.data = .cell (some (.ref lt))) (hoS : oS.data = .cell (some (.ref lb)))
    (B : Below A₀ base [] h₀) (X : (KK w.params).In h₀) (T : Top VV (looseW VV LO) mean mg mb h₀) (F : Fr h₀ L s.heap mr)
    (N : News h₀ L s.heap ((L + 5, oP) :: (L + 9, oT) :: (L + 10, oS) :: (lp, W.listOf #[.int p0 up0, .int p1 up1, .int p2 up2] kp) :: (lt, W.listOf #[.int t0 ut0, .int t1 ut1] kt) :: (lb, W.listOf bvs.toArray kb) :: news)) (hd : dp + 3 < recursionLimit) (hu : un + 30 < cLine)
    (hret : ∀ D y0 y1 y2 h' tk', (∃ t, y0 = .int (p0 + if (bs.any fun x => x == 0) then t0 else 0) t) → (∃ t, y1 = .int (p1 + if (bs.any fun x => x == 1) then t0 else 0) t) → (∃ t, y2 = .int (p2 + if (bs.any fun x => x == 2) then t0 else 0) t) → Fr h₀ L h' mr → News h₀ L h' ((D, LCg.lst [y0, y1, y2]) :: ((L + 5, oP) :: (L + 9, oT) :: (L + 10, oS) :: (lp, W.listOf #[.int p0 up0, .int p1 up1, .int p2 up2] kp) :: (lt, W.listOf #[.int t0 ut0, .int t1 ut1] kt) :: (lb, W.listOf bvs.toArray kb) :: news)) → LCg.Off1 D ((L + 5, oP) :: (L + 9, oT) :: (L + 10, oS) :: (lp, W.listOf #[.int p0 up0, .int p1 up1, .int p2 up2] kp) :: (lt, W.listOf #[.int t0 ut0, .int t1 ut1] kt) :: (lb, W.listOf bvs.toArray kb) :: news) → Q (.ref D) { s with heap := h', toks := tk' }) :
    wpAny (model PP w) (ktrTop dp un gd lawN lawSc L 204 (.ref 203) (lawCl L) []) (eval lawPowers (envX lawN lawSc L 204 (.ref 203) (lawCl L))) Q E s := by
  show wpAny _ _ (eval (PySem.Expr.ListComp _ _ _ _) _) _ _ _
  (try k_fold)
  iterate 8 (walk1)
  k_dflt (refine LCg.CompSrc.range (n := 3) (by rfl) (by k_asm) (by k_asm) (by assumption) (by decide) (by decide) (Nat.le_of_ble_eq_true rfl) ?_)
  intro g0
  refine rest3 (fun j y => ∃ t, y = .int (([p0, p1, p2] : List Int).getD j 0 + if (bs.any fun x => x == (j : Int)) then t0 else 0) t) ?turn ?fin
  case fin =>
    rintro y0 y1 y2 h0 h1 h2 D h' tk' F' N' o1
    exact hret D y0 y1 y2 h' tk' h0 h1 h2 F' N' o1
  case turn =>
    intro j I' oI' C' oC' D' m' ys' h' tk' E' t' hj hC' hx' F' N' off' ne'
    clear hret
    simp only [LCg.Off3, and_true] at off'
    have hj3 : j = 0 ∨ j = 1 ∨ j = 2 := by omega
    rcases hj3 with rfl | rfl | rfl
    all_goals repeat' (first | ((with_reducible show wpAny _ _ (compareOp CmpOp.In (Value.int _ _) (Value.ref _)) _ _ _); (k_here; refine in_list_ints (News.isList (by k_asm) (by k_mem)) (by assumption) ?_)) | ((with_reducible show wpAny _ _ (eval (PySem.Expr.ListComp _ _ _ _) _) _ _ _); (k_here; k_dflt (refine LCg.ListComp_U (F₀ := by k_asm) (by with_unfolding_all rfl) (by decide) (by rfl) (by decide) (by rfl) ?_))) | (k_unfold; (try dsimp only)) | (k_end; wrow_close) | walk1 | (dsimp only) | (leave1; (try dsimp only)))
    all_goals (refine TurnEnd.intro (by k_asm) (by assumption) (fun p hp => hp) ?_; rename (bs.any _) = _ => hb; exact ⟨_, by rw [hb]; rfl⟩)
theorem powers_useM {lp lt lb : Addr} {kp kt kb : Nat} {oP oT oS : Obj} {p0 p1 p2 t0 t1 : Int} {up0 up1 up2 ut0 ut1 : Tok} {bvs : List Value} {bs : List Int} (hbs : IntsAre bvs bs)
    (hoP : oP.data = .cell (some (.ref lp))) (hoT : oT.data = .cell (some (.ref lt))) (hoS : oS.data = .cell (some (.ref lb)))
    (B : Below A₀ base [] h₀) (X : (KK w.params).In h₀) (T : Top VV (looseW VV LO) mean mg mb h₀) (F : Fr h₀ L s.heap mr) (N : News h₀ L s.heap news) (hm0 : (L + 5, oP) ∈ news) (hm1 : (L + 9, oT) ∈ news) (hm2 : (L + 10, oS) ∈ news) (hm3 : (lp, W.listOf #[.int p0 up0, .int p1 up1, .int p2 up2] kp) ∈ news) (hm4 : (lt, W.listOf #[.int t0 ut0, .int t1 ut1] kt) ∈ news) (hm5 : (lb, W.listOf bvs.toArray kb) ∈ news) (hd : dp + 3 < recursionLimit) (hu : un + 30 < cLine)
    (hret : ∀ D y0 y1 y2 h' tk', (∃ t, y0 = .int (p0 + if (bs.any fun x => x == 0) then t0 else 0) t) → (∃ t, y1 = .int (p1 + if (bs.any fun x => x == 1) then t0 else 0) t) → (∃ t, y2 = .int (p2 + if (bs.any fun x => x == 2) then t0 else 0) t) → Fr h₀ L h' mr → News h₀ L h' ((D, LCg.lst [y0, y1, y2]) :: news) → LCg.Off1 D news → Q (.ref D) { s with heap := h', toks := tk' }) :
    wpAny (model PP w) (ktrTop dp un gd lawN lawSc L 204 (.ref 203) (lawCl L) []) (eval lawPowers (envX lawN lawSc L 204 (.ref 203) (lawCl L))) Q E s :=
  powers_use hbs hoP hoT hoS B X T F (nM N hm0 (nM N hm1 (nM N hm2 (nM N hm3 (nM N hm4 (nM N hm5 N)))))) hd hu fun D y0 y1 y2 h' tk' e0 e1 e2 F' N' o1 => hret D y0 y1 y2 h' tk' e0 e1 e2 F' (news_tail (pre := [_, _, _, _, _, _]) N') (off1_tail (pre := [_, _, _, _, _, _]) o1)
end
end MyLaw
end
end
section
open PySem PySem.Spec PySem.Calls PySem.W PySem.W.X PyProof.Rows
noncomputable section
namespace MyLaw
def dotsS (n : Int) : Str := ⟨Array.replicate n.toNat 46⟩
theorem dots_eq : ∀ k : Nat, k < 21 → Txt.mul (Str.ofString ".") (k : Int) = dotsS (k : Int) := by decide +kernel
theorem dotsS_len {n : Int} (h : 0 ≤ n ∧ n ≤ 20) : (dotsS n).length ≤ 20 := by
  show (Array.replicate n.toNat 46).size ≤ 20
  rw [Array.size_replicate]; omega
theorem dot_mul {prog : Program} {w : World} {A : Around} {E : Value → Shared → Prop} {s : Shared} {n : Int} {t u : Tok} {Q : Value → Shared → Prop} (hp : 0 ≤ n ∧ n ≤ 20) (h : ∀ t' k, (dotsS n).length ≤ 20 → Q (.str (dotsS n) t') { s with toks := k }) :
    wpAny (model prog w) A (binaryOp .Mult (.str (Str.ofString ".") t) (.int n u)) Q E s :=
  KXi.mul (n := 1) rfl (by decide) (by omega) (by omega) fun t' k _ _ => by
    have e := dots_eq n.toNat (by omega)
    rw [Int.toNat_of_nonneg hp.1] at e
    rw [e]
    exact h t' k (dotsS_len hp)
def lawPage : PySem.Expr := match lawFor[0]? with
  | some (Stmt.Assign _ (.Call _ (e :: _) _ _) _) => e
  | _ => .Constant .none 0 default
section
variable {w : World} {mean : ExcName → Option Value} {mg mb : Str → Option Value} {news : List (Addr × Obj)} {dp un : Nat} {gd : Option (List Code)} {A₀ : Around} {base h₀ : Heap} {L : Addr} {mr : Str → Option Value} {s : Shared} {Q : Value → Shared → Prop} {E : Value → Shared → Prop}
local macro_rules | `(tactic| kt_len) => `(tactic| assumption)
theorem page_use {lp ln m0 m1 m2 : Addr} {kp kn : Nat} {oP oN : Obj} {p0 p1 p2 : Int} {up0 up1 up2 ua0 ua1 ua2 ub0 ub1 ub2 : Tok} {a0 a1 a2 b0 b1 b2 : Str}
    (hp0 : 0 ≤ p0 ∧ p0 ≤ 20) (hp1 : 0 ≤ p1 ∧ p1 ≤ 20) (hp2 : 0 ≤ p2 ∧ p2 ≤ 20) (hs0 : a0.length ≤ 8) (hs1 : a1.length ≤ 8) (hs2 : a2.length ≤ 8)
    (hoP : oP.data = .cell (some (.ref lp))) (hoN : oN.data = .cell (some (.ref ln)))
    (B : Below A₀ base [] h₀) (X : (KK w.params).In h₀) (T : Top VV (looseW VV LO) mean mg mb h₀) (F : Fr h₀ L s.heap mr)
    (N : News h₀ L s.heap ((L + 5, oP) :: (L + 7, oN) :: (lp, W.listOf #[.int p0 up0, .int p1 up1, .int p2 up2] kp) :: (ln, W.listOf #[.ref m0, .ref m1, .ref m2] kn) :: (m0, { cls := .type "tuple", data := .seq #[.str a0 ua0, .str b0 ub0] }) :: (m1, { cls := .type "tuple", data := .seq #[.str a1 ua1, .str b1 ub1] }) :: (m2, { cls := .type "tuple", data := .seq #[.str a2 ua2, .str b2 ub2] }) :: news)) (hd : dp + 3 < recursionLimit) (hu : un + 30 < cLine)
    (hret : ∀ D y0 y1 y2 h' tk', (∃ t, y0 = .str (dotsS p0 ++ a0) t) → (∃ t, y1 = .str (dotsS p1 ++ a1) t) → (∃ t, y2 = .str (dotsS p2 ++ a2) t) → Fr h₀ L h' mr → News h₀ L h' ((D, LCg.lst [y0, y1, y2]) :: ((L + 5, oP) :: (L + 7, oN) :: (lp, W.listOf #[.int p0 up0, .int p1 up1, .int p2 up2] kp) :: (ln, W.listOf #[.ref m0, .ref m1, .ref m2] kn) :: (m0, { cls := .type "tuple", data := .seq #[.str a0 ua0, .str b0 ub0] }) :: (m1, { cls := .type "tuple", data := .seq #[.str a1 ua1, .str b1 ub1] }) :: (m2, { cls := .type "tuple", data := .seq #[.str a2 ua2, .str b2 ub2] }) :: news)) → LCg.Off1 D ((L + 5, oP) :: (L + 7, oN) :: (lp, W.listOf #[.int p0 up0, .int p1 up1, .int p2 up2] kp) :: (ln, W.listOf #[.ref m0, .ref m1, .ref m2] kn) :: (m0, { cls := .type "tuple", data := .seq #[.str a0 ua0, .str b0 ub0] }) :: (m1, { cls := .type "tuple", data := .seq #[.str a1 ua1, .str b1 ub1] }) :: (m2, { cls := .type "tuple", data := .seq #[.str a2 ua2, .str b2 ub2] }) :: news) → Q (.ref D) { s with heap := h', toks := tk' }) :
    wpAny (model PP w) (ktrTop dp un gd lawN lawSc L 204 (.ref 203) (lawCl L) []) (eval lawPage (envX lawN lawSc L 204 (.ref 203) (lawCl L))) Q E s := by
  show wpAny _ _ (eval (PySem.Expr.ListComp _ _ _ _) _) _ _ _
  (try k_fold)
  iterate 8 (walk1)
  k_dflt (refine LCg.CompSrc.range (n := 3) (by rfl) (by k_asm) (by k_asm) (by assumption) (by decide) (by decide) (Nat.le_of_ble_eq_true rfl) ?_)
  intro g0
  refine rest3 (fun j y => ∃ t, y = .str (dotsS (([p0, p1, p2] : List Int).getD j 0) ++ ([a0, a1, a2] : List Str).getD j Str.empty) t) ?turn ?fin
  case fin =>
    rintro y0 y1 y2 h0 h1 h2 D h' tk' F' N' o1
    exact hret D y0 y1 y2 h' tk' h0 h1 h2 F' N' o1
  case turn =>
    intro j I' oI' C' oC' D' m' ys' h' tk' E' t' hj hC' hx' F' N' off' ne'
    clear hret
    simp only [LCg.Off3, and_true] at off'
    have hj3 : j = 0 ∨ j = 1 ∨ j = 2 := by omega
    rcases hj3 with rfl | rfl | rfl
    all_goals repeat' (first | ((with_reducible show wpAny _ _ (binaryOp _ (Value.str _ _) (Value.int _ _)) _ _ _); (k_here; (refine dot_mul (by assumption) ?_); intro _ _ _)) | ((with_reducible show wpAny _ _ (eval (PySem.Expr.ListComp _ _ _ _) _) _ _ _); (k_here; k_dflt (refine LCg.ListComp_U (F₀ := by k_asm) (by with_unfolding_all rfl) (by decide) (by rfl) (by decide) (by rfl) ?_))) | (k_unfold; (try dsimp only)) | (k_end; wrow_close) | walk1 | (dsimp only) | (leave1; (try dsimp only)))
    all_goals (refine TurnEnd.intro (by k_asm) (by assumption) (fun p hp => hp) ?_; exact ⟨_, rfl⟩)
theorem page_useM {lp ln m0 m1 m2 : Addr} {kp kn : Nat} {oP oN : Obj} {p0 p1 p2 : Int} {up0 up1 up2 ua0 ua1 ua2 ub0 ub1 ub2 : Tok} {a0 a1 a2 b0 b1 b2 : Str}
    (hp0 : 0 ≤ p0 ∧ p0 ≤ 20) (hp1 : 0 ≤ p1 ∧ p1 ≤ 20) (hp2 : 0 ≤ p2 ∧ p2 ≤ 20) (hs0 : a0.length ≤ 8) (hs1 : a1.length ≤ 8) (hs2 : a2.length ≤ 8)
    (hoP : oP.data = .cell (some (.ref lp))) (hoN : oN.data = .cell (some (.ref ln)))
    (B : Below A₀ base [] h₀) (X : (KK w.params).In h₀) (T : Top VV (looseW VV LO) mean mg mb h₀) (F : Fr h₀ L s.heap mr) (N : News h₀ L s.heap news) (hm0 : (L + 5, oP) ∈ news) (hm1 : (L + 7, oN) ∈ news) (hm2 : (lp, W.listOf #[.int p0 up0, .int p1 up1, .int p2 up2] kp) ∈ news) (hm3 : (ln, W.listOf #[.ref m0, .ref m1, .ref m2] kn) ∈ news) (hm4 : (m0, { cls := .type "tuple", data := .seq #[.str a0 ua0, .str b0 ub0] }) ∈ news) (hm5 : (m1, { cls := .type "tuple", data := .seq #[.str a1 ua1, .str b1 ub1] }) ∈ news) (hm6 : (m2, { cls := .type "tuple", data := .seq #[.str a2 ua2, .str b2 ub2] }) ∈ news) (hd : dp + 3 < recursionLimit) (hu : un + 30 < cLine)
    (hret : ∀ D y0 y1 y2 h' tk', (∃ t, y0 = .str (dotsS p0 ++ a0) t) → (∃ t, y1 = .str (dotsS p1 ++ a1) t) → (∃ t, y2 = .str (dotsS p2 ++ a2) t) → Fr h₀ L h' mr → News h₀ L h' ((D, LCg.lst [y0, y1, y2]) :: news) → LCg.Off1 D news → Q (.ref D) { s with heap := h', toks := tk' }) :
    wpAny (model PP w) (ktrTop dp un gd lawN lawSc L 204 (.ref 203) (lawCl L) []) (eval lawPage (envX lawN lawSc L 204 (.ref 203) (lawCl L))) Q E s :=
  page_use hp0 hp1 hp2 hs0 hs1 hs2 hoP hoN B X T F (nM N hm0 (nM N hm1 (nM N hm2 (nM N hm3 (nM N hm4 (nM N hm5 (nM N hm6 N))))))) hd hu fun D y0 y1 y2 h' tk' e0 e1 e2 F' N' o1 => hret D y0 y1 y2 h' tk' e0 e1 e2 F' (news_tail (pre := [_, _, _, _, _, _, _]) N') (off1_tail (pre := [_, _, _, _, _, _, _]) o1)
end
section
variable {w : World} {mean : ExcName → Option Value} {mg mb : Str → Option Value} {news : List (Addr × Obj)} {dp un : Nat} {gd : Option (List Code)} {A₀ : Around} {base h₀ : Heap} {L : Addr} {mr : Str → Option Value} {s : Shared} {Q : Flow → Shared → Prop} {E : Value → Shared → Prop}
local macro_rules | `(tactic| kt_len) => `(tactic| assumption)
theorem rows_use {lp ln m0 m1 m2 : Addr} {kp kn : Nat} {oP oN : Obj} {p0 p1 p2 : Int} {up0 up1 up2 ua0 ua1 ua2 ub0 ub1 ub2 : Tok} {a0 a1 a2 b0 b1 b2 : Str}
    (hp0 : 0 ≤ p0 ∧ p0 ≤ 20) (hp1 : 0 ≤ p1 ∧ p1 ≤ 20) (hp2 : 0 ≤ p2 ∧ p2 ≤ 20) (hs0 : b0.length ≤ 8) (hs1 : b1.length ≤ 8) (hs2 : b2.length ≤ 8)
    (hoP : oP.data = .cell (some (.ref lp))) (hoN : oN.data = .cell (some (.ref ln)))
    (B : Below A₀ base [] h₀) (X : (KK w.params).In h₀) (T : Top VV (looseW VV LO) mean mg mb h₀) (F : Fr h₀ L s.heap mr)
    (N : News h₀ L s.heap ((L + 11, oP) :: (L + 7, oN) :: (lp, W.listOf #[.int p0 up0, .int p1 up1, .int p2 up2] kp) :: (ln, W.listOf #[.ref m0, .ref m1, .ref m2] kn) :: (m0, { cls := .type "tuple", data := .seq #[.str a0 ua0, .str b0 ub0] }) :: (m1, { cls := .type "tuple", data := .seq #[.str a1 ua1, .str b1 ub1] }) :: (m2, { cls := .type "tuple", data := .seq #[.str a2 ua2, .str b2 ub2] }) :: news)) (hd : dp + 3 < recursionLimit) (hu : un + 30 < cLine)
    (hret : ∀ D y0 y1 y2 h' tk', (∃ t, y0 = .str (dotsS p0 ++ b0) t) → (∃ t, y1 = .str (dotsS p1 ++ b1) t) → (∃ t, y2 = .str (dotsS p2 ++ b2) t) → Fr h₀ L h' (fun z => if z = Str.ofString "rows" then some (.ref D) else mr z) → News h₀ L h' ((D, LCg.lst [y0, y1, y2]) :: ((L + 11, oP) :: (L + 7, oN) :: (lp, W.listOf #[.int p0 up0, .int p1 up1, .int p2 up2] kp) :: (ln, W.listOf #[.ref m0, .ref m1, .ref m2] kn) :: (m0, { cls := .type "tuple", data := .seq #[.str a0 ua0, .str b0 ub0] }) :: (m1, { cls := .type "tuple", data := .seq #[.str a1 ua1, .str b1 ub1] }) :: (m2, { cls := .type "tuple", data := .seq #[.str a2 ua2, .str b2 ub2] }) :: news)) → LCg.Off1 D ((L + 11, oP) :: (L + 7, oN) :: (lp, W.listOf #[.int p0 up0, .int p1 up1, .int p2 up2] kp) :: (ln, W.listOf #[.ref m0, .ref m1, .ref m2] kn) :: (m0, { cls := .type "tuple", data := .seq #[.str a0 ua0, .str b0 ub0] }) :: (m1, { cls := .type "tuple", data := .seq #[.str a1 ua1, .str b1 ub1] }) :: (m2, { cls := .type "tuple", data := .seq #[.str a2 ua2, .str b2 ub2] }) :: news) → Q .next { s with heap := h', toks := tk' }) :
    wpAny (model PP w) (ktrTop dp un gd lawN lawSc L 204 (.ref 203) (lawCl L) []) (exec (lawFor[2]?.getD (.Pass default)) (envX lawN lawSc L 204 (.ref 203) (lawCl L))) Q E s := by
  show wpAny _ _ (exec (Stmt.Assign _ _ _) _) _ _ _
  (try k_fold)
  iterate 8 (walk1)
  k_dflt (refine LCg.CompSrc.range (n := 3) (by rfl) (by k_asm) (by k_asm) (by assumption) (by decide) (by decide) (Nat.le_of_ble_eq_true rfl) ?_)
  intro g0
  refine rest3 (fun j y => ∃ t, y = .str (dotsS (([p0, p1, p2] : List Int).getD j 0) ++ ([b0, b1, b2] : List Str).getD j Str.empty) t) ?turn ?fin
  case fin =>
    rintro y0 y1 y2 h0 h1 h2 D h' tk' F' N' o1
    exact hret D y0 y1 y2 h' tk' h0 h1 h2 F' N' o1
  case turn =>
    intro j I' oI' C' oC' D' m' ys' h' tk' E' t' hj hC' hx' F' N' off' ne'
    clear hret
    simp only [LCg.Off3, and_true] at off'
    have hj3 : j = 0 ∨ j = 1 ∨ j = 2 := by omega
    rcases hj3 with rfl | rfl | rfl
    all_goals repeat' (first | ((with_reducible show wpAny _ _ (exec (Stmt.Assign _ (PySem.Expr.ListComp _ _ _ _) _) _) _ _ _); (k_here; k_dflt (refine LCg.Assign_ListComp_U (F₀ := by k_asm) (by rfl) (by with_unfolding_all rfl) (by with_unfolding_all rfl) (by decide) (by rfl) (by decide) (by rfl) (by rfl) (by rfl) ?_))) | ((with_reducible show wpAny _ _ (binaryOp _ (Value.str _ _) (Value.int _ _)) _ _ _); (k_here; (refine dot_mul (by assumption) ?_); intro _ _ _)) | (k_unfold; (try dsimp only)) | (k_end; wrow_close) | walk1 | (dsimp only) | (leave1; (try dsimp only)))
    all_goals (refine TurnEnd.intro (by k_asm) (by assumption) (fun p hp => hp) ?_; exact ⟨_, rfl⟩)
theorem rows_useM {lp ln m0 m1 m2 : Addr} {kp kn : Nat} {oP oN : Obj} {p0 p1 p2 : Int} {up0 up1 up2 ua0 ua1 ua2 ub0 ub1 ub2 : Tok} {a0 a1 a2 b0 b1 b2 : Str}
    (hp0 : 0 ≤ p0 ∧ p0 ≤ 20) (hp1 : 0 ≤ p1 ∧ p1 ≤ 20) (hp2 : 0 ≤ p2 ∧ p2 ≤ 20) (hs0 : b0.length ≤ 8) (hs1 : b1.length ≤ 8) (hs2 : b2.length ≤ 8)
    (hoP : oP.data = .cell (some (.ref lp))) (hoN : oN.data = .cell (some (.ref ln)))
    (B : Below A₀ base [] h₀) (X : (KK w.params).In h₀) (T : Top VV (looseW VV LO) mean mg mb h₀) (F : Fr h₀ L s.heap mr) (N : News h₀ L s.heap news) (hm0 : (L + 11, oP) ∈ news) (hm1 : (L + 7, oN) ∈ news) (hm2 : (lp, W.listOf #[.int p0 up0, .int p1 up1, .int p2 up2] kp) ∈ news) (hm3 : (ln, W.listOf #[.ref m0, .ref m1, .ref m2] kn) ∈ news) (hm4 : (m0, { cls := .type "tuple", data := .seq #[.str a0 ua0, .str b0 ub0] }) ∈ news) (hm5 : (m1, { cls := .type "tuple", data := .seq #[.str a1 ua1, .str b1 ub1] }) ∈ news) (hm6 : (m2, { cls := .type "tuple", data := .seq #[.str a2 ua2, .str b2 ub2] }) ∈ news) (hd : dp + 3 < recursionLimit) (hu : un + 30 < cLine)
    (hret : ∀ D y0 y1 y2 h' tk', (∃ t, y0 = .str (dotsS p0 ++ b0) t) → (∃ t, y1 = .str (dotsS p1 ++ b1) t) → (∃ t, y2 = .str (dotsS p2 ++ b2) t) → Fr h₀ L h' (fun z => if z = Str.ofString "rows" then some (.ref D) else mr z) → News h₀ L h' ((D, LCg.lst [y0, y1, y2]) :: news) → LCg.Off1 D news → Q .next { s with heap := h', toks := tk' }) :
    wpAny (model PP w) (ktrTop dp un gd lawN lawSc L 204 (.ref 203) (lawCl L) []) (exec (lawFor[2]?.getD (.Pass default)) (envX lawN lawSc L 204 (.ref 203) (lawCl L))) Q E s :=
  rows_use hp0 hp1 hp2 hs0 hs1 hs2 hoP hoN B X T F (nM N hm0 (nM N hm1 (nM N hm2 (nM N hm3 (nM N hm4 (nM N hm5 (nM N hm6 N))))))) hd hu fun D y0 y1 y2 h' tk' e0 e1 e2 F' N' o1 => hret D y0 y1 y2 h' tk' e0 e1 e2 F' (news_tail (pre := [_, _, _, _, _, _, _]) N') (off1_tail (pre := [_, _, _, _, _, _, _]) o1)
theorem ends_use {lp ln m0 m1 m2 : Addr} {kp kn : Nat} {oP oN : Obj} {p0 p1 p2 : Int} {up0 up1 up2 ua0 ua1 ua2 ub0 ub1 ub2 : Tok} {a0 a1 a2 b0 b1 b2 : Str}
    (hp0 : 0 ≤ p0 ∧ p0 ≤ 20) (hp1 : 0 ≤ p1 ∧ p1 ≤ 20) (hp2 : 0 ≤ p2 ∧ p2 ≤ 20) (hs0 : b0.length ≤ 8) (hs1 : b1.length ≤ 8) (hs2 : b2.length ≤ 8)
    (hoP : oP.data = .cell (some (.ref lp))) (hoN : oN.data = .cell (some (.ref ln)))
    (B : Below A₀ base [] h₀) (X : (KK w.params).In h₀) (T : Top VV (looseW VV LO) mean mg mb h₀) (F : Fr h₀ L s.heap mr)
    (N : News h₀ L s.heap ((L + 14, oP) :: (L + 7, oN) :: (lp, W.listOf #[.int p0 up0, .int p1 up1, .int p2 up2] kp) :: (ln, W.listOf #[.ref m0, .ref m1, .ref m2] kn) :: (m0, { cls := .type "tuple", data := .seq #[.str a0 ua0, .str b0 ub0] }) :: (m1, { cls := .type "tuple", data := .seq #[.str a1 ua1, .str b1 ub1] }) :: (m2, { cls := .type "tuple", data := .seq #[.str a2 ua2, .str b2 ub2] }) :: news)) (hd : dp + 3 < recursionLimit) (hu : un + 30 < cLine)
    (hret : ∀ D y0 y1 y2 h' tk', (∃ t, y0 = .str (dotsS p0 ++ b0) t) → (∃ t, y1 = .str (dotsS p1 ++ b1) t) → (∃ t, y2 = .str (dotsS p2 ++ b2) t) → Fr h₀ L h' (fun z => if z = Str.ofString "ends" then some (.ref D) else mr z) → News h₀ L h' ((D, LCg.lst [y0, y1, y2]) :: ((L + 14, oP) :: (L + 7, oN) :: (lp, W.listOf #[.int p0 up0, .int p1 up1, .int p2 up2] kp) :: (ln, W.listOf #[.ref m0, .ref m1, .ref m2] kn) :: (m0, { cls := .type "tuple", data := .seq #[.str a0 ua0, .str b0 ub0] }) :: (m1, { cls := .type "tuple", data := .seq #[.str a1 ua1, .str b1 ub1] }) :: (m2, { cls := .type "tuple", data := .seq #[.str a2 ua2, .str b2 ub2] }) :: news)) → LCg.Off1 D ((L + 14, oP) :: (L + 7, oN) :: (lp, W.listOf #[.int p0 up0, .int p1 up1, .int p2 up2] kp) :: (ln, W.listOf #[.ref m0, .ref m1, .ref m2] kn) :: (m0, { cls := .type "tuple", data := .seq #[.str a0 ua0, .str b0 ub0] }) :: (m1, { cls := .type "tuple", data := .seq #[.str a1 ua1, .str b1 ub1] }) :: (m2, { cls := .type "tuple", data := .seq #[.str a2 ua2, .str b2 ub2] }) :: news) → Q .next { s with heap := h', toks := tk' }) :
    wpAny (model PP w) (ktrTop dp un gd lawN lawSc L 204 (.ref 203) (lawCl L) []) (exec (lawFor2[2]?.getD (.Pass default)) (envX lawN lawSc L 204 (.ref 203) (lawCl L))) Q E s := by
  show wpAny _ _ (exec (Stmt.Assign _ _ _) _) _ _ _
  (try k_fold)
  iterate 8 (walk1)
  k_dflt (refine LCg.CompSrc.range (n := 3) (by rfl) (by k_asm) (by k_asm) (by assumption) (by decide) (by decide) (Nat.le_of_ble_eq_true rfl) ?_)
  intro g0
  refine rest3 (fun j y => ∃ t, y = .str (dotsS (([p0, p1, p2] : List Int).getD j 0) ++ ([b0, b1, b2] : List Str).getD j Str.empty) t) ?turn ?fin
  case fin =>
    rintro y0 y1 y2 h0 h1 h2 D h' tk' F' N' o1
    exact hret D y0 y1 y2 h' tk' h0 h1 h2 F' N' o1
  case turn =>
    intro j I' oI' C' oC' D' m' ys' h' tk' E' t' hj hC' hx' F' N' off' ne'
    clear hret
    simp only [LCg.Off3, and_true] at off'
    have hj3 : j = 0 ∨ j = 1 ∨ j = 2 := by omega
    rcases hj3 with rfl | rfl | rfl
    all_goals repeat' (first | ((with_reducible show wpAny _ _ (exec (Stmt.Assign _ (PySem.Expr.ListComp _ _ _ _) _) _) _ _ _); (k_here; k_dflt (refine LCg.Assign_ListComp_U (F₀ := by k_asm) (by rfl) (by with_unfolding_all rfl) (by with_unfolding_all rfl) (by decide) (by rfl) (by decide) (by rfl) (by rfl) (by rfl) ?_))) | ((with_reducible show wpAny _ _ (binaryOp _ (Value.str _ _) (Value.int _ _)) _ _ _); (k_here; (refine dot_mul (by assumption) ?_); intro _ _ _)) | (k_unfold; (try dsimp only)) | (k_end; wrow_close) | walk1 | (dsimp only) | (leave1; (try dsimp only)))
    all_goals (refine TurnEnd.intro (by k_asm) (by assumption) (fun p hp => hp) ?_; exact ⟨_, rfl⟩)
theorem ends_useM {lp ln m0 m1 m2 : Addr} {kp kn : Nat} {oP oN : Obj} {p0 p1 p2 : Int} {up0 up1 up2 ua0 ua1 ua2 ub0 ub1 ub2 : Tok} {a0 a1 a2 b0 b1 b2 : Str}
    (hp0 : 0 ≤ p0 ∧ p0 ≤ 20) (hp1 : 0 ≤ p1 ∧ p1 ≤ 20) (hp2 : 0 ≤ p2 ∧ p2 ≤ 20) (hs0 : b0.length ≤ 8) (hs1 : b1.length ≤ 8) (hs2 : b2.length ≤ 8)
    (hoP : oP.data = .cell (some (.ref lp))) (hoN : oN.data = .cell (some (.ref ln)))
    (B : Below A₀ base [] h₀) (X : (KK w.params).In h₀) (T : Top VV (looseW VV LO) mean mg mb h₀) (F : Fr h₀ L s.heap mr) (N : News h₀ L s.heap news) (hm0 : (L + 14, oP) ∈ news) (hm1 : (L + 7, oN) ∈ news) (hm2 : (lp, W.listOf #[.int p0 up0, .int p1 up1, .int p2 up2] kp) ∈ news) (hm3 : (ln, W.listOf #[.ref m0, .ref m1, .ref m2] kn) ∈ news) (hm4 : (m0, { cls := .type "tuple", data := .seq #[.str a0 ua0, .str b0 ub0] }) ∈ news) (hm5 : (m1, { cls := .type "tuple", data := .seq #[.str a1 ua1, .str b1 ub1] }) ∈ news) (hm6 : (m2, { cls := .type "tuple", data := .seq #[.str a2 ua2, .str b2 ub2] }) ∈ news) (hd : dp + 3 < recursionLimit) (hu : un + 30 < cLine)
    (hret : ∀ D y0 y1 y2 h' tk', (∃ t, y0 = .str (dotsS p0 ++ b0) t) → (∃ t, y1 = .str (dotsS p1 ++ b1) t) → (∃ t, y2 = .str (dotsS p2 ++ b2) t) → Fr h₀ L h' (fun z => if z = Str.ofString "ends" then some (.ref D) else mr z) → News h₀ L h' ((D, LCg.lst [y0, y1, y2]) :: news) → LCg.Off1 D news → Q .next { s with heap := h', toks := tk' }) :
    wpAny (model PP w) (ktrTop dp un gd lawN lawSc L 204 (.ref 203) (lawCl L) []) (exec (lawFor2[2]?.getD (.Pass default)) (envX lawN lawSc L 204 (.ref 203) (lawCl L))) Q E s :=
  ends_use hp0 hp1 hp2 hs0 hs1 hs2 hoP hoN B X T F (nM N hm0 (nM N hm1 (nM N hm2 (nM N hm3 (nM N hm4 (nM N hm5 (nM N hm6 N))))))) hd hu fun D y0 y1 y2 h' tk' e0 e1 e2 F' N' o1 => hret D y0 y1 y2 h' tk' e0 e1 e2 F' (news_tail (pre := [_, _, _, _, _, _, _]) N') (off1_tail (pre := [_, _, _, _, _, _, _]) o1)
end
end MyLaw
end
end
section
open PySem PySem.Spec PySem.Calls PySem.W PySem.W.X PyProof.Rows
noncomputable section
namespace MyLaw
section
variable {w : World} {mean : ExcName → Option Value} {mg mb : Str → Option Value} {news : List (Addr × Obj)} {dp un : Nat} {gd : Option (List Code)} {A₀ : Around} {base h₀ : Heap} {L : Addr} {mr : Str → Option Value} {s : Shared} {Q : Flow → Shared → Prop} {E : Value → Shared → Prop}
theorem page_check {ld lr : Addr} {kd kr : Nat} {s0 s1 s2 : Str} {u0 u1 u2 v0 v1 v2 v3 : Tok}
    (B : Below A₀ base [] h₀) (X : (KK w.params).In h₀) (T : Top VV (looseW VV LO) mean mg mb h₀) (F : Fr h₀ L s.heap (fun y => if y = Str.ofString "page" then some (.ref ld) else if y = Str.ofString "rows" then some (.ref lr) else mr y))
    (N : News h₀ L s.heap ((ld, W.listOf #[.str s0 v0, .str s1 v1, .str Str.empty v2, .str s2 v3] kd) :: (lr, W.listOf #[.str s0 u0, .str s1 u1, .str s2 u2] kr) :: news)) (hd : dp + 3 < recursionLimit) (hu : un + 64 < cLine) (hs0 : PyData.strOk s0 = true) (hs1 : PyData.strOk s1 = true) (hs2 : PyData.strOk s2 = true)
    (hret : ∀ h' tk', Fr h₀ L h' (fun y => if y = Str.ofString "page" then some (.ref ld) else if y = Str.ofString "rows" then some (.ref lr) else mr y) → News h₀ L h' ((ld, W.listOf #[.str s0 v0, .str s1 v1, .str Str.empty v2, .str s2 v3] kd) :: (lr, W.listOf #[.str s0 u0, .str s1 u1, .str s2 u2] kr) :: news) → Q .next { s with heap := h', toks := tk' }) :
    wpAny (model PP w) (ktrTop dp un gd lawN lawSc L 204 (.ref 203) (lawCl L) []) (exec (lawFor[3]?.getD (.Pass default)) (envX lawN lawSc L 204 (.ref 203) (lawCl L))) Q E s := by
  show wpAny _ _ (exec (Stmt.If _ _ _ _) _) _ _ _
  (try k_fold)
  k_steps
  have hsh : SeqAt.shaped (PyData.list [PyData.str s0, PyData.str s1, PyData.str Str.empty, PyData.str s2]) = true := by
    have e1 : PyData.strOk Str.empty = true := by decide +kernel
    simp [SeqAt.shaped, PyData.canLay0, PyData.canLayAll0, PyData.depth, PyData.depthAll, hs0, hs1, hs2, e1]
  k_dflt (refine ne_dataH (by ke_read) (by ke_read) hsh hsh ?h3 ?_)
  case h3 => exact hu
  have heq : (!PyData.eqv (PyData.list [PyData.str s0, PyData.str s1, PyData.str Str.empty, PyData.str s2]) (PyData.list [PyData.str s0, PyData.str s1, PyData.str Str.empty, PyData.str s2])) = false := by
    simp [PyData.eqv, PyData.eqvAll]
  rw [heq]
  k_steps
  exact hret _ _ (by k_asm) (by refine' cb_drop ?cbN ?cbS; (case cbN => assumption); (case cbS => kcj_all))
theorem page_checkM {ld lr : Addr} {kd kr : Nat} {s0 s1 s2 : Str} {u0 u1 u2 v0 v1 v2 v3 : Tok}
    (B : Below A₀ base [] h₀) (X : (KK w.params).In h₀) (T : Top VV (looseW VV LO) mean mg mb h₀) (F : Fr h₀ L s.heap (fun y => if y = Str.ofString "page" then some (.ref ld) else if y = Str.ofString "rows" then some (.ref lr) else mr y)) (N : News h₀ L s.heap news) (hm0 : (ld, W.listOf #[.str s0 v0, .str s1 v1, .str Str.empty v2, .str s2 v3] kd) ∈ news) (hm1 : (lr, W.listOf #[.str s0 u0, .str s1 u1, .str s2 u2] kr) ∈ news) (hd : dp + 3 < recursionLimit) (hu : un + 64 < cLine) (hs0 : PyData.strOk s0 = true) (hs1 : PyData.strOk s1 = true) (hs2 : PyData.strOk s2 = true)
    (hret : ∀ h' tk', Fr h₀ L h' (fun y => if y = Str.ofString "page" then some (.ref ld) else if y = Str.ofString "rows" then some (.ref lr) else mr y) → News h₀ L h' news → Q .next { s with heap := h', toks := tk' }) :
    wpAny (model PP w) (ktrTop dp un gd lawN lawSc L 204 (.ref 203) (lawCl L) []) (exec (lawFor[3]?.getD (.Pass default)) (envX lawN lawSc L 204 (.ref 203) (lawCl L))) Q E s :=
  page_check B X T F (nM N hm0 (nM N hm1 N)) hd hu hs0 hs1 hs2 fun h' tk' F' N' => hret h' tk' F' (news_rest (pre := [_, _]) N')
theorem last_check {ld lr : Addr} {kd kr : Nat} {s0 s1 s2 : Str} {u0 u1 u2 v0 v1 v2 v3 : Tok} {oL : Obj} (hoL : oL.data = .cell (some (.ref ld)))
    (B : Below A₀ base [] h₀) (X : (KK w.params).In h₀) (T : Top VV (looseW VV LO) mean mg mb h₀) (F : Fr h₀ L s.heap (fun y => if y = Str.ofString "ends" then some (.ref lr) else mr y))
    (N : News h₀ L s.heap ((L + 13, oL) :: (ld, W.listOf #[.str s0 v0, .str s1 v1, .str Str.empty v2, .str s2 v3] kd) :: (lr, W.listOf #[.str s0 u0, .str s1 u1, .str s2 u2] kr) :: news)) (hd : dp + 3 < recursionLimit) (hu : un + 64 < cLine) (hs0 : PyData.strOk s0 = true) (hs1 : PyData.strOk s1 = true) (hs2 : PyData.strOk s2 = true)
    (hret : ∀ h' tk', Fr h₀ L h' (fun y => if y = Str.ofString "ends" then some (.ref lr) else mr y) → News h₀ L h' ((L + 13, oL) :: (ld, W.listOf #[.str s0 v0, .str s1 v1, .str Str.empty v2, .str s2 v3] kd) :: (lr, W.listOf #[.str s0 u0, .str s1 u1, .str s2 u2] kr) :: news) → Q .next { s with heap := h', toks := tk' }) :
    wpAny (model PP w) (ktrTop dp un gd lawN lawSc L 204 (.ref 203) (lawCl L) []) (exec (lawFor2[3]?.getD (.Pass default)) (envX lawN lawSc L 204 (.ref 203) (lawCl L))) Q E s := by
  show wpAny _ _ (exec (Stmt.If _ _ _ _) _) _ _ _
  (try k_fold)
  k_steps
  have hsh : SeqAt.shaped (PyData.list [PyData.str s0, PyData.str s1, PyData.str Str.empty, PyData.str s2]) = true := by
    have e1 : PyData.strOk Str.empty = true := by decide +kernel
    simp [SeqAt.shaped, PyData.canLay0, PyData.canLayAll0, PyData.depth, PyData.depthAll, hs0, hs1, hs2, e1]
  k_dflt (refine ne_dataH (by ke_read) (by ke_read) hsh hsh ?h3 ?_)
  case h3 => exact hu
  have heq : (!PyData.eqv (PyData.list [PyData.str s0, PyData.str s1, PyData.str Str.empty, PyData.str s2]) (PyData.list [PyData.str s0, PyData.str s1, PyData.str Str.empty, PyData.str s2])) = false := by
    simp [PyData.eqv, PyData.eqvAll]
  rw [heq]
  k_steps
  exact hret _ _ (by k_asm) (by refine' cb_drop ?cbN ?cbS; (case cbN => assumption); (case cbS => kcj_all))
theorem last_checkM {ld lr : Addr} {kd kr : Nat} {s0 s1 s2 : Str} {u0 u1 u2 v0 v1 v2 v3 : Tok} {oL : Obj} (hoL : oL.data = .cell (some (.ref ld)))
    (B : Below A₀ base [] h₀) (X : (KK w.params).In h₀) (T : Top VV (looseW VV LO) mean mg mb h₀) (F : Fr h₀ L s.heap (fun y => if y = Str.ofString "ends" then some (.ref lr) else mr y)) (N : News h₀ L s.heap news) (hm0 : (L + 13, oL) ∈ news) (hm1 : (ld, W.listOf #[.str s0 v0, .str s1 v1, .str Str.empty v2, .str s2 v3] kd) ∈ news) (hm2 : (lr, W.listOf #[.str s0 u0, .str s1 u1, .str s2 u2] kr) ∈ news) (hd : dp + 3 < recursionLimit) (hu : un + 64 < cLine) (hs0 : PyData.strOk s0 = true) (hs1 : PyData.strOk s1 = true) (hs2 : PyData.strOk s2 = true)
    (hret : ∀ h' tk', Fr h₀ L h' (fun y => if y = Str.ofString "ends" then some (.ref lr) else mr y) → News h₀ L h' news → Q .next { s with heap := h', toks := tk' }) :
    wpAny (model PP w) (ktrTop dp un gd lawN lawSc L 204 (.ref 203) (lawCl L) []) (exec (lawFor2[3]?.getD (.Pass default)) (envX lawN lawSc L 204 (.ref 203) (lawCl L))) Q E s :=
  last_check hoL B X T F (nM N hm0 (nM N hm1 (nM N hm2 N))) hd hu hs0 hs1 hs2 fun h' tk' F' N' => hret h' tk' F' (news_rest (pre := [_, _, _]) N')
end
end MyLaw
end
end
section
open PySem PySem.Spec PySem.Calls PySem.W PySem.W.X PyProof.Rows
noncomputable section
namespace MyLaw
structure PlaceOk (x nm : Str) (cu : Nat) (p : Nat) : Prop where
  size : nm.cps.size ≤ 8
  first : ∃ c0, nm.cps[0]? = some c0 ∧ x.cps[p]? = some c0 ∧ ∀ q, q < p → x.cps[q]? ≠ some c0
  last : ∃ c1, nm.cps[nm.cps.size - 1]? = some c1 ∧ x.cps[p + nm.cps.size - 1]? = some c1 ∧ ∀ q, q < p + nm.cps.size - 1 → x.cps[q]? ≠ some c1
  no : ∀ q : Nat, x.cps[q]? ≠ some cu
  small : p ≤ 1000
def unseenC (n : Int) : Nat := (unseenTab.getD (n % 27).toNat 0).toNat
theorem unseen_eq (n : Int) : unseenS n = ⟨#[unseenC n]⟩ := rfl
section
variable {w : World} {mean : ExcName → Option Value} {mg mb : Str → Option Value} {news : List (Addr × Obj)} {dp un : Nat} {gd : Option (List Code)} {A₀ : Around} {base h₀ : Heap} {L : Addr} {mr : Str → Option Value} {s : Shared} {Q : Value → Shared → Prop} {E : Value → Shared → Prop}
theorem place_at {x nm : Str} {tx tn tu : Tok} {cu p : Nat} (P : PlaceOk x nm cu p) (hu0 : tu ≠ 0) (hut : tu < s.toks) (C : NoneBooked h₀)
    (B : Below A₀ base [] h₀) (X : (KK w.params).In h₀) (T : Top VV (looseW VV LO) mean mg mb h₀) (F : Fr h₀ L s.heap mr) (N : News h₀ L s.heap news) (XB : (KK w.params).In base) (TB : Top VV (looseW VV LO) mean mg mb base) (hd : dp + 6 < recursionLimit) (hu : un + 60 < cLine)
    (hret : ∀ t h' tk', Fr h₀ L h' mr → News h₀ L h' news → Q (.int p t) { s with heap := h', toks := tk' }) :
    wpAny (model PP w) (ktrTop dp un gd lawN lawSc L 204 (.ref 203) (lawCl L) []) (call (.ref 189) [.str x tx, .str nm tn, .str ⟨#[cu]⟩ tu]) Q E s := by
  obtain ⟨c0, f1, f2, f3⟩ := P.first
  obtain ⟨c1, l1, l2, l3⟩ := P.last
  exact place_use (l := L) f1 l1 P.size f2 f3 l2 l3 P.no P.small hu0 hut C B F X N T XB TB rfl hd hu fun t h' tk' F' N' _ => hret t h' tk' F' N'
end
section
variable {w : World} {mean : ExcName → Option Value} {mg mb : Str → Option Value} {news : List (Addr × Obj)} {dp un : Nat} {gd : Option (List Code)} {A₀ : Around} {base h₀ : Heap} {L : Addr} {mr : Str → Option Value} {s : Shared} {Q : Flow → Shared → Prop} {E : Value → Shared → Prop}
theorem places_use {ld ln ls m0 m1 m2 : Addr} {kd kn ks : Nat} {oL oN oR : Obj} {s0 s1 s2 a0 a1 a2 b0 b1 b2 : Str} {n0 n1 n2 : Int} {v0 v1 v2 v3 un0 un1 un2 ua0 ua1 ua2 ub0 ub1 ub2 : Tok} {q0 q1 q2 : Nat}
    (hn0 : 0 ≤ n0) (hn1 : 0 ≤ n1) (hn2 : 0 ≤ n2) (P0 : PlaceOk s0 b0 (unseenC (n0 + 13)) q0) (P1 : PlaceOk s1 b1 (unseenC (n1 + 13)) q1) (P2 : PlaceOk s2 b2 (unseenC (n2 + 13)) q2)
    (hoL : oL.data = .cell (some (.ref ld))) (hoN : oN.data = .cell (some (.ref ln))) (hoR : oR.data = .cell (some (.ref ls))) (C : NoneBooked h₀) (XB : (KK w.params).In base) (TB : Top VV (looseW VV LO) mean mg mb base)
    (B : Below A₀ base [] h₀) (X : (KK w.params).In h₀) (T : Top VV (looseW VV LO) mean mg mb h₀) (F : Fr h₀ L s.heap mr)
    (N : News h₀ L s.heap ((L + 13, oL) :: (L + 7, oN) :: (L + 6, oR) :: (ld, W.listOf #[.str s0 v0, .str s1 v1, .str Str.empty v2, .str s2 v3] kd) :: (ln, W.listOf #[.ref m0, .ref m1, .ref m2] kn) :: (m0, { cls := .type "tuple", data := .seq #[.str a0 ua0, .str b0 ub0] }) :: (m1, { cls := .type "tuple", data := .seq #[.str a1 ua1, .str b1 ub1] }) :: (m2, { cls := .type "tuple", data := .seq #[.str a2 ua2, .str b2 ub2] }) :: (ls, W.listOf #[.int n0 un0, .int n1 un1, .int n2 un2] ks) :: news)) (hd : dp + 7 < recursionLimit) (hu : un + 70 < cLine)
    (hret : ∀ D y0 y1 y2 h' tk', (∃ t, y0 = .int (q0 : Int) t) → (∃ t, y1 = .int (q1 : Int) t) → (∃ t, y2 = .int (q2 : Int) t) → Fr h₀ L h' (fun z => if z = Str.ofString "places" then some (.ref D) else mr z) → News h₀ L h' ((D, LCg.lst [y0, y1, y2]) :: ((L + 13, oL) :: (L + 7, oN) :: (L + 6, oR) :: (ld, W.listOf #[.str s0 v0, .str s1 v1, .str Str.empty v2, .str s2 v3] kd) :: (ln, W.listOf #[.ref m0, .ref m1, .ref m2] kn) :: (m0, { cls := .type "tuple", data := .seq #[.str a0 ua0, .str b0 ub0] }) :: (m1, { cls := .type "tuple", data := .seq #[.str a1 ua1, .str b1 ub1] }) :: (m2, { cls := .type "tuple", data := .seq #[.str a2 ua2, .str b2 ub2] }) :: (ls, W.listOf #[.int n0 un0, .int n1 un1, .int n2 un2] ks) :: news)) → LCg.Off1 D ((L + 13, oL) :: (L + 7, oN) :: (L + 6, oR) :: (ld, W.listOf #[.str s0 v0, .str s1 v1, .str Str.empty v2, .str s2 v3] kd) :: (ln, W.listOf #[.ref m0, .ref m1, .ref m2] kn) :: (m0, { cls := .type "tuple", data := .seq #[.str a0 ua0, .str b0 ub0] }) :: (m1, { cls := .type "tuple", data := .seq #[.str a1 ua1, .str b1 ub1] }) :: (m2, { cls := .type "tuple", data := .seq #[.str a2 ua2, .str b2 ub2] }) :: (ls, W.listOf #[.int n0 un0, .int n1 un1, .int n2 un2] ks) :: news) → Q .next { s with heap := h', toks := tk' }) :
    wpAny (model PP w) (ktrTop dp un gd lawN lawSc L 204 (.ref 203) (lawCl L) []) (exec (lawFor2[4]?.getD (.Pass default)) (envX lawN lawSc L 204 (.ref 203) (lawCl L))) Q E s := by
  show wpAny _ _ (exec (Stmt.Assign _ _ _) _) _ _ _
  (try k_fold)
  iterate 8 (walk1)
  k_dflt (refine LCg.CompSrc.range (n := 3) (by rfl) (by k_asm) (by k_asm) (by assumption) (by decide) (by decide) (Nat.le_of_ble_eq_true rfl) ?_)
  intro g0
  refine rest3 (fun j y => ∃ t, y = .int ((([q0, q1, q2] : List Nat).getD j 0 : Nat) : Int) t) ?turn ?fin
  case fin =>
    rintro y0 y1 y2 h0 h1 h2 D h' tk' F' N' o1
    exact hret D y0 y1 y2 h' tk' h0 h1 h2 F' N' o1
  case turn =>
    intro j I' oI' C' oC' D' m' ys' h' tk' E' t' hj hC' hx' F' N' off' ne'
    clear hret
    simp only [LCg.Off3, and_true] at off'
    have hj3 : j = 0 ∨ j = 1 ∨ j = 2 := by omega
    rcases hj3 with rfl | rfl | rfl
    all_goals repeat' (first | (k_here; (with_reducible show wpAny _ _ (call (Value.ref 161) [Value.int _ _]) _ _ _); k_dflt (refine' unseen_use2 ?ka ?k1 ?k2 ?k3 ?k4 ?k5 ?k6 ?k7 ?k8 ?_; (case ka => exact Int.add_nonneg (by assumption) (by decide)); (case k1 => k_asm); (case k2 => k_asm); (case k3 => k_asm); (case k4 => k_asm); (case k5 => k_asm); (case k6 => first | exact rfl | assumption); (case k7 => ktr_room); (case k8 => ktr_units)); intro t9 h9 tk9 F9 N9 e9 le9; (try dsimp only); (try k_fold)) | ((with_reducible show wpAny _ _ (exec (Stmt.Assign _ (PySem.Expr.ListComp _ _ _ _) _) _) _ _ _); (k_here; k_dflt (refine LCg.Assign_ListComp_U (F₀ := by k_asm) (by rfl) (by with_unfolding_all rfl) (by with_unfolding_all rfl) (by decide) (by rfl) (by decide) (by rfl) (by rfl) (by rfl) ?_))) | (k_unfold; (try dsimp only)) | (k_end; wrow_close) | walk1 | (dsimp only) | (leave1; (try dsimp only)))
    · rename _ + 1 = _ => e9
      rename (Shared.toks _) ≤ _ => le9
      dsimp only at le9
      k_dflt (refine' place_at P0 ?u0 ?ut C B X T ?F ?N XB TB ?hd ?hu ?_)
      case u0 => exact Nat.ne_of_gt (Nat.lt_of_lt_of_le (Nat.succ_pos _) (Nat.le_of_succ_le_succ (Nat.le_trans le9 (Nat.le_of_eq e9.symm))))
      case ut => exact Nat.lt_of_lt_of_le (Nat.lt_succ_self _) (Nat.le_of_eq e9)
      case F => k_asm
      case N => k_asm
      case hd => ktr_room
      case hu => ktr_units
      intro t7 h7 tk7 F7 N7
      exact TurnEnd.intro F7 N7 (fun p hp => hp) ⟨_, rfl⟩
    · rename _ + 1 = _ => e9
      rename (Shared.toks _) ≤ _ => le9
      dsimp only at le9
      k_dflt (refine' place_at P1 ?u0 ?ut C B X T ?F ?N XB TB ?hd ?hu ?_)
      case u0 => exact Nat.ne_of_gt (Nat.lt_of_lt_of_le (Nat.succ_pos _) (Nat.le_of_succ_le_succ (Nat.le_trans le9 (Nat.le_of_eq e9.symm))))
      case ut => exact Nat.lt_of_lt_of_le (Nat.lt_succ_self _) (Nat.le_of_eq e9)
      case F => k_asm
      case N => k_asm
      case hd => ktr_room
      case hu => ktr_units
      intro t7 h7 tk7 F7 N7
      exact TurnEnd.intro F7 N7 (fun p hp => hp) ⟨_, rfl⟩
    · rename _ + 1 = _ => e9
      rename (Shared.toks _) ≤ _ => le9
      dsimp only at le9
      k_dflt (refine' place_at P2 ?u0 ?ut C B X T ?F ?N XB TB ?hd ?hu ?_)
      case u0 => exact Nat.ne_of_gt (Nat.lt_of_lt_of_le (Nat.succ_pos _) (Nat.le_of_succ_le_succ (Nat.le_trans le9 (Nat.le_of_eq e9.symm))))
      case ut => exact Nat.lt_of_lt_of_le (Nat.lt_succ_self _) (Nat.le_of_eq e9)
      case F => k_asm
      case N => k_asm
      case hd => ktr_room
      case hu => ktr_units
      intro t7 h7 tk7 F7 N7
      exact TurnEnd.intro F7 N7 (fun p hp => hp) ⟨_, rfl⟩
theorem places_useM {ld ln ls m0 m1 m2 : Addr} {kd kn ks : Nat} {oL oN oR : Obj} {s0 s1 s2 a0 a1 a2 b0 b1 b2 : Str} {n0 n1 n2 : Int} {v0 v1 v2 v3 un0 un1 un2 ua0 ua1 ua2 ub0 ub1 ub2 : Tok} {q0 q1 q2 : Nat}
    (hn0 : 0 ≤ n0) (hn1 : 0 ≤ n1) (hn2 : 0 ≤ n2) (P0 : PlaceOk s0 b0 (unseenC (n0 + 13)) q0) (P1 : PlaceOk s1 b1 (unseenC (n1 + 13)) q1) (P2 : PlaceOk s2 b2 (unseenC (n2 + 13)) q2)
    (hoL : oL.data = .cell (some (.ref ld))) (hoN : oN.data = .cell (some (.ref ln))) (hoR : oR.data = .cell (some (.ref ls))) (C : NoneBooked h₀) (XB : (KK w.params).In base) (TB : Top VV (looseW VV LO) mean mg mb base)
    (B : Below A₀ base [] h₀) (X : (KK w.params).In h₀) (T : Top VV (looseW VV LO) mean mg mb h₀) (F : Fr h₀ L s.heap mr) (N : News h₀ L s.heap news) (hm0 : (L + 13, oL) ∈ news) (hm1 : (L + 7, oN) ∈ news) (hm2 : (L + 6, oR) ∈ news) (hm3 : (ld, W.listOf #[.str s0 v0, .str s1 v1, .str Str.empty v2, .str s2 v3] kd) ∈ news) (hm4 : (ln, W.listOf #[.ref m0, .ref m1, .ref m2] kn) ∈ news) (hm5 : (m0, { cls := .type "tuple", data := .seq #[.str a0 ua0, .str b0 ub0] }) ∈ news) (hm6 : (m1, { cls := .type "tuple", data := .seq #[.str a1 ua1, .str b1 ub1] }) ∈ news) (hm7 : (m2, { cls := .type "tuple", data := .seq #[.str a2 ua2, .str b2 ub2] }) ∈ news) (hm8 : (ls, W.listOf #[.int n0 un0, .int n1 un1, .int n2 un2] ks) ∈ news) (hd : dp + 7 < recursionLimit) (hu : un + 70 < cLine)
    (hret : ∀ D y0 y1 y2 h' tk', (∃ t, y0 = .int (q0 : Int) t) → (∃ t, y1 = .int (q1 : Int) t) → (∃ t, y2 = .int (q2 : Int) t) → Fr h₀ L h' (fun z => if z = Str.ofString "places" then some (.ref D) else mr z) → News h₀ L h' ((D, LCg.lst [y0, y1, y2]) :: news) → LCg.Off1 D news → Q .next { s with heap := h', toks := tk' }) :
    wpAny (model PP w) (ktrTop dp un gd lawN lawSc L 204 (.ref 203) (lawCl L) []) (exec (lawFor2[4]?.getD (.Pass default)) (envX lawN lawSc L 204 (.ref 203) (lawCl L))) Q E s :=
  places_use hn0 hn1 hn2 P0 P1 P2 hoL hoN hoR C XB TB B X T F (nM N hm0 (nM N hm1 (nM N hm2 (nM N hm3 (nM N hm4 (nM N hm5 (nM N hm6 (nM N hm7 (nM N hm8 N))))))))) hd hu fun D y0 y1 y2 h' tk' e0 e1 e2 F' N' o1 => hret D y0 y1 y2 h' tk' e0 e1 e2 F' (news_tail (pre := [_, _, _, _, _, _, _, _, _]) N') (off1_tail (pre := [_, _, _, _, _, _, _, _, _]) o1)
end
end MyLaw
end
end
section
open PySem PySem.Spec PySem.Calls PySem.W PySem.W.X PyProof.Rows
noncomputable section
namespace MyLaw
theorem strVals4 {l : List (Str × Tok)} {a b c d : Str} (h : l.map (·.1) = [a, b, c, d]) : ∃ t0 t1 t2 t3 : Tok, (strValues l).toArray = #[.str a t0, .str b t1, .str c t2, .str d t3] := by
  obtain ⟨t0, l0, e0, h0⟩ := KSpl.cons_of h
  obtain ⟨t1, l1, e1, h1⟩ := KSpl.cons_of h0
  obtain ⟨t2, l2, e2, h2⟩ := KSpl.cons_of h1
  obtain ⟨t3, l3, e3, h3⟩ := KSpl.cons_of h2
  have e4 := KSpl.nil_of h3
  subst e4 e3 e2 e1 e0
  exact ⟨t0, t1, t2, t3, rfl⟩
section
variable {w : World} {mean : ExcName → Option Value} {mg mb : Str → Option Value} {news : List (Addr × Obj)} {dp un : Nat} {gd : Option (List Code)} {A₀ : Around} {base h₀ : Heap} {L : Addr} {mr : Str → Option Value} {s : Shared} {Q : Flow → Shared → Prop} {E : Value → Shared → Prop}
theorem inner_body {lr ls ln m0 m1 m2 lt lp lx lb lc : Addr} {kr ks kn kt kp kx kb : Nat} {oT oP oN oR oS oL oH : Obj} {r0 r1 r2 a0 a1 a2 b0 b1 b2 : Str} {n0 n1 n2 p0 p1 p2 x0 x1 x2 W0 : Int} {z0 z1 : Nat} {ur0 ur1 ur2 un0 un1 un2 ua0 ua1 ua2 ub0 ub1 ub2 ut0 ut1 up0 up1 up2 ux0 ux1 ux2 tW : Tok} {bvs : List Value} {bs : List Int} {vL vH : Option Value}
    (hn0 : 0 ≤ n0) (hn1 : 0 ≤ n1) (hn2 : 0 ≤ n2) (hp0 : 0 ≤ p0 ∧ p0 ≤ 10) (hp1 : 0 ≤ p1 ∧ p1 ≤ 10) (hp2 : 0 ≤ p2 ∧ p2 ≤ 10) (hx0 : -1000 ≤ x0 ∧ x0 ≤ 1000) (hx1 : -1000 ≤ x1 ∧ x1 ≤ 1000) (hx2 : -1000 ≤ x2 ∧ x2 ≤ 1000)
    (hz : z1 = 1 ∨ z1 = 2) (hr0 : r0.length ≤ 60) (hr1 : r1.length ≤ 60) (hr2 : r2.length ≤ 60) (hb0 : b0.length ≤ 8) (hb1 : b1.length ≤ 8) (hb2 : b2.length ≤ 8) (hbs : IntsAre bvs bs)
    (hx4 : ∀ c ∈ KStt.codes (quoteN z1 (mailS r0 r1 r2 n0 n1 n2 1 bs)), (foldC c.toNat).length ≤ 4)
    (hmail : Txt.split (prepS (quoteN z1 (mailS r0 r1 r2 n0 n1 n2 1 bs))) (Str.ofString "\r\n") = [dotsS (p0 + if (bs.any fun x => x == 0) then (z1 : Int) else 0) ++ b0, dotsS (p1 + if (bs.any fun x => x == 1) then (z1 : Int) else 0) ++ b1, Str.empty, dotsS (p2 + if (bs.any fun x => x == 2) then (z1 : Int) else 0) ++ b2])
    (hs0 : PyData.strOk (dotsS (p0 + if (bs.any fun x => x == 0) then (z1 : Int) else 0) ++ b0) = true) (hs1 : PyData.strOk (dotsS (p1 + if (bs.any fun x => x == 1) then (z1 : Int) else 0) ++ b1) = true) (hs2 : PyData.strOk (dotsS (p2 + if (bs.any fun x => x == 2) then (z1 : Int) else 0) ++ b2) = true)
    (P0 : PlaceOk (dotsS (p0 + if (bs.any fun x => x == 0) then (z1 : Int) else 0) ++ b0) b0 (unseenC (n0 + 13)) (p0 + if (bs.any fun x => x == 0) then (z1 : Int) else 0).toNat) (P1 : PlaceOk (dotsS (p1 + if (bs.any fun x => x == 1) then (z1 : Int) else 0) ++ b1) b1 (unseenC (n1 + 13)) (p1 + if (bs.any fun x => x == 1) then (z1 : Int) else 0).toNat) (P2 : PlaceOk (dotsS (p2 + if (bs.any fun x => x == 2) then (z1 : Int) else 0) ++ b2) b2 (unseenC (n2 + 13)) (p2 + if (bs.any fun x => x == 2) then (z1 : Int) else 0).toNat)
    (hoT : oT.data = .cell (some (.ref lt))) (hoP : oP.data = .cell (some (.ref lp))) (hoN : oN.data = .cell (some (.ref ln))) (hoR : oR.data = .cell (some (.ref ls))) (hoS : oS.data = .cell (some (.ref lb))) (hoL : oL.data = .cell vL) (hoH : oH.data = .cell vH)
    (hfar : ∀ p ∈ ((lr, W.listOf #[.str r0 ur0, .str r1 ur1, .str r2 ur2] kr) :: (ls, W.listOf #[.int n0 un0, .int n1 un1, .int n2 un2] ks) :: (ln, W.listOf #[.ref m0, .ref m1, .ref m2] kn) :: (m0, { cls := .type "tuple", data := .seq #[.str a0 ua0, .str b0 ub0] }) :: (m1, { cls := .type "tuple", data := .seq #[.str a1 ua1, .str b1 ub1] }) :: (m2, { cls := .type "tuple", data := .seq #[.str a2 ua2, .str b2 ub2] }) :: (lt, W.listOf #[.int (z0 : Int) ut0, .int (z1 : Int) ut1] kt) :: (lp, W.listOf #[.int p0 up0, .int p1 up1, .int p2 up2] kp) :: (lx, W.listOf #[.int x0 ux0, .int x1 ux1, .int x2 ux2] kx) :: (lb, W.listOf bvs.toArray kb) :: news), p.1 ≠ L + 13 ∧ p.1 ≠ L + 14)
    (C : NoneBooked h₀) (XB : (KK w.params).In base) (TB : Top VV (looseW VV LO) mean mg mb base)
    (B : Below A₀ base [] h₀) (X : (KK w.params).In h₀) (T : Top VV (looseW VV LO) mean mg mb h₀) (F : Fr h₀ L s.heap (fun y => if y = Str.ofString "told" then some (.int W0 tW) else if y = Str.ofString "rows" then some (.ref lr) else if y = Str.ofString "numbers" then some (.ref lx) else if y = Str.ofString "choices" then some (.ref lc) else mr y))
    (N : News h₀ L s.heap ((L + 9, oT) :: (L + 11, oP) :: (L + 7, oN) :: (L + 6, oR) :: (L + 12, oS) :: (L + 13, oL) :: (L + 14, oH) :: (lr, W.listOf #[.str r0 ur0, .str r1 ur1, .str r2 ur2] kr) :: (ls, W.listOf #[.int n0 un0, .int n1 un1, .int n2 un2] ks) :: (ln, W.listOf #[.ref m0, .ref m1, .ref m2] kn) :: (m0, { cls := .type "tuple", data := .seq #[.str a0 ua0, .str b0 ub0] }) :: (m1, { cls := .type "tuple", data := .seq #[.str a1 ua1, .str b1 ub1] }) :: (m2, { cls := .type "tuple", data := .seq #[.str a2 ua2, .str b2 ub2] }) :: (lt, W.listOf #[.int (z0 : Int) ut0, .int (z1 : Int) ut1] kt) :: (lp, W.listOf #[.int p0 up0, .int p1 up1, .int p2 up2] kp) :: (lx, W.listOf #[.int x0 ux0, .int x1 ux1, .int x2 ux2] kx) :: (lb, W.listOf bvs.toArray kb) :: news)) (hd : dp + 10 < recursionLimit) (hu : un + 120 < cLine)
    (hret : ∀ oL' oH' vL' vH' tWq mrq h' tk', oL'.data = .cell vL' → oH'.data = .cell vH' → Fr h₀ L h' (fun y => if y = Str.ofString "told" then some (.int (W0 + detV x0 x1 x2 (((p0 + if (bs.any fun x => x == 0) then (z1 : Int) else 0).toNat : Nat) : Int) (((p1 + if (bs.any fun x => x == 1) then (z1 : Int) else 0).toNat : Nat) : Int) (((p2 + if (bs.any fun x => x == 2) then (z1 : Int) else 0).toNat : Nat) : Int)) tWq) else if y = Str.ofString "rows" then some (.ref lr) else if y = Str.ofString "numbers" then some (.ref lx) else if y = Str.ofString "choices" then some (.ref lc) else (mrq : Str → Option Value) y) → News h₀ L h' ((L + 9, oT) :: (L + 11, oP) :: (L + 7, oN) :: (L + 6, oR) :: (L + 12, oS) :: (L + 13, oL') :: (L + 14, oH') :: (lr, W.listOf #[.str r0 ur0, .str r1 ur1, .str r2 ur2] kr) :: (ls, W.listOf #[.int n0 un0, .int n1 un1, .int n2 un2] ks) :: (ln, W.listOf #[.ref m0, .ref m1, .ref m2] kn) :: (m0, { cls := .type "tuple", data := .seq #[.str a0 ua0, .str b0 ub0] }) :: (m1, { cls := .type "tuple", data := .seq #[.str a1 ua1, .str b1 ub1] }) :: (m2, { cls := .type "tuple", data := .seq #[.str a2 ua2, .str b2 ub2] }) :: (lt, W.listOf #[.int (z0 : Int) ut0, .int (z1 : Int) ut1] kt) :: (lp, W.listOf #[.int p0 up0, .int p1 up1, .int p2 up2] kp) :: (lx, W.listOf #[.int x0 ux0, .int x1 ux1, .int x2 ux2] kx) :: (lb, W.listOf bvs.toArray kb) :: news) → Q .next { s with heap := h', toks := tk' }) :
    wpAny (model PP w) (ktrTop dp un gd lawN lawSc L 204 (.ref 203) (lawCl L) []) (execs lawFor2 (envX lawN lawSc L 204 (.ref 203) (lawCl L))) Q E s := by
  have hq0 : 0 ≤ (p0 + if (bs.any fun x => x == 0) then (z1 : Int) else 0) ∧ (p0 + if (bs.any fun x => x == 0) then (z1 : Int) else 0) ≤ 20 := by rcases hz with rfl | rfl <;> (split <;> omega)
  have hq1 : 0 ≤ (p1 + if (bs.any fun x => x == 1) then (z1 : Int) else 0) ∧ (p1 + if (bs.any fun x => x == 1) then (z1 : Int) else 0) ≤ 20 := by rcases hz with rfl | rfl <;> (split <;> omega)
  have hq2 : 0 ≤ (p2 + if (bs.any fun x => x == 2) then (z1 : Int) else 0) ∧ (p2 + if (bs.any fun x => x == 2) then (z1 : Int) else 0) ≤ 20 := by rcases hz with rfl | rfl <;> (split <;> omega)
  iterate 20 (walk1)
  show wpAny (model PP w) (ktrTop dp un gd lawN lawSc L 204 (.ref 203) (lawCl L) []) (call (.ref 175) [.ref lr, .ref lb, .ref ls, .int 1 _, .int (z1 : Int) _]) _ _ _
  with_reducible refine' turn_use hn0 hn1 hn2 ⟨by decide, by decide⟩ hz hr0 hr1 hr2 hbs hx4 ?a1 ?a2 ?a3 B ?F X ?N T rfl ?hd ?hu ?_
  case F => k_asm
  case N => k_asm
  case a1 => k_mem
  case a2 => k_mem
  case a3 => k_mem
  case hd => exact room_le hd (by decide)
  case hu => exact room_le hu (by decide)
  intro D l h' tk' F' N' lt' e'
  obtain ⟨t0, t1, t2, t3, el⟩ := strVals4 (e'.trans hmail)
  rw [el] at N'
  clear el e' F N
  have hD : @LT.lt Nat _ (L + 14) D := lt' (L + 14, oH) (by k_mem)
  clear lt'
  refine store_cell (c := L + 13) (rest := (D, _) :: (L + 9, oT) :: (L + 11, oP) :: (L + 7, oN) :: (L + 6, oR) :: (L + 12, oS) :: (L + 14, oH) :: (lr, W.listOf #[.str r0 ur0, .str r1 ur1, .str r2 ur2] kr) :: (ls, W.listOf #[.int n0 un0, .int n1 un1, .int n2 un2] ks) :: (ln, W.listOf #[.ref m0, .ref m1, .ref m2] kn) :: (m0, { cls := .type "tuple", data := .seq #[.str a0 ua0, .str b0 ub0] }) :: (m1, { cls := .type "tuple", data := .seq #[.str a1 ua1, .str b1 ub1] }) :: (m2, { cls := .type "tuple", data := .seq #[.str a2 ua2, .str b2 ub2] }) :: (lt, W.listOf #[.int (z0 : Int) ut0, .int (z1 : Int) ut1] kt) :: (lp, W.listOf #[.int p0 up0, .int p1 up1, .int p2 up2] kp) :: (lx, W.listOf #[.int x0 ux0, .int x1 ux1, .int x2 ux2] kx) :: (lb, W.listOf bvs.toArray kb) :: news) F' N' rfl (by k_mem) hoL (hs_cons (by k_mem) (by first | exact nAd (by decide) | omega) (hs_cons (by k_mem) (by first | exact nAd (by decide) | omega) (hs_cons (by k_mem) (by first | exact nAd (by decide) | omega) (hs_cons (by k_mem) (by first | exact nAd (by decide) | omega) (hs_cons (by k_mem) (by first | exact nAd (by decide) | omega) (hs_cons (by k_mem) (by first | exact nAd (by decide) | omega) (hs_cons (by k_mem) (by first | exact nAd (by decide) | omega) fun p hp => ⟨(.tail _ (.tail _ (.tail _ (.tail _ (.tail _ (.tail _ (.tail _ (.tail _ (hp))))))))), (hfar p hp).1⟩))))))) ?_ rfl rfl
  intro h2 oL2 hoL2 F2 N2
  clear F' N'
  dsimp only
  refine wpAny_execs_cons ?_
  refine wpAny_Assign_Name ?_
  show wpAny (model PP w) (ktrTop dp un gd lawN lawSc L 204 (.ref 203) (lawCl L) []) (eval lawHigher (envX lawN lawSc L 204 (.ref 203) (lawCl L))) _ _ _
  with_reducible refine' higher_useM hbs hoP hoT hoS B X T F2 N2 ?m0 ?m1 ?m2 ?m3 ?m4 ?m5 ?hd ?hu ?_
  case hd => exact room_le hd (by decide)
  case hu => exact room_le hu (by decide)
  case m0 => k_mem
  case m1 => k_mem
  case m2 => k_mem
  case m3 => k_mem
  case m4 => k_mem
  case m5 => k_mem
  rintro D2 y0 y1 y2 h' tk' ⟨ty0, rfl⟩ ⟨ty1, rfl⟩ ⟨ty2, rfl⟩ F' N' o1
  simp only [LCg.Off1, and_true] at o1
  have hD2 : (@Ne Nat D2 (L + 13)) ∧ (@Ne Nat D2 (L + 14)) := ⟨Ne.symm o1.1, Ne.symm o1.2.2.2.2.2.2.2.1⟩
  clear o1 F2 N2
  refine store_cell (c := L + 14) (rest := (D2, _) :: (L + 13, oL2) :: (D, _) :: (L + 9, oT) :: (L + 11, oP) :: (L + 7, oN) :: (L + 6, oR) :: (L + 12, oS) :: (lr, W.listOf #[.str r0 ur0, .str r1 ur1, .str r2 ur2] kr) :: (ls, W.listOf #[.int n0 un0, .int n1 un1, .int n2 un2] ks) :: (ln, W.listOf #[.ref m0, .ref m1, .ref m2] kn) :: (m0, { cls := .type "tuple", data := .seq #[.str a0 ua0, .str b0 ub0] }) :: (m1, { cls := .type "tuple", data := .seq #[.str a1 ua1, .str b1 ub1] }) :: (m2, { cls := .type "tuple", data := .seq #[.str a2 ua2, .str b2 ub2] }) :: (lt, W.listOf #[.int (z0 : Int) ut0, .int (z1 : Int) ut1] kt) :: (lp, W.listOf #[.int p0 up0, .int p1 up1, .int p2 up2] kp) :: (lx, W.listOf #[.int x0 ux0, .int x1 ux1, .int x2 ux2] kx) :: (lb, W.listOf bvs.toArray kb) :: news) F' N' rfl (by k_mem) hoH (hs_cons (by k_mem) hD2.2 (hs_cons (by k_mem) (by first | exact nAd (by decide) | omega) (hs_cons (by k_mem) (by first | exact nAd (by decide) | omega) (hs_cons (by k_mem) (by first | exact nAd (by decide) | omega) (hs_cons (by k_mem) (by first | exact nAd (by decide) | omega) (hs_cons (by k_mem) (by first | exact nAd (by decide) | omega) (hs_cons (by k_mem) (by first | exact nAd (by decide) | omega) (hs_cons (by k_mem) (by first | exact nAd (by decide) | omega) fun p hp => ⟨(.tail _ (.tail _ (.tail _ (.tail _ (.tail _ (.tail _ (.tail _ (.tail _ (.tail _ (hp)))))))))), (hfar p hp).2⟩)))))))) ?_ rfl rfl
  intro h2 oH2 hoH2 F2 N2
  clear F' N'
  dsimp only
  refine wpAny_execs_cons ?_
  show wpAny (model PP w) (ktrTop dp un gd lawN lawSc L 204 (.ref 203) (lawCl L) []) (exec (lawFor2[2]?.getD (.Pass default)) (envX lawN lawSc L 204 (.ref 203) (lawCl L))) _ _ _
  with_reducible refine' ends_useM ?p0 ?p1 ?p2 hb0 hb1 hb2 hoH2 hoN B X T F2 N2 ?m0 ?m1 ?m2 ?m3 ?m4 ?m5 ?m6 ?hd ?hu ?_
  case hd => exact room_le hd (by decide)
  case hu => exact room_le hu (by decide)
  case p0 => exact hq0
  case p1 => exact hq1
  case p2 => exact hq2
  case m0 => k_mem
  case m1 => k_mem
  case m2 => k_mem
  case m3 => k_mem
  case m4 => k_mem
  case m5 => k_mem
  case m6 => k_mem
  rintro D3 w0 w1 w2 h' tk' ⟨tw0, rfl⟩ ⟨tw1, rfl⟩ ⟨tw2, rfl⟩ F' N' o1
  clear o1 F2 N2
  dsimp only
  refine wpAny_execs_cons ?_
  show wpAny (model PP w) (ktrTop dp un gd lawN lawSc L 204 (.ref 203) (lawCl L) []) (exec (lawFor2[3]?.getD (.Pass default)) (envX lawN lawSc L 204 (.ref 203) (lawCl L))) _ _ _
  with_reducible refine' last_checkM hoL2 B X T F' N' ?m0 ?m1 ?m2 ?hd ?hu hs0 hs1 hs2 ?_
  case hd => exact room_le hd (by decide)
  case hu => exact room_le hu (by decide)
  case m0 => k_mem
  case m1 => k_mem
  case m2 => k_mem
  intro h2 tk2 F2 N2
  clear F' N'
  dsimp only
  refine wpAny_execs_cons ?_
  show wpAny (model PP w) (ktrTop dp un gd lawN lawSc L 204 (.ref 203) (lawCl L) []) (exec (lawFor2[4]?.getD (.Pass default)) (envX lawN lawSc L 204 (.ref 203) (lawCl L))) _ _ _
  with_reducible refine' places_useM hn0 hn1 hn2 P0 P1 P2 hoL2 hoN hoR C XB TB B X T F2 N2 ?m0 ?m1 ?m2 ?m3 ?m4 ?m5 ?m6 ?m7 ?m8 ?hd ?hu ?_
  case hd => exact room_le hd (by decide)
  case hu => exact room_le hu (by decide)
  case m0 => k_mem
  case m1 => k_mem
  case m2 => k_mem
  case m3 => k_mem
  case m4 => k_mem
  case m5 => k_mem
  case m6 => k_mem
  case m7 => k_mem
  case m8 => k_mem
  rintro D4 u0 u1 u2 h' tk' ⟨tu0, rfl⟩ ⟨tu1, rfl⟩ ⟨tu2, rfl⟩ F' N' o1
  clear o1 F2 N2
  dsimp only
  k_with "compareOp In int ref" => fail "stop"
  k_steps
  show wpAny (model PP w) (ktrTop dp un gd lawN lawSc L 204 (.ref 203) (lawCl L) []) (call (.ref 194) [.ref lx, .ref D4]) _ _ _
  with_reducible refine' det_use hx0 hx1 hx2 ?q0 ?q1 ?q2 ?m0 ?m1 B F' X N' T rfl ?hd ?hu ?_
  case m0 => k_mem
  case m1 => k_dflt k_mem
  case q0 => omega
  case q1 => omega
  case q2 => omega
  case hd => exact room_le hd (by decide)
  case hu => exact room_le hu (by decide)
  intro t7 h7 tk7 F7 N7
  clear F' N'
  k_steps
  show wpAny (model PP w) (ktrTop dp un gd lawN lawSc L 204 (.ref 203) (lawCl L) []) (call (.ref 102) [.int _ _, .int _ _]) _ _ _
  with_reducible refine' add_use B F7 X N7 T rfl ?hd ?hu ?_
  case hd => exact room_le hd (by decide)
  case hu => exact room_le hu (by decide)
  intro t8 h8 tk8 F8 N8
  clear F7 N7
  k_steps
  rename Fr _ _ _ _ => Fz
  rename News _ _ _ _ => Nz
  refine hret oL2 oH2 _ _ _ _ _ _ hoL2 hoH2 (frC (frC (frC (frC Fz (x := Str.ofString "choices") rfl) (x := Str.ofString "numbers") rfl) (x := Str.ofString "rows") rfl) (x := Str.ofString "told") rfl) ?_
  refine' cb_drop ?cbN ?cbS
  (case cbN => assumption)
  (case cbS => kcj_all)
end
end MyLaw
end
end
section
open PySem PySem.Spec PySem.Calls PySem.W PySem.W.X PyProof.Rows
noncomputable section
namespace MyLaw
open LCg LCt
section
variable {prog : Program} {w : World} {A : Around} {s : Shared} {env : Env} {h₀ : Heap}
theorem list_for_cell {R : Result → Shared → Prop} {x : Str} {px : Pos} {body : List Stmt} {c ax I : Addr} {its : Array Value} (Inv : Nat → Heap → Prop)
    (hh : A.handled = none) (hx : env.kindOf x = some .cell) (hk : env.scope.kind = .function) (hc : env.cells.lookup x = some c) (hcI : c ≠ I) (haI : ax ≠ I)
    (hst : s.heap.IsListIter I ax 0) (h0 : Inv 0 s.heap)
    (stable : ∀ i h h', Inv i h → (∀ b o, b ≠ I → h.get? b = some o → h'.get? b = some o) → Inv i h')
    (cellAt : ∀ i h, Inv i h → ∃ v₀, h.IsCell c v₀) (listAt : ∀ i h, Inv i h → h.IsList ax its)
    (step : ∀ i v h h₁ tk oI, its[i]? = some v → Inv i h → Heap.SameBut c h h₁ → h₁.IsCell c (some v) → h₁.get? I = some oI →
      wpAny (model prog w) A (execs body env) (fun f s₃ => match f with
        | .next => ∃ h' tk', s₃ = { s with heap := h', toks := tk' } ∧ Inv (i + 1) h' ∧ h'.get? I = some oI
        | .ret v => R (.ok (.ret v)) s₃
        | _ => False) (notedBy (model prog w) A env fun e s' => R (.error e) s') { s with heap := h₁, toks := tk })
    (fin : ∀ h tk, Inv its.size h → R (.ok .next) { s with heap := h, toks := tk }) :
    codeAny (model prog w) A (.forLoop (.Name x px) (.ref I) body [] env) R s := by
  have W := Walks.list (prog := prog) (w := w) hh I ax haI its
  refine codeAny_forLoop_any
    (fun k s' => ∃ h' tk i, s' = { s with heap := h', toks := tk } ∧ h'.IsListIter I ax i ∧ Inv i h' ∧ i ≤ its.size ∧ k = its.size + 1 - i) ?_ (its.size + 1) ⟨s.heap, s.toks, 0, rfl, hst, h0, Nat.zero_le _, rfl⟩
  rintro k s' ⟨H, tk, i, rfl, hit, hI, hi, rfl⟩
  by_cases hlt : i < its.size
  · refine W.item i _ _ _ hlt ⟨hit, listAt i H hI⟩ fun v h₁ tk₁ hv st₁ k₁ => ?_
    dsimp only
    show wpAny _ A (pure ()) _ _ _
    refine wpAny_pure ?_
    have hI₁ := stable i H h₁ hI fun b o hb e => k₁ b o (by simpa using hb) e
    obtain ⟨v₀, hv₀⟩ := cellAt i h₁ hI₁
    refine wpAny_assign_Name (wpAny_storeName_cell hk hx hc hv₀ fun h₂ hv₂ hs₂ => ?_)
    obtain ⟨oI, hoI, r⟩ := st₁.1
    have hoI₂ := hs₂.extBut I oI (Ne.symm hcI) hoI
    refine wpAny_mono (step i v h₁ h₂ _ oI hv hI₁ hs₂ hv₂ hoI₂) (fun f s₃ h₃ => ?_) fun _ _ y => y
    cases f with
    | ret v => exact h₃
    | brk => exact h₃.elim
    | cont => exact h₃.elim
    | next =>
      obtain ⟨h₄, tk₄, rfl, hI₄, ho₄⟩ := h₃
      exact ⟨its.size + 1 - (i + 1), by omega, h₄, tk₄, i + 1, rfl, ⟨oI, ho₄, r⟩, hI₄, hlt, rfl⟩
  · have hin : i = its.size := by omega
    subst hin
    refine W.done _ _ _ ⟨hit, listAt _ H hI⟩ fun h₁ tk₁ k₁ => ?_
    dsimp only
    refine wpAny_execs_nil ?_
    exact fin h₁ tk₁ (stable _ H h₁ hI fun b o hb e => k₁ b o (by simpa using hb) e)
end
structure CH where
  a : Addr
  vs : List Value
  bs : List Int
  k : Nat
section
variable {prog : Program} {w : World} {A : Around} {h₀ : Heap} {L : Addr} {m : Str → Option Value} {env : Env}
theorem restF {ct : PySem.Expr} {x : Str} {px : Pos} {scope : Scope} {cl : List (Str × Addr)} {s : Shared} {S : List (Addr × Obj) → Prop} {Fin : List Value → List (Addr × Obj) → Prop} {news : List (Addr × Obj)} (chs : List CH) (pp : CH → Bool) (hS : S news)
    (hkx : ∀ C, (compEnvC scope cl C env).kindOf x = some .local) (hks : scope.kind = .function) (hdx : (x == ("__debug__" : Str)) = false)
    (turn : ∀ q, q ∈ chs → ∀ I oI C oC D m₂ ys h tk (E' : Value → Shared → Prop), NsObj oC m₂ → m₂ x = some (.ref q.a) → Fr h₀ L h m → News h₀ L h ((I, oI) :: (C, oC) :: (D, lst ys) :: news) → Off3 I C D news → ((@Ne Nat I C) ∧ (@Ne Nat I D) ∧ (@Ne Nat C D)) →
      wpAny (model prog w) A (isTrue ct (compEnvC scope cl C env) (eval ct (compEnvC scope cl C env))) (fun ok s₂ => TurnEnd h₀ L m s ((I, oI) :: (C, oC) :: (D, lst ys) :: news) (fun v => v = .bool (pp q)) (.bool ok) s₂) E' { s with heap := h, toks := tk })
    (fin : Fin ((chs.filter pp).map fun q => .ref q.a) news) :
    CompRestT prog w A h₀ L m env ct (.Name x px) x scope cl s S (fun i v => (chs.map fun q => Value.ref q.a).toArray[i]? = some v) Fin chs.length 0 [] news := by
  have key : ∀ (k i : Nat) (ys : List Value), i + k = chs.length → ys = ((chs.take i).filter pp).map (fun q => Value.ref q.a) →
      CompRestT prog w A h₀ L m env ct (.Name x px) x scope cl s S (fun i v => (chs.map fun q => Value.ref q.a).toArray[i]? = some v) Fin k i ys news := by
    intro k
    induction k with
    | zero =>
      intro i ys hi hy
      refine CompRestT.zero ?_
      rw [hy, List.take_of_length_le (by omega)]
      exact fin
    | succ k ih =>
      intro i ys hi hy
      refine CompRestT.succ ?_
      intro v I oI C oC D m₂ h tk E' hv hC hx F N off ne
      have hlt : i < chs.length := by omega
      have hget : chs[i]? = some chs[i] := by simp [hlt]
      generalize hq : chs[i] = q at hget
      have hv' : v = .ref q.a := by
        simp only [List.getElem?_toArray, List.getElem?_map, hget, Option.map_some, Option.some.injEq] at hv
        exact hv.symm
      subst hv'
      have hstep : ∀ b, b = pp q → ((chs.take (i + 1)).filter pp).map (fun q => Value.ref q.a) = if b = true then ys ++ [.ref q.a] else ys := by
        intro b hb
        rw [hy, List.take_add_one, hget]
        cases b with
        | true => simp [← hb]
        | false => simp [← hb]
      refine wpAny_mono (turn q (List.mem_of_getElem? hget) I oI C oC D m₂ ys h tk E' hC hx F N off ne) (fun ok s₂ hy₂ => ?_) fun _ _ e => e
      obtain ⟨h', tk', rfl, F', N', hb⟩ := hy₂
      have hb : ok = pp q := by simpa using hb
      cases ok with
      | true =>
        rw [if_pos rfl]
        have hns : h'.Ns C m₂ := hC.ns (N' (C, oC) (.tail _ (.head _))).1
        refine wpAny_Name (wpAny_loadName_local hks (hkx C) hns hx ?_) hdx
        exact ⟨h', tk', news, rfl, F', N', off, hS, ih (i + 1) _ (by omega) (by rw [hstep true hb]; rfl)⟩
      | false =>
        rw [if_neg Bool.false_ne_true]
        exact ⟨h', tk', news, rfl, F', N', off, hS, ih (i + 1) _ (by omega) (by rw [hstep false hb]; rfl)⟩
  exact key chs.length 0 [] (by omega) rfl
end
end MyLaw
end
end
section
open PySem PySem.Spec PySem.Calls PySem.W PySem.W.X PyProof.Rows
noncomputable section
namespace MyLaw
open LCg LCt
def forIter : Option Stmt → PySem.Expr
  | some (Stmt.For _ e _ _ _) => e
  | _ => .Constant .none 0 default
section
variable {w : World} {mean : ExcName → Option Value} {mg mb : Str → Option Value} {news : List (Addr × Obj)} {dp un : Nat} {gd : Option (List Code)} {A₀ : Around} {base h₀ : Heap} {L : Addr} {mr : Str → Option Value} {s : Shared} {Q : Value → Shared → Prop} {E : Value → Shared → Prop}
theorem choose1 {lk lc : Addr} {kk kc : Nat} {oK : Obj} {c0 c1 : Int} {uc0 uc1 : Tok} {chs : List CH} (hoK : oK.data = .cell (some (.ref lk)))
    (hch : ∀ q ∈ chs, (q.a, W.listOf q.vs.toArray q.k) ∈ news) (hlen : ∀ q ∈ chs, q.vs.length ≤ 8) (hsz : chs.length ≤ 8)
    (B : Below A₀ base [] h₀) (X : (KK w.params).In h₀) (T : Top VV (looseW VV LO) mean mg mb h₀) (F : Fr h₀ L s.heap (fun y => if y = Str.ofString "choices" then some (.ref lc) else mr y))
    (N : News h₀ L s.heap ((L + 8, oK) :: (lk, W.listOf #[.int c0 uc0, .int c1 uc1] kk) :: (lc, W.listOf (chs.map fun q => Value.ref q.a).toArray kc) :: news)) (hd : dp + 3 < recursionLimit) (hu : un + 30 < cLine)
    (hret : ∀ D h' tk', Fr h₀ L h' (fun y => if y = Str.ofString "choices" then some (.ref lc) else mr y) → News h₀ L h' ((D, LCg.lst ((chs.filter fun q => decide ((q.vs.length : Int) = c1)).map fun q => Value.ref q.a)) :: ((L + 8, oK) :: (lk, W.listOf #[.int c0 uc0, .int c1 uc1] kk) :: (lc, W.listOf (chs.map fun q => Value.ref q.a).toArray kc) :: news)) → LCg.Off1 D ((L + 8, oK) :: (lk, W.listOf #[.int c0 uc0, .int c1 uc1] kk) :: (lc, W.listOf (chs.map fun q => Value.ref q.a).toArray kc) :: news) → Q (.ref D) { s with heap := h', toks := tk' }) :
    wpAny (model PP w) (ktrTop dp un gd lawN lawSc L 204 (.ref 203) (lawCl L) []) (eval (forIter lawFor[4]?) (envX lawN lawSc L 204 (.ref 203) (lawCl L))) Q E s := by
  show wpAny _ _ (eval (PySem.Expr.ListComp _ _ _ _) _) _ _ _
  (try k_fold)
  k_dflt (refine LCt.ListComp_T F (by with_unfolding_all rfl) (by decide) (by rfl) (by decide) (by rfl) ?_ (by intro _; rfl))
  walk1
  k_dflt (refine LCt.CompSrcT.ledger (by rfl) (by k_asm) (by k_asm) (by k_mem) ?sz ?_)
  case sz => rw [sizeLine_eq]; simp only [List.size_toArray, List.length_map]; omega
  intro g0
  simp only [List.size_toArray, List.length_map]
  refine restF chs (fun q => decide ((q.vs.length : Int) = c1)) ?hS (fun _ => rfl) rfl rfl ?turn ?fin
  case hS => exact .inr ⟨_, by k_mem, rfl, _, rfl⟩
  case fin =>
    intro D h' tk' F' N' o1
    exact hret D h' tk' F' N' o1
  case turn =>
    intro q hq I' oI' C' oC' D' m' ys' h' tk' E' hC' hx' F' N' off' ne'
    have hlq := hlen q hq
    have N1 := nM N' (.tail _ (.tail _ (.tail _ (.tail _ (.tail _ (.tail _ (hch q hq))))))) N'
    clear N' hret
    simp only [LCg.Off3, and_true] at off'
    k_steps
    refine KM.len_K (by k_asm) (by k_mem) (n := q.vs.length) (by rw [List.size_toArray]) (by omega) ?_
    dsimp only
    k_steps
    refine TurnEnd.intro (by k_asm) (by assumption) (fun p hp => .tail _ hp) ?_
    first | rfl | (congr 1; simp)
theorem choose0 {lk lc : Addr} {kk kc : Nat} {oK : Obj} {c0 c1 : Int} {uc0 uc1 : Tok} {chs : List CH} (hoK : oK.data = .cell (some (.ref lk)))
    (hch : ∀ q ∈ chs, (q.a, W.listOf q.vs.toArray q.k) ∈ news) (hlen : ∀ q ∈ chs, q.vs.length ≤ 8) (hsz : chs.length ≤ 8)
    (B : Below A₀ base [] h₀) (X : (KK w.params).In h₀) (T : Top VV (looseW VV LO) mean mg mb h₀) (F : Fr h₀ L s.heap (fun y => if y = Str.ofString "choices" then some (.ref lc) else mr y))
    (N : News h₀ L s.heap ((L + 8, oK) :: (lk, W.listOf #[.int c0 uc0, .int c1 uc1] kk) :: (lc, W.listOf (chs.map fun q => Value.ref q.a).toArray kc) :: news)) (hd : dp + 3 < recursionLimit) (hu : un + 30 < cLine)
    (hret : ∀ D h' tk', Fr h₀ L h' (fun y => if y = Str.ofString "choices" then some (.ref lc) else mr y) → News h₀ L h' ((D, LCg.lst ((chs.filter fun q => decide ((q.vs.length : Int) = c0)).map fun q => Value.ref q.a)) :: ((L + 8, oK) :: (lk, W.listOf #[.int c0 uc0, .int c1 uc1] kk) :: (lc, W.listOf (chs.map fun q => Value.ref q.a).toArray kc) :: news)) → LCg.Off1 D ((L + 8, oK) :: (lk, W.listOf #[.int c0 uc0, .int c1 uc1] kk) :: (lc, W.listOf (chs.map fun q => Value.ref q.a).toArray kc) :: news) → Q (.ref D) { s with heap := h', toks := tk' }) :
    wpAny (model PP w) (ktrTop dp un gd lawN lawSc L 204 (.ref 203) (lawCl L) []) (eval (forIter q26.1.2.1[12]?) (envX lawN lawSc L 204 (.ref 203) (lawCl L))) Q E s := by
  show wpAny _ _ (eval (PySem.Expr.ListComp _ _ _ _) _) _ _ _
  (try k_fold)
  k_dflt (refine LCt.ListComp_T F (by with_unfolding_all rfl) (by decide) (by rfl) (by decide) (by rfl) ?_ (by intro _; rfl))
  walk1
  k_dflt (refine LCt.CompSrcT.ledger (by rfl) (by k_asm) (by k_asm) (by k_mem) ?sz ?_)
  case sz => rw [sizeLine_eq]; simp only [List.size_toArray, List.length_map]; omega
  intro g0
  simp only [List.size_toArray, List.length_map]
  refine restF chs (fun q => decide ((q.vs.length : Int) = c0)) ?hS (fun _ => rfl) rfl rfl ?turn ?fin
  case hS => exact .inr ⟨_, by k_mem, rfl, _, rfl⟩
  case fin =>
    intro D h' tk' F' N' o1
    exact hret D h' tk' F' N' o1
  case turn =>
    intro q hq I' oI' C' oC' D' m' ys' h' tk' E' hC' hx' F' N' off' ne'
    have hlq := hlen q hq
    have N1 := nM N' (.tail _ (.tail _ (.tail _ (.tail _ (.tail _ (.tail _ (hch q hq))))))) N'
    clear N' hret
    simp only [LCg.Off3, and_true] at off'
    k_steps
    refine KM.len_K (by k_asm) (by k_mem) (n := q.vs.length) (by rw [List.size_toArray]) (by omega) ?_
    dsimp only
    k_steps
    refine TurnEnd.intro (by k_asm) (by assumption) (fun p hp => .tail _ hp) ?_
    first | rfl | (congr 1; simp)
end
end MyLaw
end
end
section
open PySem PySem.Spec PySem.Calls PySem.W PySem.W.X PyProof.Rows
noncomputable section
namespace MyLaw
open LCg LCt
structure StG8 where
  oS : Obj
  oL : Obj
  oH : Obj
  vS : Option Value
  vL : Option Value
  vH : Option Value
  t : Tok
  m : Str → Option Value
  W : Int
structure InnerOk (r0 r1 r2 b0 b1 b2 : Str) (n0 n1 n2 p0 p1 p2 : Int) (z1 : Nat) (q : CH) : Prop where
  bs : IntsAre q.vs q.bs
  x4 : ∀ c ∈ KStt.codes (quoteN z1 (mailS r0 r1 r2 n0 n1 n2 1 q.bs)), (foldC c.toNat).length ≤ 4
  mail : Txt.split (prepS (quoteN z1 (mailS r0 r1 r2 n0 n1 n2 1 q.bs))) (Str.ofString "\r\n") = [dotsS (p0 + if (q.bs.any fun x => x == 0) then (z1 : Int) else 0) ++ b0, dotsS (p1 + if (q.bs.any fun x => x == 1) then (z1 : Int) else 0) ++ b1, Str.empty, dotsS (p2 + if (q.bs.any fun x => x == 2) then (z1 : Int) else 0) ++ b2]
  s0 : PyData.strOk (dotsS (p0 + if (q.bs.any fun x => x == 0) then (z1 : Int) else 0) ++ b0) = true
  s1 : PyData.strOk (dotsS (p1 + if (q.bs.any fun x => x == 1) then (z1 : Int) else 0) ++ b1) = true
  s2 : PyData.strOk (dotsS (p2 + if (q.bs.any fun x => x == 2) then (z1 : Int) else 0) ++ b2) = true
  P0 : PlaceOk (dotsS (p0 + if (q.bs.any fun x => x == 0) then (z1 : Int) else 0) ++ b0) b0 (unseenC (n0 + 13)) (p0 + if (q.bs.any fun x => x == 0) then (z1 : Int) else 0).toNat
  P1 : PlaceOk (dotsS (p1 + if (q.bs.any fun x => x == 1) then (z1 : Int) else 0) ++ b1) b1 (unseenC (n1 + 13)) (p1 + if (q.bs.any fun x => x == 1) then (z1 : Int) else 0).toNat
  P2 : PlaceOk (dotsS (p2 + if (q.bs.any fun x => x == 2) then (z1 : Int) else 0) ++ b2) b2 (unseenC (n2 + 13)) (p2 + if (q.bs.any fun x => x == 2) then (z1 : Int) else 0).toNat
def detQ (x0 x1 x2 p0 p1 p2 : Int) (z1 : Nat) (q : CH) : Int := detV x0 x1 x2 (((p0 + if (q.bs.any fun x => x == 0) then (z1 : Int) else 0).toNat : Nat) : Int) (((p1 + if (q.bs.any fun x => x == 1) then (z1 : Int) else 0).toNat : Nat) : Int) (((p2 + if (q.bs.any fun x => x == 2) then (z1 : Int) else 0).toNat : Nat) : Int)
def selC (chs : List CH) (c : Int) : List CH := chs.filter fun q => decide ((q.vs.length : Int) = c)
theorem sum_take {f : CH → Int} {l : List CH} {i : Nat} {q : CH} (h : l[i]? = some q) : ((l.take (i + 1)).map f).sum = ((l.take i).map f).sum + f q := by
  rw [List.take_add_one, h]; simp
theorem off_by_map {I : Addr} {l l' : List (Addr × Obj)} (e : l.map (·.1) = l'.map (·.1)) (h : ∀ p ∈ l', p.1 ≠ I) : ∀ p ∈ l, p.1 ≠ I := fun p hp => by
  have : p.1 ∈ l'.map (·.1) := e ▸ List.mem_map_of_mem hp
  obtain ⟨p', hp', e'⟩ := List.mem_map.mp this
  rw [← e']
  exact h p' hp'
theorem far_cons {P : Addr → Prop} {q : Addr × Obj} {l : List (Addr × Obj)} (hq : P q.1) (h : ∀ p ∈ l, P p.1) : ∀ p ∈ q :: l, P p.1 := fun p hp => by
  rcases List.mem_cons.mp hp with rfl | hp
  · exact hq
  · exact h p hp
theorem map_get {chs : List CH} {i : Nat} {v : Value} (h : (chs.map fun q => Value.ref q.a).toArray[i]? = some v) : ∃ q, chs[i]? = some q ∧ v = .ref q.a := by
  simp only [List.getElem?_toArray, List.getElem?_map, Option.map_eq_some_iff] at h
  obtain ⟨q, h1, h2⟩ := h
  exact ⟨q, h1, h2.symm⟩
section
variable {w : World} {mean : ExcName → Option Value} {mg mb : Str → Option Value} {news : List (Addr × Obj)} {dp un : Nat} {gd : Option (List Code)} {A₀ : Around} {base h₀ : Heap} {L : Addr} {mr : Str → Option Value} {s : Shared} {Q : Flow → Shared → Prop} {E : Value → Shared → Prop}
theorem inner_loop {lr ls ln m0 m1 m2 lt lp lx lc : Addr} {kr ks kn kt kp kx : Nat} {oT oP oN oR oS oL oH : Obj} {r0 r1 r2 a0 a1 a2 b0 b1 b2 : Str} {n0 n1 n2 p0 p1 p2 x0 x1 x2 W0 : Int} {z0 z1 : Nat} {ur0 ur1 ur2 un0 un1 un2 ua0 ua1 ua2 ub0 ub1 ub2 ut0 ut1 up0 up1 up2 ux0 ux1 ux2 tW : Tok} {vS vL vH : Option Value} {chs : List CH} {c0 c1 : Int} {lk : Addr} {kk kc : Nat} {uc0 uc1 : Tok} {oK : Obj}
    (hn0 : 0 ≤ n0) (hn1 : 0 ≤ n1) (hn2 : 0 ≤ n2) (hp0 : 0 ≤ p0 ∧ p0 ≤ 10) (hp1 : 0 ≤ p1 ∧ p1 ≤ 10) (hp2 : 0 ≤ p2 ∧ p2 ≤ 10) (hx0 : -1000 ≤ x0 ∧ x0 ≤ 1000) (hx1 : -1000 ≤ x1 ∧ x1 ≤ 1000) (hx2 : -1000 ≤ x2 ∧ x2 ≤ 1000)
    (hz : z1 = 1 ∨ z1 = 2) (hr0 : r0.length ≤ 60) (hr1 : r1.length ≤ 60) (hr2 : r2.length ≤ 60) (hb0 : b0.length ≤ 8) (hb1 : b1.length ≤ 8) (hb2 : b2.length ≤ 8)
    (hin : ∀ q ∈ selC chs c1, InnerOk r0 r1 r2 b0 b1 b2 n0 n1 n2 p0 p1 p2 z1 q)
    (hoK : oK.data = .cell (some (.ref lk))) (hoT : oT.data = .cell (some (.ref lt))) (hoP : oP.data = .cell (some (.ref lp))) (hoN : oN.data = .cell (some (.ref ln))) (hoR : oR.data = .cell (some (.ref ls))) (hoS : oS.data = .cell vS) (hoL : oL.data = .cell vL) (hoH : oH.data = .cell vH)
    (hch : ∀ q ∈ chs, (q.a, W.listOf q.vs.toArray q.k) ∈ news) (hlen : ∀ q ∈ chs, q.vs.length ≤ 8) (hsz : chs.length ≤ 8)
    (hfar : ∀ p ∈ ((lr, W.listOf #[.str r0 ur0, .str r1 ur1, .str r2 ur2] kr) :: (ls, W.listOf #[.int n0 un0, .int n1 un1, .int n2 un2] ks) :: (ln, W.listOf #[.ref m0, .ref m1, .ref m2] kn) :: (m0, { cls := .type "tuple", data := .seq #[.str a0 ua0, .str b0 ub0] }) :: (m1, { cls := .type "tuple", data := .seq #[.str a1 ua1, .str b1 ub1] }) :: (m2, { cls := .type "tuple", data := .seq #[.str a2 ua2, .str b2 ub2] }) :: (lt, W.listOf #[.int (z0 : Int) ut0, .int (z1 : Int) ut1] kt) :: (lp, W.listOf #[.int p0 up0, .int p1 up1, .int p2 up2] kp) :: (lx, W.listOf #[.int x0 ux0, .int x1 ux1, .int x2 ux2] kx) :: (lk, W.listOf #[.int c0 uc0, .int c1 uc1] kk) :: (lc, W.listOf (chs.map fun q => Value.ref q.a).toArray kc) :: news), p.1 ≠ L + 12 ∧ p.1 ≠ L + 13 ∧ p.1 ≠ L + 14)
    (C : NoneBooked h₀) (XB : (KK w.params).In base) (TB : Top VV (looseW VV LO) mean mg mb base)
    (B : Below A₀ base [] h₀) (X : (KK w.params).In h₀) (T : Top VV (looseW VV LO) mean mg mb h₀) (F : Fr h₀ L s.heap (fun y => if y = Str.ofString "told" then some (.int W0 tW) else if y = Str.ofString "rows" then some (.ref lr) else if y = Str.ofString "numbers" then some (.ref lx) else if y = Str.ofString "choices" then some (.ref lc) else mr y))
    (N : News h₀ L s.heap ((L + 8, oK) :: (L + 9, oT) :: (L + 11, oP) :: (L + 7, oN) :: (L + 6, oR) :: (L + 12, oS) :: (L + 13, oL) :: (L + 14, oH) :: (lr, W.listOf #[.str r0 ur0, .str r1 ur1, .str r2 ur2] kr) :: (ls, W.listOf #[.int n0 un0, .int n1 un1, .int n2 un2] ks) :: (ln, W.listOf #[.ref m0, .ref m1, .ref m2] kn) :: (m0, { cls := .type "tuple", data := .seq #[.str a0 ua0, .str b0 ub0] }) :: (m1, { cls := .type "tuple", data := .seq #[.str a1 ua1, .str b1 ub1] }) :: (m2, { cls := .type "tuple", data := .seq #[.str a2 ua2, .str b2 ub2] }) :: (lt, W.listOf #[.int (z0 : Int) ut0, .int (z1 : Int) ut1] kt) :: (lp, W.listOf #[.int p0 up0, .int p1 up1, .int p2 up2] kp) :: (lx, W.listOf #[.int x0 ux0, .int x1 ux1, .int x2 ux2] kx) :: (lk, W.listOf #[.int c0 uc0, .int c1 uc1] kk) :: (lc, W.listOf (chs.map fun q => Value.ref q.a).toArray kc) :: news)) (hd : dp + 10 < recursionLimit) (hu : un + 120 < cLine)
    (hret : ∀ (oS' oL' oH' : Obj) (vS' vL' vH' : Option Value) (tWq : Tok) (mrq : Str → Option Value) h' tk', oS'.data = .cell vS' → oL'.data = .cell vL' → oH'.data = .cell vH' → Fr h₀ L h' (fun y => if y = Str.ofString "told" then some (.int (W0 + ((selC chs c1).map (detQ x0 x1 x2 p0 p1 p2 z1)).sum) tWq) else if y = Str.ofString "rows" then some (.ref lr) else if y = Str.ofString "numbers" then some (.ref lx) else if y = Str.ofString "choices" then some (.ref lc) else mrq y) → News h₀ L h' ((L + 8, oK) :: (L + 9, oT) :: (L + 11, oP) :: (L + 7, oN) :: (L + 6, oR) :: (L + 12, oS') :: (L + 13, oL') :: (L + 14, oH') :: (lr, W.listOf #[.str r0 ur0, .str r1 ur1, .str r2 ur2] kr) :: (ls, W.listOf #[.int n0 un0, .int n1 un1, .int n2 un2] ks) :: (ln, W.listOf #[.ref m0, .ref m1, .ref m2] kn) :: (m0, { cls := .type "tuple", data := .seq #[.str a0 ua0, .str b0 ub0] }) :: (m1, { cls := .type "tuple", data := .seq #[.str a1 ua1, .str b1 ub1] }) :: (m2, { cls := .type "tuple", data := .seq #[.str a2 ua2, .str b2 ub2] }) :: (lt, W.listOf #[.int (z0 : Int) ut0, .int (z1 : Int) ut1] kt) :: (lp, W.listOf #[.int p0 up0, .int p1 up1, .int p2 up2] kp) :: (lx, W.listOf #[.int x0 ux0, .int x1 ux1, .int x2 ux2] kx) :: (lk, W.listOf #[.int c0 uc0, .int c1 uc1] kk) :: (lc, W.listOf (chs.map fun q => Value.ref q.a).toArray kc) :: news) → Q .next { s with heap := h', toks := tk' }) :
    wpAny (model PP w) (ktrTop dp un gd lawN lawSc L 204 (.ref 203) (lawCl L) []) (exec (lawFor[4]?.getD (.Pass default)) (envX lawN lawSc L 204 (.ref 203) (lawCl L))) Q E s := by
  show wpAny _ _ (exec (Stmt.For _ _ _ _ _) _) _ _ _
  refine wpAny_For ?_ (by intro _; rfl)
  show wpAny (model PP w) (ktrTop dp un gd lawN lawSc L 204 (.ref 203) (lawCl L) []) (eval (forIter lawFor[4]?) (envX lawN lawSc L 204 (.ref 203) (lawCl L))) _ _ _
  have F0 := frC F (x := Str.ofString "choices") (v := .ref lc) rfl
  with_reducible refine' choose1 hoK ?ch hlen hsz B X T ?F ?N ?hd ?hu ?_
  case F => exact F0
  case N => exact nM N (by k_mem) (nM N (by k_mem) (nM N (by k_mem) N))
  case ch => exact fun q hq => List.Mem.tail _ (List.Mem.tail _ (List.Mem.tail _ (List.Mem.tail _ (List.Mem.tail _ (List.Mem.tail _ (List.Mem.tail _ (List.Mem.tail _ (List.Mem.tail _ (List.Mem.tail _ (List.Mem.tail _ (List.Mem.tail _ (List.Mem.tail _ (List.Mem.tail _ (List.Mem.tail _ (List.Mem.tail _ (List.Mem.tail _ (List.Mem.tail _ (List.Mem.tail _ (hch q hq)))))))))))))))))))
  case hd => exact room_le hd (by decide)
  case hu => exact room_le hu (by decide)
  intro D h1 tk1 F1 N1 o1
  have F2 := frC (frC (frC (frC F1 (x := Str.ofString "choices") (v := .ref lc) rfl) (x := Str.ofString "numbers") (v := .ref lx) rfl) (x := Str.ofString "rows") (v := .ref lr) rfl) (x := Str.ofString "told") (v := .int W0 tW) rfl
  have N2 : News h₀ L h1 ((D, LCg.lst ((selC chs c1).map fun q => Value.ref q.a)) :: ((L + 8, oK) :: (L + 9, oT) :: (L + 11, oP) :: (L + 7, oN) :: (L + 6, oR) :: (L + 12, oS) :: (L + 13, oL) :: (L + 14, oH) :: (lr, W.listOf #[.str r0 ur0, .str r1 ur1, .str r2 ur2] kr) :: (ls, W.listOf #[.int n0 un0, .int n1 un1, .int n2 un2] ks) :: (ln, W.listOf #[.ref m0, .ref m1, .ref m2] kn) :: (m0, { cls := .type "tuple", data := .seq #[.str a0 ua0, .str b0 ub0] }) :: (m1, { cls := .type "tuple", data := .seq #[.str a1 ua1, .str b1 ub1] }) :: (m2, { cls := .type "tuple", data := .seq #[.str a2 ua2, .str b2 ub2] }) :: (lt, W.listOf #[.int (z0 : Int) ut0, .int (z1 : Int) ut1] kt) :: (lp, W.listOf #[.int p0 up0, .int p1 up1, .int p2 up2] kp) :: (lx, W.listOf #[.int x0 ux0, .int x1 ux1, .int x2 ux2] kx) :: (lk, W.listOf #[.int c0 uc0, .int c1 uc1] kk) :: (lc, W.listOf (chs.map fun q => Value.ref q.a).toArray kc) :: news)) := news_tail (pre := [_, _, _]) N1
  have oD := off1_mem o1
  have hD12 : @Ne Nat (L + 12) D := oD (L + 12, oS) (by k_mem)
  have hD13 : @Ne Nat (L + 13) D := oD (L + 13, oL) (by k_mem)
  have hD14 : @Ne Nat (L + 14) D := oD (L + 14, oH) (by k_mem)
  clear F0 F1 N1 o1 oD F N
  have hlt : ∀ p ∈ ((D, LCg.lst ((selC chs c1).map fun q => Value.ref q.a)) :: ((L + 8, oK) :: (L + 9, oT) :: (L + 11, oP) :: (L + 7, oN) :: (L + 6, oR) :: (L + 12, oS) :: (L + 13, oL) :: (L + 14, oH) :: (lr, W.listOf #[.str r0 ur0, .str r1 ur1, .str r2 ur2] kr) :: (ls, W.listOf #[.int n0 un0, .int n1 un1, .int n2 un2] ks) :: (ln, W.listOf #[.ref m0, .ref m1, .ref m2] kn) :: (m0, { cls := .type "tuple", data := .seq #[.str a0 ua0, .str b0 ub0] }) :: (m1, { cls := .type "tuple", data := .seq #[.str a1 ua1, .str b1 ub1] }) :: (m2, { cls := .type "tuple", data := .seq #[.str a2 ua2, .str b2 ub2] }) :: (lt, W.listOf #[.int (z0 : Int) ut0, .int (z1 : Int) ut1] kt) :: (lp, W.listOf #[.int p0 up0, .int p1 up1, .int p2 up2] kp) :: (lx, W.listOf #[.int x0 ux0, .int x1 ux1, .int x2 ux2] kx) :: (lk, W.listOf #[.int c0 uc0, .int c1 uc1] kk) :: (lc, W.listOf (chs.map fun q => Value.ref q.a).toArray kc) :: news) : List (Addr × Obj)), p.1 < h1.objs.size := fun p hp => Heap.lt_size (N2 p hp).1
  have hI0 : h₀.get? h1.objs.size = none := next_is_new F2
  have hLI : L ≠ h1.objs.size := Nat.ne_of_lt F2.ns.lt
  have h12 : (L + 12 : Nat) < h1.objs.size := hlt (L + 12, oS) (by k_mem)
  have h13 : (L + 13 : Nat) < h1.objs.size := hlt (L + 13, oL) (by k_mem)
  have h14 : (L + 14 : Nat) < h1.objs.size := hlt (L + 14, oH) (by k_mem)
  have hc0 : h₀.get? (L + 12) = none := (N2 (L + 12, oS) (by k_mem)).2.2
  have up : ∀ b o, h1.get? b = some o → (h1.push { cls := .type "list_iterator", data := .fields #[.ref D, .int 0 0] }).get? b = some o := fun b o e => Heap.get?_push_of_some _ e
  generalize hIe : h1.objs.size = I at *
  refine wpAny_pyIter_list (N2.isList (.head _)) ?_
  rw [hIe]
  refine list_for_cell (c := L + 12) (ax := D) (its := ((selC chs c1).map fun q => Value.ref q.a).toArray) (fun i h => ∃ st : StG8, st.W = W0 + (((selC chs c1).take i).map (detQ x0 x1 x2 p0 p1 p2 z1)).sum ∧ st.oS.data = .cell st.vS ∧ st.oL.data = .cell st.vL ∧ st.oH.data = .cell st.vH ∧ Fr h₀ L h (fun y => if y = Str.ofString "told" then some (.int st.W st.t) else if y = Str.ofString "rows" then some (.ref lr) else if y = Str.ofString "numbers" then some (.ref lx) else if y = Str.ofString "choices" then some (.ref lc) else st.m y) ∧ News h₀ L h ((D, LCg.lst ((selC chs c1).map fun q => Value.ref q.a)) :: ((L + 8, oK) :: (L + 9, oT) :: (L + 11, oP) :: (L + 7, oN) :: (L + 6, oR) :: (L + 12, st.oS) :: (L + 13, st.oL) :: (L + 14, st.oH) :: (lr, W.listOf #[.str r0 ur0, .str r1 ur1, .str r2 ur2] kr) :: (ls, W.listOf #[.int n0 un0, .int n1 un1, .int n2 un2] ks) :: (ln, W.listOf #[.ref m0, .ref m1, .ref m2] kn) :: (m0, { cls := .type "tuple", data := .seq #[.str a0 ua0, .str b0 ub0] }) :: (m1, { cls := .type "tuple", data := .seq #[.str a1 ua1, .str b1 ub1] }) :: (m2, { cls := .type "tuple", data := .seq #[.str a2 ua2, .str b2 ub2] }) :: (lt, W.listOf #[.int (z0 : Int) ut0, .int (z1 : Int) ut1] kt) :: (lp, W.listOf #[.int p0 up0, .int p1 up1, .int p2 up2] kp) :: (lx, W.listOf #[.int x0 ux0, .int x1 ux1, .int x2 ux2] kx) :: (lk, W.listOf #[.int c0 uc0, .int c1 uc1] kk) :: (lc, W.listOf (chs.map fun q => Value.ref q.a).toArray kc) :: news))) rfl rfl rfl rfl (Nat.ne_of_lt h12) ?aI ?st ?i0 ?stable ?cellAt ?listAt ?step ?fin
  case aI => exact Nat.ne_of_lt (hlt _ (.head _))
  case st => exact ⟨_, by rw [← hIe]; exact Heap.get?_push_size _ rfl, rfl, rfl⟩
  case i0 => exact ⟨⟨oS, oL, oH, vS, vL, vH, tW, _, W0⟩, by simp, hoS, hoL, hoH, Fr.keeps F2 up, N2.grown up⟩
  case stable =>
    rintro i h h' ⟨st, P⟩ hk
    have hW := P.1
    have d1 := P.2.1
    have d2 := P.2.2.1
    have d3 := P.2.2.2.1
    have F' := P.2.2.2.2.1
    have N' := P.2.2.2.2.2
    have hk' : ∀ b o, b ∉ [I] → h.get? b = some o → h'.get? b = some o := fun b o hb e => hk b o (by simpa using hb) e
    exact ⟨st, hW, d1, d2, d3, fr_but F' hk' hLI hI0, news_but N' hk' (off_by_map (l' := (D, LCg.lst ((selC chs c1).map fun q => Value.ref q.a)) :: ((L + 8, oK) :: (L + 9, oT) :: (L + 11, oP) :: (L + 7, oN) :: (L + 6, oR) :: (L + 12, oS) :: (L + 13, oL) :: (L + 14, oH) :: (lr, W.listOf #[.str r0 ur0, .str r1 ur1, .str r2 ur2] kr) :: (ls, W.listOf #[.int n0 un0, .int n1 un1, .int n2 un2] ks) :: (ln, W.listOf #[.ref m0, .ref m1, .ref m2] kn) :: (m0, { cls := .type "tuple", data := .seq #[.str a0 ua0, .str b0 ub0] }) :: (m1, { cls := .type "tuple", data := .seq #[.str a1 ua1, .str b1 ub1] }) :: (m2, { cls := .type "tuple", data := .seq #[.str a2 ua2, .str b2 ub2] }) :: (lt, W.listOf #[.int (z0 : Int) ut0, .int (z1 : Int) ut1] kt) :: (lp, W.listOf #[.int p0 up0, .int p1 up1, .int p2 up2] kp) :: (lx, W.listOf #[.int x0 ux0, .int x1 ux1, .int x2 ux2] kx) :: (lk, W.listOf #[.int c0 uc0, .int c1 uc1] kk) :: (lc, W.listOf (chs.map fun q => Value.ref q.a).toArray kc) :: news)) rfl fun p hp => Nat.ne_of_lt (hlt p hp))⟩
  case cellAt =>
    rintro i h ⟨st, P⟩
    have hW := P.1
    have d1 := P.2.1
    have d2 := P.2.2.1
    have d3 := P.2.2.2.1
    have F' := P.2.2.2.2.1
    have N' := P.2.2.2.2.2
    exact ⟨st.vS, st.oS, (N' (L + 12, st.oS) (by k_mem)).1, d1⟩
  case listAt =>
    rintro i h ⟨st, P⟩
    have hW := P.1
    have d1 := P.2.1
    have d2 := P.2.2.1
    have d3 := P.2.2.2.1
    have F' := P.2.2.2.2.1
    have N' := P.2.2.2.2.2
    exact N'.isList (.head _)
  case fin =>
    rintro h tk ⟨st, P⟩
    have hW := P.1
    have d1 := P.2.1
    have d2 := P.2.2.1
    have d3 := P.2.2.2.1
    have F' := P.2.2.2.2.1
    have N' := P.2.2.2.2.2
    rw [List.size_toArray, List.length_map, List.take_length] at hW
    rw [hW] at F'
    exact hret st.oS st.oL st.oH st.vS st.vL st.vH st.t st.m h tk d1 d2 d3 F' (news_rest (pre := [_]) N')
  case step =>
    rintro i v h h₁ tk oI hv ⟨st, P⟩ hs ⟨oS2, hg2, d12⟩ hoI
    have hW := P.1
    have d1 := P.2.1
    have d2 := P.2.2.1
    have d3 := P.2.2.2.1
    have F' := P.2.2.2.2.1
    have N' := P.2.2.2.2.2
    obtain ⟨q, hqi, rfl⟩ := map_get hv
    have hqs : q ∈ selC chs c1 := List.mem_of_getElem? hqi
    have hq : q ∈ chs := (List.mem_filter.mp hqs).1
    have O := hin q hqs
    have F'' := F'.change hs (show L + 12 ≠ L by exact Nat.ne_of_gt (Nat.lt_add_of_pos_right (by decide))) hc0
    have KP : ∀ l : List (Addr × Obj), (∀ p ∈ l, p ∈ ((D, LCg.lst ((selC chs c1).map fun q => Value.ref q.a)) :: ((L + 8, oK) :: (L + 9, oT) :: (L + 11, oP) :: (L + 7, oN) :: (L + 6, oR) :: (L + 12, st.oS) :: (L + 13, st.oL) :: (L + 14, st.oH) :: (lr, W.listOf #[.str r0 ur0, .str r1 ur1, .str r2 ur2] kr) :: (ls, W.listOf #[.int n0 un0, .int n1 un1, .int n2 un2] ks) :: (ln, W.listOf #[.ref m0, .ref m1, .ref m2] kn) :: (m0, { cls := .type "tuple", data := .seq #[.str a0 ua0, .str b0 ub0] }) :: (m1, { cls := .type "tuple", data := .seq #[.str a1 ua1, .str b1 ub1] }) :: (m2, { cls := .type "tuple", data := .seq #[.str a2 ua2, .str b2 ub2] }) :: (lt, W.listOf #[.int (z0 : Int) ut0, .int (z1 : Int) ut1] kt) :: (lp, W.listOf #[.int p0 up0, .int p1 up1, .int p2 up2] kp) :: (lx, W.listOf #[.int x0 ux0, .int x1 ux1, .int x2 ux2] kx) :: (lk, W.listOf #[.int c0 uc0, .int c1 uc1] kk) :: (lc, W.listOf (chs.map fun q => Value.ref q.a).toArray kc) :: news) : List (Addr × Obj)) ∧ p.1 ≠ L + 12) → News h₀ L h₁ l := fun l hl p hp => ⟨hs.extBut _ _ (hl p hp).2 (N' p (hl p hp).1).1, (N' p (hl p hp).1).2⟩
    have NR := KP ((D, LCg.lst ((selC chs c1).map fun q => Value.ref q.a)) :: (L + 8, oK) :: (L + 9, oT) :: (L + 11, oP) :: (L + 7, oN) :: (L + 6, oR) :: (L + 13, st.oL) :: (L + 14, st.oH) :: (lr, W.listOf #[.str r0 ur0, .str r1 ur1, .str r2 ur2] kr) :: (ls, W.listOf #[.int n0 un0, .int n1 un1, .int n2 un2] ks) :: (ln, W.listOf #[.ref m0, .ref m1, .ref m2] kn) :: (m0, { cls := .type "tuple", data := .seq #[.str a0 ua0, .str b0 ub0] }) :: (m1, { cls := .type "tuple", data := .seq #[.str a1 ua1, .str b1 ub1] }) :: (m2, { cls := .type "tuple", data := .seq #[.str a2 ua2, .str b2 ub2] }) :: (lt, W.listOf #[.int (z0 : Int) ut0, .int (z1 : Int) ut1] kt) :: (lp, W.listOf #[.int p0 up0, .int p1 up1, .int p2 up2] kp) :: (lx, W.listOf #[.int x0 ux0, .int x1 ux1, .int x2 ux2] kx) :: (lk, W.listOf #[.int c0 uc0, .int c1 uc1] kk) :: (lc, W.listOf (chs.map fun q => Value.ref q.a).toArray kc) :: news)
      (hs_cons (by k_mem) (Ne.symm hD12) (hs_cons (by k_mem) (by first | exact nAd (by decide) | omega) (hs_cons (by k_mem) (by first | exact nAd (by decide) | omega) (hs_cons (by k_mem) (by first | exact nAd (by decide) | omega) (hs_cons (by k_mem) (by first | exact nAd (by decide) | omega) (hs_cons (by k_mem) (by first | exact nAd (by decide) | omega) (hs_cons (by k_mem) (by first | exact nAd (by decide) | omega) (hs_cons (by k_mem) (by first | exact nAd (by decide) | omega) fun p hp => ⟨List.Mem.tail _ (List.Mem.tail _ (List.Mem.tail _ (List.Mem.tail _ (List.Mem.tail _ (List.Mem.tail _ (List.Mem.tail _ (List.Mem.tail _ (List.Mem.tail _ (hp))))))))), (hfar p hp).1⟩))))))))
    have hneL : @Ne Nat (L + 12) L := Nat.ne_of_gt (Nat.lt_add_of_pos_right (by decide))
    have NA : News h₀ L h₁ ((I, oI) :: (L + 12, oS2) :: (D, LCg.lst ((selC chs c1).map fun q => Value.ref q.a)) :: (L + 8, oK) :: (L + 9, oT) :: (L + 11, oP) :: (L + 7, oN) :: (L + 6, oR) :: (L + 13, st.oL) :: (L + 14, st.oH) :: (lr, W.listOf #[.str r0 ur0, .str r1 ur1, .str r2 ur2] kr) :: (ls, W.listOf #[.int n0 un0, .int n1 un1, .int n2 un2] ks) :: (ln, W.listOf #[.ref m0, .ref m1, .ref m2] kn) :: (m0, { cls := .type "tuple", data := .seq #[.str a0 ua0, .str b0 ub0] }) :: (m1, { cls := .type "tuple", data := .seq #[.str a1 ua1, .str b1 ub1] }) :: (m2, { cls := .type "tuple", data := .seq #[.str a2 ua2, .str b2 ub2] }) :: (lt, W.listOf #[.int (z0 : Int) ut0, .int (z1 : Int) ut1] kt) :: (lp, W.listOf #[.int p0 up0, .int p1 up1, .int p2 up2] kp) :: (lx, W.listOf #[.int x0 ux0, .int x1 ux1, .int x2 ux2] kx) :: (lk, W.listOf #[.int c0 uc0, .int c1 uc1] kk) :: (lc, W.listOf (chs.map fun q => Value.ref q.a).toArray kc) :: news) := fun p hp => by
      rcases List.mem_cons.mp hp with rfl | hp
      · exact ⟨hoI, Ne.symm hLI, hI0⟩
      · rcases List.mem_cons.mp hp with rfl | hp
        · exact ⟨hg2, hneL, hc0⟩
        · exact NR p hp
    clear NR KP N' F'
    have hqm : (q.a, W.listOf q.vs.toArray q.k) ∈ ((lr, W.listOf #[.str r0 ur0, .str r1 ur1, .str r2 ur2] kr) :: (ls, W.listOf #[.int n0 un0, .int n1 un1, .int n2 un2] ks) :: (ln, W.listOf #[.ref m0, .ref m1, .ref m2] kn) :: (m0, { cls := .type "tuple", data := .seq #[.str a0 ua0, .str b0 ub0] }) :: (m1, { cls := .type "tuple", data := .seq #[.str a1 ua1, .str b1 ub1] }) :: (m2, { cls := .type "tuple", data := .seq #[.str a2 ua2, .str b2 ub2] }) :: (lt, W.listOf #[.int (z0 : Int) ut0, .int (z1 : Int) ut1] kt) :: (lp, W.listOf #[.int p0 up0, .int p1 up1, .int p2 up2] kp) :: (lx, W.listOf #[.int x0 ux0, .int x1 ux1, .int x2 ux2] kx) :: (lk, W.listOf #[.int c0 uc0, .int c1 uc1] kk) :: (lc, W.listOf (chs.map fun q => Value.ref q.a).toArray kc) :: news) := List.Mem.tail _ (List.Mem.tail _ (List.Mem.tail _ (List.Mem.tail _ (List.Mem.tail _ (List.Mem.tail _ (List.Mem.tail _ (List.Mem.tail _ (List.Mem.tail _ (List.Mem.tail _ (List.Mem.tail _ (hch q hq)))))))))))
    have NB : News h₀ L h₁ ((L + 9, oT) :: (L + 11, oP) :: (L + 7, oN) :: (L + 6, oR) :: (L + 12, oS2) :: (L + 13, st.oL) :: (L + 14, st.oH) :: (lr, W.listOf #[.str r0 ur0, .str r1 ur1, .str r2 ur2] kr) :: (ls, W.listOf #[.int n0 un0, .int n1 un1, .int n2 un2] ks) :: (ln, W.listOf #[.ref m0, .ref m1, .ref m2] kn) :: (m0, { cls := .type "tuple", data := .seq #[.str a0 ua0, .str b0 ub0] }) :: (m1, { cls := .type "tuple", data := .seq #[.str a1 ua1, .str b1 ub1] }) :: (m2, { cls := .type "tuple", data := .seq #[.str a2 ua2, .str b2 ub2] }) :: (lt, W.listOf #[.int (z0 : Int) ut0, .int (z1 : Int) ut1] kt) :: (lp, W.listOf #[.int p0 up0, .int p1 up1, .int p2 up2] kp) :: (lx, W.listOf #[.int x0 ux0, .int x1 ux1, .int x2 ux2] kx) :: (q.a, W.listOf q.vs.toArray q.k) :: (I, oI) :: (D, LCg.lst ((selC chs c1).map fun q => Value.ref q.a)) :: (L + 8, oK) :: (lk, W.listOf #[.int c0 uc0, .int c1 uc1] kk) :: (lc, W.listOf (chs.map fun q => Value.ref q.a).toArray kc) :: news) :=
      nM NA (by k_mem) (nM NA (by k_mem) (nM NA (by k_mem) (nM NA (by k_mem) (nM NA (by k_mem) (nM NA (by k_mem) (nM NA (by k_mem) (nM NA (by k_mem) (nM NA (by k_mem) (nM NA (by k_mem) (nM NA (by k_mem) (nM NA (by k_mem) (nM NA (by k_mem) (nM NA (by k_mem) (nM NA (by k_mem) (nM NA (by k_mem) (nM NA (List.Mem.tail _ (List.Mem.tail _ (List.Mem.tail _ (List.Mem.tail _ (List.Mem.tail _ (List.Mem.tail _ (List.Mem.tail _ (List.Mem.tail _ (List.Mem.tail _ (List.Mem.tail _ (hqm))))))))))) (nM NA (by k_mem) (nM NA (by k_mem) (nM NA (by k_mem) (nM NA (by k_mem) (nM NA (by k_mem) (fun p hp => NA p (List.Mem.tail _ (List.Mem.tail _ (List.Mem.tail _ (List.Mem.tail _ (List.Mem.tail _ (List.Mem.tail _ (List.Mem.tail _ (List.Mem.tail _ (List.Mem.tail _ (List.Mem.tail _ (List.Mem.tail _ (List.Mem.tail _ (List.Mem.tail _ (List.Mem.tail _ (List.Mem.tail _ (List.Mem.tail _ (List.Mem.tail _ (List.Mem.tail _ (List.Mem.tail _ (List.Mem.tail _ (List.Mem.tail _ (hp))))))))))))))))))))))))))))))))))))))))))))
    show wpAny (model PP w) (ktrTop dp un gd lawN lawSc L 204 (.ref 203) (lawCl L) []) (execs lawFor2 (envX lawN lawSc L 204 (.ref 203) (lawCl L))) _ _ _
    with_reducible refine' inner_body hn0 hn1 hn2 hp0 hp1 hp2 hx0 hx1 hx2 hz hr0 hr1 hr2 hb0 hb1 hb2 O.bs O.x4 O.mail O.s0 O.s1 O.s2 O.P0 O.P1 O.P2 hoT hoP hoN hoR d12 d2 d3 ?far C XB TB B X T F'' NB hd hu ?_
    case far =>
      exact far_cons (P := fun a => a ≠ L + 13 ∧ a ≠ L + 14) (hfar _ (by k_mem)).2 (far_cons (P := fun a => a ≠ L + 13 ∧ a ≠ L + 14) (hfar _ (by k_mem)).2 (far_cons (P := fun a => a ≠ L + 13 ∧ a ≠ L + 14) (hfar _ (by k_mem)).2 (far_cons (P := fun a => a ≠ L + 13 ∧ a ≠ L + 14) (hfar _ (by k_mem)).2 (far_cons (P := fun a => a ≠ L + 13 ∧ a ≠ L + 14) (hfar _ (by k_mem)).2 (far_cons (P := fun a => a ≠ L + 13 ∧ a ≠ L + 14) (hfar _ (by k_mem)).2 (far_cons (P := fun a => a ≠ L + 13 ∧ a ≠ L + 14) (hfar _ (by k_mem)).2 (far_cons (P := fun a => a ≠ L + 13 ∧ a ≠ L + 14) (hfar _ (by k_mem)).2 (far_cons (P := fun a => a ≠ L + 13 ∧ a ≠ L + 14) (hfar _ (by k_mem)).2 (far_cons (P := fun a => a ≠ L + 13 ∧ a ≠ L + 14) (hfar _ hqm).2 (far_cons (P := fun a => a ≠ L + 13 ∧ a ≠ L + 14) ⟨Nat.ne_of_gt h13, Nat.ne_of_gt h14⟩ (far_cons (P := fun a => a ≠ L + 13 ∧ a ≠ L + 14) ⟨Ne.symm hD13, Ne.symm hD14⟩ (far_cons (P := fun a => a ≠ L + 13 ∧ a ≠ L + 14) (by constructor <;> exact Nat.ne_of_lt (Nat.add_lt_add_left (by decide) L)) fun p hp => (hfar p (List.Mem.tail _ (List.Mem.tail _ (List.Mem.tail _ (List.Mem.tail _ (List.Mem.tail _ (List.Mem.tail _ (List.Mem.tail _ (List.Mem.tail _ (List.Mem.tail _ (hp))))))))))).2))))))))))))
    intro oL3 oH3 vL3 vH3 tW3 mr3 h3 tk3 e2 e3 F3 N3
    dsimp only
    refine ⟨h3, tk3, rfl, ⟨⟨oS2, oL3, oH3, _, vL3, vH3, tW3, mr3, _⟩, ?eq, d12, e2, e3, F3, ?N⟩, (N3 (I, oI) (by k_mem)).1⟩
    case eq => rw [hW, sum_take hqi, Int.add_assoc]; rfl
    case N => exact nM N3 (by k_mem) (nM N3 (by k_mem) (nM N3 (by k_mem) (nM N3 (by k_mem) (nM N3 (by k_mem) (nM N3 (by k_mem) (nM N3 (by k_mem) (nM N3 (by k_mem) (nM N3 (by k_mem) (nM N3 (by k_mem) (nM N3 (by k_mem) (nM N3 (by k_mem) (nM N3 (by k_mem) (nM N3 (by k_mem) (nM N3 (by k_mem) (nM N3 (by k_mem) (nM N3 (by k_mem) (nM N3 (by k_mem) (nM N3 (by k_mem) (nM N3 (by k_mem) (fun p hp => N3 p (List.Mem.tail _ (List.Mem.tail _ (List.Mem.tail _ (List.Mem.tail _ (List.Mem.tail _ (List.Mem.tail _ (List.Mem.tail _ (List.Mem.tail _ (List.Mem.tail _ (List.Mem.tail _ (List.Mem.tail _ (List.Mem.tail _ (List.Mem.tail _ (List.Mem.tail _ (List.Mem.tail _ (List.Mem.tail _ (List.Mem.tail _ (List.Mem.tail _ (List.Mem.tail _ (List.Mem.tail _ (List.Mem.tail _ (List.Mem.tail _ (hp)))))))))))))))))))))))))))))))))))))))))))
end
end MyLaw
end
end
section
open PySem PySem.Spec PySem.Calls PySem.W PySem.W.X PyProof.Rows
noncomputable section
namespace MyLaw
open LCg LCt
structure OuterOk (a0 a1 a2 b0 b1 b2 : Str) (n0 n1 n2 d0 d1 d2 : Int) (z0 z1 : Nat) (chs : List CH) (c1 : Int) (fvs : List Value) (fs : List Int) : Prop where
  bs : IntsAre fvs fs
  x4 : ∀ c ∈ KStt.codes (quoteN z0 (mailS (dotsS d0 ++ a0) (dotsS d1 ++ a1) (dotsS d2 ++ a2) n0 n1 n2 0 fs)), (foldC c.toNat).length ≤ 4
  mail : Txt.split (prepS (quoteN z0 (mailS (dotsS d0 ++ a0) (dotsS d1 ++ a1) (dotsS d2 ++ a2) n0 n1 n2 0 fs))) (Str.ofString "\r\n") = [dotsS (d0 + if (fs.any fun x => x == 0) then (z0 : Int) else 0) ++ b0, dotsS (d1 + if (fs.any fun x => x == 1) then (z0 : Int) else 0) ++ b1, Str.empty, dotsS (d2 + if (fs.any fun x => x == 2) then (z0 : Int) else 0) ++ b2]
  s0 : PyData.strOk (dotsS (d0 + if (fs.any fun x => x == 0) then (z0 : Int) else 0) ++ b0) = true
  s1 : PyData.strOk (dotsS (d1 + if (fs.any fun x => x == 1) then (z0 : Int) else 0) ++ b1) = true
  s2 : PyData.strOk (dotsS (d2 + if (fs.any fun x => x == 2) then (z0 : Int) else 0) ++ b2) = true
  inn : ∀ q ∈ selC chs c1, InnerOk (dotsS (d0 + if (fs.any fun x => x == 0) then (z0 : Int) else 0) ++ b0) (dotsS (d1 + if (fs.any fun x => x == 1) then (z0 : Int) else 0) ++ b1) (dotsS (d2 + if (fs.any fun x => x == 2) then (z0 : Int) else 0) ++ b2) b0 b1 b2 n0 n1 n2 (d0 + if (fs.any fun x => x == 0) then (z0 : Int) else 0) (d1 + if (fs.any fun x => x == 1) then (z0 : Int) else 0) (d2 + if (fs.any fun x => x == 2) then (z0 : Int) else 0) z1 q
section
variable {w : World} {mean : ExcName → Option Value} {mg mb : Str → Option Value} {news : List (Addr × Obj)} {dp un : Nat} {gd : Option (List Code)} {A₀ : Around} {base h₀ : Heap} {L : Addr} {mr : Str → Option Value} {s : Shared} {Q : Flow → Shared → Prop} {E : Value → Shared → Prop}
theorem outer_body {ls ln m0 m1 m2 lt ld lx lk lc lb : Addr} {ks kn kt kd kx kk kc kb : Nat} {oD oR oN oK oT oF oP oS oL oH : Obj} {a0 a1 a2 b0 b1 b2 : Str} {n0 n1 n2 d0 d1 d2 x0 x1 x2 W0 c0 c1 : Int} {z0 z1 : Nat} {un0 un1 un2 ua0 ua1 ua2 ub0 ub1 ub2 ut0 ut1 ud0 ud1 ud2 ux0 ux1 ux2 uc0 uc1 tW : Tok} {fvs : List Value} {fs : List Int} {vP vS vL vH : Option Value} {chs : List CH}
    (hn0 : 0 ≤ n0) (hn1 : 0 ≤ n1) (hn2 : 0 ≤ n2) (hd0 : 1 ≤ d0 ∧ d0 ≤ 5) (hd1 : 1 ≤ d1 ∧ d1 ≤ 5) (hd2 : 1 ≤ d2 ∧ d2 ≤ 5) (hx0 : -1000 ≤ x0 ∧ x0 ≤ 1000) (hx1 : -1000 ≤ x1 ∧ x1 ≤ 1000) (hx2 : -1000 ≤ x2 ∧ x2 ≤ 1000)
    (hz0 : z0 = 1 ∨ z0 = 2) (hz1 : z1 = 1 ∨ z1 = 2) (ha0 : a0.length ≤ 8) (ha1 : a1.length ≤ 8) (ha2 : a2.length ≤ 8) (hb0 : b0.length ≤ 8) (hb1 : b1.length ≤ 8) (hb2 : b2.length ≤ 8)
    (hok : OuterOk a0 a1 a2 b0 b1 b2 n0 n1 n2 d0 d1 d2 z0 z1 chs c1 fvs fs)
    (hoD : oD.data = .cell (some (.ref ld))) (hoR : oR.data = .cell (some (.ref ls))) (hoN : oN.data = .cell (some (.ref ln))) (hoK : oK.data = .cell (some (.ref lk))) (hoT : oT.data = .cell (some (.ref lt))) (hoF : oF.data = .cell (some (.ref lb)))
    (hoP : oP.data = .cell vP) (hoS : oS.data = .cell vS) (hoL : oL.data = .cell vL) (hoH : oH.data = .cell vH)
    (hch : ∀ q ∈ chs, (q.a, W.listOf q.vs.toArray q.k) ∈ news) (hlen : ∀ q ∈ chs, q.vs.length ≤ 8) (hsz : chs.length ≤ 8)
    (hfar : ∀ p ∈ ((ls, W.listOf #[.int n0 un0, .int n1 un1, .int n2 un2] ks) :: (ln, W.listOf #[.ref m0, .ref m1, .ref m2] kn) :: (m0, { cls := .type "tuple", data := .seq #[.str a0 ua0, .str b0 ub0] }) :: (m1, { cls := .type "tuple", data := .seq #[.str a1 ua1, .str b1 ub1] }) :: (m2, { cls := .type "tuple", data := .seq #[.str a2 ua2, .str b2 ub2] }) :: (lt, W.listOf #[.int (z0 : Int) ut0, .int (z1 : Int) ut1] kt) :: (ld, W.listOf #[.int d0 ud0, .int d1 ud1, .int d2 ud2] kd) :: (lx, W.listOf #[.int x0 ux0, .int x1 ux1, .int x2 ux2] kx) :: (lk, W.listOf #[.int c0 uc0, .int c1 uc1] kk) :: (lc, W.listOf (chs.map fun q => Value.ref q.a).toArray kc) :: (lb, W.listOf fvs.toArray kb) :: news), p.1 ≠ L + 10 ∧ p.1 ≠ L + 11 ∧ p.1 ≠ L + 12 ∧ p.1 ≠ L + 13 ∧ p.1 ≠ L + 14)
    (C : NoneBooked h₀) (XB : (KK w.params).In base) (TB : Top VV (looseW VV LO) mean mg mb base)
    (B : Below A₀ base [] h₀) (X : (KK w.params).In h₀) (T : Top VV (looseW VV LO) mean mg mb h₀) (F : Fr h₀ L s.heap (fun y => if y = Str.ofString "told" then some (.int W0 tW) else if y = Str.ofString "numbers" then some (.ref lx) else if y = Str.ofString "choices" then some (.ref lc) else mr y))
    (N : News h₀ L s.heap ((L + 5, oD) :: (L + 6, oR) :: (L + 7, oN) :: (L + 8, oK) :: (L + 9, oT) :: (L + 10, oF) :: (L + 11, oP) :: (L + 12, oS) :: (L + 13, oL) :: (L + 14, oH) :: (ls, W.listOf #[.int n0 un0, .int n1 un1, .int n2 un2] ks) :: (ln, W.listOf #[.ref m0, .ref m1, .ref m2] kn) :: (m0, { cls := .type "tuple", data := .seq #[.str a0 ua0, .str b0 ub0] }) :: (m1, { cls := .type "tuple", data := .seq #[.str a1 ua1, .str b1 ub1] }) :: (m2, { cls := .type "tuple", data := .seq #[.str a2 ua2, .str b2 ub2] }) :: (lt, W.listOf #[.int (z0 : Int) ut0, .int (z1 : Int) ut1] kt) :: (ld, W.listOf #[.int d0 ud0, .int d1 ud1, .int d2 ud2] kd) :: (lx, W.listOf #[.int x0 ux0, .int x1 ux1, .int x2 ux2] kx) :: (lk, W.listOf #[.int c0 uc0, .int c1 uc1] kk) :: (lc, W.listOf (chs.map fun q => Value.ref q.a).toArray kc) :: (lb, W.listOf fvs.toArray kb) :: news)) (hd : dp + 10 < recursionLimit) (hu : un + 120 < cLine)
    (hret : ∀ (oP' oS' oL' oH' : Obj) (vP' vS' vL' vH' : Option Value) (tWq : Tok) (mrq : Str → Option Value) h' tk', oP'.data = .cell vP' → oS'.data = .cell vS' → oL'.data = .cell vL' → oH'.data = .cell vH' → Fr h₀ L h' (fun y => if y = Str.ofString "told" then some (.int (W0 + ((selC chs c1).map (detQ x0 x1 x2 (d0 + if (fs.any fun x => x == 0) then (z0 : Int) else 0) (d1 + if (fs.any fun x => x == 1) then (z0 : Int) else 0) (d2 + if (fs.any fun x => x == 2) then (z0 : Int) else 0) z1)).sum) tWq) else if y = Str.ofString "numbers" then some (.ref lx) else if y = Str.ofString "choices" then some (.ref lc) else mrq y) → News h₀ L h' ((L + 5, oD) :: (L + 6, oR) :: (L + 7, oN) :: (L + 8, oK) :: (L + 9, oT) :: (L + 10, oF) :: (L + 11, oP') :: (L + 12, oS') :: (L + 13, oL') :: (L + 14, oH') :: (ls, W.listOf #[.int n0 un0, .int n1 un1, .int n2 un2] ks) :: (ln, W.listOf #[.ref m0, .ref m1, .ref m2] kn) :: (m0, { cls := .type "tuple", data := .seq #[.str a0 ua0, .str b0 ub0] }) :: (m1, { cls := .type "tuple", data := .seq #[.str a1 ua1, .str b1 ub1] }) :: (m2, { cls := .type "tuple", data := .seq #[.str a2 ua2, .str b2 ub2] }) :: (lt, W.listOf #[.int (z0 : Int) ut0, .int (z1 : Int) ut1] kt) :: (ld, W.listOf #[.int d0 ud0, .int d1 ud1, .int d2 ud2] kd) :: (lx, W.listOf #[.int x0 ux0, .int x1 ux1, .int x2 ux2] kx) :: (lk, W.listOf #[.int c0 uc0, .int c1 uc1] kk) :: (lc, W.listOf (chs.map fun q => Value.ref q.a).toArray kc) :: (lb, W.listOf fvs.toArray kb) :: news) → Q .next { s with heap := h', toks := tk' }) :
    wpAny (model PP w) (ktrTop dp un gd lawN lawSc L 204 (.ref 203) (lawCl L) []) (execs lawFor (envX lawN lawSc L 204 (.ref 203) (lawCl L))) Q E s := by
  have hq0 : 1 ≤ (d0 + if (fs.any fun x => x == 0) then (z0 : Int) else 0) ∧ (d0 + if (fs.any fun x => x == 0) then (z0 : Int) else 0) ≤ 10 := by rcases hz0 with rfl | rfl <;> (split <;> omega)
  have hq1 : 1 ≤ (d1 + if (fs.any fun x => x == 1) then (z0 : Int) else 0) ∧ (d1 + if (fs.any fun x => x == 1) then (z0 : Int) else 0) ≤ 10 := by rcases hz0 with rfl | rfl <;> (split <;> omega)
  have hq2 : 1 ≤ (d2 + if (fs.any fun x => x == 2) then (z0 : Int) else 0) ∧ (d2 + if (fs.any fun x => x == 2) then (z0 : Int) else 0) ≤ 10 := by rcases hz0 with rfl | rfl <;> (split <;> omega)
  have hD0 : 0 ≤ d0 ∧ d0 ≤ 20 := by omega
  have hD1 : 0 ≤ d1 ∧ d1 ≤ 20 := by omega
  have hD2 : 0 ≤ d2 ∧ d2 ≤ 20 := by omega
  have hQ0 : 0 ≤ (d0 + if (fs.any fun x => x == 0) then (z0 : Int) else 0) ∧ (d0 + if (fs.any fun x => x == 0) then (z0 : Int) else 0) ≤ 20 := ⟨by omega, by omega⟩
  have hQ1 : 0 ≤ (d1 + if (fs.any fun x => x == 1) then (z0 : Int) else 0) ∧ (d1 + if (fs.any fun x => x == 1) then (z0 : Int) else 0) ≤ 20 := ⟨by omega, by omega⟩
  have hQ2 : 0 ≤ (d2 + if (fs.any fun x => x == 2) then (z0 : Int) else 0) ∧ (d2 + if (fs.any fun x => x == 2) then (z0 : Int) else 0) ≤ 20 := ⟨by omega, by omega⟩
  iterate 6 (walk1)
  show wpAny (model PP w) (ktrTop dp un gd lawN lawSc L 204 (.ref 203) (lawCl L) []) (eval lawPage (envX lawN lawSc L 204 (.ref 203) (lawCl L))) _ _ _
  with_reducible refine' page_useM hD0 hD1 hD2 ha0 ha1 ha2 hoD hoN B X T F N ?m0 ?m1 ?m2 ?m3 ?m4 ?m5 ?m6 ?hd ?hu ?_
  case hd => exact room_le hd (by decide)
  case hu => exact room_le hu (by decide)
  case m0 => k_mem
  case m1 => k_mem
  case m2 => k_mem
  case m3 => k_mem
  case m4 => k_mem
  case m5 => k_mem
  case m6 => k_mem
  rintro D1 y0 y1 y2 h1 tk1 ⟨ty0, rfl⟩ ⟨ty1, rfl⟩ ⟨ty2, rfl⟩ F1 N1 o1
  clear o1 F N
  iterate 13 (walk1)
  show wpAny (model PP w) (ktrTop dp un gd lawN lawSc L 204 (.ref 203) (lawCl L) []) (call (.ref 175) [.ref D1, .ref lb, .ref ls, .int 0 _, .int (z0 : Int) _]) _ _ _
  with_reducible refine' turn_use hn0 hn1 hn2 ⟨by decide, by decide⟩ hz0 ?r0 ?r1 ?r2 hok.bs hok.x4 ?a1 ?a2 ?a3 B ?F X ?N T rfl ?hd ?hu ?_
  case F => k_asm
  case N => k_asm
  case a1 => k_dflt k_mem
  case a2 => k_mem
  case a3 => k_mem
  case r0 => exact Nat.le_trans (len_app (dotsS_len hD0) ha0) (by decide)
  case r1 => exact Nat.le_trans (len_app (dotsS_len hD1) ha1) (by decide)
  case r2 => exact Nat.le_trans (len_app (dotsS_len hD2) ha2) (by decide)
  case hd => exact room_le hd (by decide)
  case hu => exact room_le hu (by decide)
  intro D l h' tk' F' N' lt' e'
  obtain ⟨t0, t1, t2, t3, el⟩ := strVals4 (e'.trans hok.mail)
  rw [el] at N'
  have hDgt : @LT.lt Nat _ (L + 14) D := lt' (L + 14, oH) (by k_mem)
  clear el e' F1 N1 lt'
  iterate 1 (walk1)
  dsimp only
  rename Fr _ _ _ (fun _ => _) => F2
  rename News _ _ _ _ => N2
  refine wpAny_execs_cons ?_
  refine wpAny_Assign_Name ?_
  show wpAny (model PP w) (ktrTop dp un gd lawN lawSc L 204 (.ref 203) (lawCl L) []) (eval lawPowers (envX lawN lawSc L 204 (.ref 203) (lawCl L))) _ _ _
  with_reducible refine' powers_useM hok.bs hoD hoT hoF B X T F2 N2 ?m0 ?m1 ?m2 ?m3 ?m4 ?m5 ?hd ?hu ?_
  case hd => exact room_le hd (by decide)
  case hu => exact room_le hu (by decide)
  case m0 => k_mem
  case m1 => k_mem
  case m2 => k_mem
  case m3 => k_mem
  case m4 => k_mem
  case m5 => k_mem
  rintro D2 y0 y1 y2 h3 tk3 ⟨tp0, rfl⟩ ⟨tp1, rfl⟩ ⟨tp2, rfl⟩ F3 N3 o3
  have oD2 := off1_mem o3
  have e2a : @Ne Nat (L + 11) D2 := oD2 (L + 11, oP) (by k_mem)
  have e2b : @Ne Nat (L + 12) D2 := oD2 (L + 12, oS) (by k_mem)
  have e2c : @Ne Nat (L + 13) D2 := oD2 (L + 13, oL) (by k_mem)
  have e2d : @Ne Nat (L + 14) D2 := oD2 (L + 14, oH) (by k_mem)
  clear o3 oD2 F2 N2
  refine store_cell (c := L + 11) (rest := (D2, _) :: (D, _) :: (L + 5, oD) :: (L + 6, oR) :: (L + 7, oN) :: (L + 8, oK) :: (L + 9, oT) :: (L + 10, oF) :: (L + 12, oS) :: (L + 13, oL) :: (L + 14, oH) :: (ls, W.listOf #[.int n0 un0, .int n1 un1, .int n2 un2] ks) :: (ln, W.listOf #[.ref m0, .ref m1, .ref m2] kn) :: (m0, { cls := .type "tuple", data := .seq #[.str a0 ua0, .str b0 ub0] }) :: (m1, { cls := .type "tuple", data := .seq #[.str a1 ua1, .str b1 ub1] }) :: (m2, { cls := .type "tuple", data := .seq #[.str a2 ua2, .str b2 ub2] }) :: (lt, W.listOf #[.int (z0 : Int) ut0, .int (z1 : Int) ut1] kt) :: (ld, W.listOf #[.int d0 ud0, .int d1 ud1, .int d2 ud2] kd) :: (lx, W.listOf #[.int x0 ux0, .int x1 ux1, .int x2 ux2] kx) :: (lk, W.listOf #[.int c0 uc0, .int c1 uc1] kk) :: (lc, W.listOf (chs.map fun q => Value.ref q.a).toArray kc) :: (lb, W.listOf fvs.toArray kb) :: news) F3 N3 rfl (by k_mem) hoP (hs_cons (by k_mem) (Ne.symm e2a) (hs_cons (by k_mem) (by first | exact nAd (by decide) | omega) (hs_cons (by k_mem) (by first | exact nAd (by decide) | omega) (hs_cons (by k_mem) (by first | exact nAd (by decide) | omega) (hs_cons (by k_mem) (by first | exact nAd (by decide) | omega) (hs_cons (by k_mem) (by first | exact nAd (by decide) | omega) (hs_cons (by k_mem) (by first | exact nAd (by decide) | omega) (hs_cons (by k_mem) (by first | exact nAd (by decide) | omega) (hs_cons (by k_mem) (by first | exact nAd (by decide) | omega) (hs_cons (by k_mem) (by first | exact nAd (by decide) | omega) (hs_cons (by k_mem) (by first | exact nAd (by decide) | omega) (fun p hp => ⟨List.Mem.tail _ (List.Mem.tail _ (List.Mem.tail _ (List.Mem.tail _ (List.Mem.tail _ (List.Mem.tail _ (List.Mem.tail _ (List.Mem.tail _ (List.Mem.tail _ (List.Mem.tail _ (List.Mem.tail _ (List.Mem.tail _ (List.Mem.tail _ (hp))))))))))))), (hfar p hp).2.1⟩)))))))))))) ?_ rfl rfl
  intro h4 oP2 hoP2 F4 N4
  clear F3 N3
  dsimp only
  refine wpAny_execs_cons ?_
  show wpAny (model PP w) (ktrTop dp un gd lawN lawSc L 204 (.ref 203) (lawCl L) []) (exec (lawFor[2]?.getD (.Pass default)) (envX lawN lawSc L 204 (.ref 203) (lawCl L))) _ _ _
  with_reducible refine' rows_useM hQ0 hQ1 hQ2 hb0 hb1 hb2 hoP2 hoN B X T F4 N4 ?m0 ?m1 ?m2 ?m3 ?m4 ?m5 ?m6 ?hd ?hu ?_
  case hd => exact room_le hd (by decide)
  case hu => exact room_le hu (by decide)
  case m0 => k_mem
  case m1 => k_mem
  case m2 => k_mem
  case m3 => k_mem
  case m4 => k_mem
  case m5 => k_mem
  case m6 => k_mem
  rintro D3 w0 w1 w2 h5 tk5 ⟨tw0, rfl⟩ ⟨tw1, rfl⟩ ⟨tw2, rfl⟩ F5 N5 o5
  have oD3 := off1_mem o5
  have e3a : @Ne Nat (L + 10) D3 := oD3 (L + 10, oF) (by k_mem)
  have e3b : @Ne Nat (L + 12) D3 := oD3 (L + 12, oS) (by k_mem)
  have e3c : @Ne Nat (L + 13) D3 := oD3 (L + 13, oL) (by k_mem)
  have e3d : @Ne Nat (L + 14) D3 := oD3 (L + 14, oH) (by k_mem)
  clear o5 oD3 F4 N4
  dsimp only
  refine wpAny_execs_cons ?_
  show wpAny (model PP w) (ktrTop dp un gd lawN lawSc L 204 (.ref 203) (lawCl L) []) (exec (lawFor[3]?.getD (.Pass default)) (envX lawN lawSc L 204 (.ref 203) (lawCl L))) _ _ _
  have F6 := frC (frC F5 (x := Str.ofString "rows") (v := .ref D3) rfl) (x := Str.ofString "page") (v := .ref D) rfl
  clear F5
  with_reducible refine' page_checkM B X T F6 N5 ?m0 ?m1 ?hd ?hu hok.s0 hok.s1 hok.s2 ?_
  case hd => exact room_le hd (by decide)
  case hu => exact room_le hu (by decide)
  case m0 => k_mem
  case m1 => k_mem
  intro h6 tk6 F7 N6
  clear F6 N5
  dsimp only
  refine wpAny_execs_cons ?_
  show wpAny (model PP w) (ktrTop dp un gd lawN lawSc L 204 (.ref 203) (lawCl L) []) (exec (lawFor[4]?.getD (.Pass default)) (envX lawN lawSc L 204 (.ref 203) (lawCl L))) _ _ _
  have F8 := frC (frC (frC (frC F7 (x := Str.ofString "choices") (v := .ref lc) rfl) (x := Str.ofString "numbers") (v := .ref lx) rfl) (x := Str.ofString "rows") (v := .ref D3) rfl) (x := Str.ofString "told") (v := .int W0 tW) rfl
  clear F7
  have NB : News h₀ L h6 ((L + 8, oK) :: (L + 9, oT) :: (L + 11, oP2) :: (L + 7, oN) :: (L + 6, oR) :: (L + 12, oS) :: (L + 13, oL) :: (L + 14, oH) :: (D3, W.listOf #[.str (dotsS (d0 + if (fs.any fun x => x == 0) then (z0 : Int) else 0) ++ b0) tw0, .str (dotsS (d1 + if (fs.any fun x => x == 1) then (z0 : Int) else 0) ++ b1) tw1, .str (dotsS (d2 + if (fs.any fun x => x == 2) then (z0 : Int) else 0) ++ b2) tw2] 3) :: (ls, W.listOf #[.int n0 un0, .int n1 un1, .int n2 un2] ks) :: (ln, W.listOf #[.ref m0, .ref m1, .ref m2] kn) :: (m0, { cls := .type "tuple", data := .seq #[.str a0 ua0, .str b0 ub0] }) :: (m1, { cls := .type "tuple", data := .seq #[.str a1 ua1, .str b1 ub1] }) :: (m2, { cls := .type "tuple", data := .seq #[.str a2 ua2, .str b2 ub2] }) :: (lt, W.listOf #[.int (z0 : Int) ut0, .int (z1 : Int) ut1] kt) :: (D2, W.listOf #[.int (d0 + if (fs.any fun x => x == 0) then (z0 : Int) else 0) tp0, .int (d1 + if (fs.any fun x => x == 1) then (z0 : Int) else 0) tp1, .int (d2 + if (fs.any fun x => x == 2) then (z0 : Int) else 0) tp2] 3) :: (lx, W.listOf #[.int x0 ux0, .int x1 ux1, .int x2 ux2] kx) :: (lk, W.listOf #[.int c0 uc0, .int c1 uc1] kk) :: (lc, W.listOf (chs.map fun q => Value.ref q.a).toArray kc) :: (L + 5, oD) :: (L + 10, oF) :: (ld, W.listOf #[.int d0 ud0, .int d1 ud1, .int d2 ud2] kd) :: (lb, W.listOf fvs.toArray kb) :: news) := nM N6 (by k_mem) (nM N6 (by k_mem) (nM N6 (by k_mem) (nM N6 (by k_mem) (nM N6 (by k_mem) (nM N6 (by k_mem) (nM N6 (by k_mem) (nM N6 (by k_mem) (nM N6 (by k_mem) (nM N6 (by k_mem) (nM N6 (by k_mem) (nM N6 (by k_mem) (nM N6 (by k_mem) (nM N6 (by k_mem) (nM N6 (by k_mem) (nM N6 (by k_mem) (nM N6 (by k_mem) (nM N6 (by k_mem) (nM N6 (by k_mem) (nM N6 (by k_mem) (nM N6 (by k_mem) (nM N6 (by k_mem) (nM N6 (by k_mem) (fun p hp => N6 p (List.Mem.tail _ (List.Mem.tail _ (List.Mem.tail _ (List.Mem.tail _ (List.Mem.tail _ (List.Mem.tail _ (List.Mem.tail _ (List.Mem.tail _ (List.Mem.tail _ (List.Mem.tail _ (List.Mem.tail _ (List.Mem.tail _ (List.Mem.tail _ (List.Mem.tail _ (List.Mem.tail _ (List.Mem.tail _ (List.Mem.tail _ (List.Mem.tail _ (List.Mem.tail _ (List.Mem.tail _ (List.Mem.tail _ (List.Mem.tail _ (List.Mem.tail _ (List.Mem.tail _ (hp))))))))))))))))))))))))))))))))))))))))))))))))
  clear N6
  with_reducible refine' inner_loop hn0 hn1 hn2 ?p0 ?p1 ?p2 hx0 hx1 hx2 hz1 ?r0 ?r1 ?r2 hb0 hb1 hb2 hok.inn hoK hoT hoP2 hoN hoR hoS hoL hoH ?ch hlen hsz ?far C XB TB B X T F8 NB hd hu ?_
  case p0 => exact ⟨by omega, by omega⟩
  case p1 => exact ⟨by omega, by omega⟩
  case p2 => exact ⟨by omega, by omega⟩
  case r0 => exact Nat.le_trans (len_app (dotsS_len hQ0) hb0) (by decide)
  case r1 => exact Nat.le_trans (len_app (dotsS_len hQ1) hb1) (by decide)
  case r2 => exact Nat.le_trans (len_app (dotsS_len hQ2) hb2) (by decide)
  case ch => exact fun q hq => List.Mem.tail _ (List.Mem.tail _ (List.Mem.tail _ (List.Mem.tail _ (hch q hq))))
  case far =>
    exact far_cons (P := fun a => a ≠ L + 12 ∧ a ≠ L + 13 ∧ a ≠ L + 14) ⟨Ne.symm e3b, Ne.symm e3c, Ne.symm e3d⟩ (far_cons (P := fun a => a ≠ L + 12 ∧ a ≠ L + 13 ∧ a ≠ L + 14) (hfar _ (by k_mem)).2.2 (far_cons (P := fun a => a ≠ L + 12 ∧ a ≠ L + 13 ∧ a ≠ L + 14) (hfar _ (by k_mem)).2.2 (far_cons (P := fun a => a ≠ L + 12 ∧ a ≠ L + 13 ∧ a ≠ L + 14) (hfar _ (by k_mem)).2.2 (far_cons (P := fun a => a ≠ L + 12 ∧ a ≠ L + 13 ∧ a ≠ L + 14) (hfar _ (by k_mem)).2.2 (far_cons (P := fun a => a ≠ L + 12 ∧ a ≠ L + 13 ∧ a ≠ L + 14) (hfar _ (by k_mem)).2.2 (far_cons (P := fun a => a ≠ L + 12 ∧ a ≠ L + 13 ∧ a ≠ L + 14) (hfar _ (by k_mem)).2.2 (far_cons (P := fun a => a ≠ L + 12 ∧ a ≠ L + 13 ∧ a ≠ L + 14) ⟨Ne.symm e2b, Ne.symm e2c, Ne.symm e2d⟩ (far_cons (P := fun a => a ≠ L + 12 ∧ a ≠ L + 13 ∧ a ≠ L + 14) (hfar _ (by k_mem)).2.2 (far_cons (P := fun a => a ≠ L + 12 ∧ a ≠ L + 13 ∧ a ≠ L + 14) (hfar _ (by k_mem)).2.2 (far_cons (P := fun a => a ≠ L + 12 ∧ a ≠ L + 13 ∧ a ≠ L + 14) (hfar _ (by k_mem)).2.2 (far_cons (P := fun a => a ≠ L + 12 ∧ a ≠ L + 13 ∧ a ≠ L + 14) ⟨Nat.ne_of_lt (Nat.add_lt_add_left (by decide) L), Nat.ne_of_lt (Nat.add_lt_add_left (by decide) L), Nat.ne_of_lt (Nat.add_lt_add_left (by decide) L)⟩ (far_cons (P := fun a => a ≠ L + 12 ∧ a ≠ L + 13 ∧ a ≠ L + 14) ⟨Nat.ne_of_lt (Nat.add_lt_add_left (by decide) L), Nat.ne_of_lt (Nat.add_lt_add_left (by decide) L), Nat.ne_of_lt (Nat.add_lt_add_left (by decide) L)⟩ (far_cons (P := fun a => a ≠ L + 12 ∧ a ≠ L + 13 ∧ a ≠ L + 14) (hfar _ (by k_mem)).2.2 (far_cons (P := fun a => a ≠ L + 12 ∧ a ≠ L + 13 ∧ a ≠ L + 14) (hfar _ (by k_mem)).2.2 (fun p hp => (hfar p (List.Mem.tail _ (List.Mem.tail _ (List.Mem.tail _ (List.Mem.tail _ (List.Mem.tail _ (List.Mem.tail _ (List.Mem.tail _ (List.Mem.tail _ (List.Mem.tail _ (List.Mem.tail _ (List.Mem.tail _ (hp))))))))))))).2.2)))))))))))))))
  intro oS' oL' oH' vS' vL' vH' tWq mrq h7 tk7 g1 g2 g3 F9 N9
  dsimp only
  refine wpAny_execs_nil ?_
  refine hret oP2 oS' oL' oH' _ vS' vL' vH' tWq _ h7 tk7 hoP2 g1 g2 g3 (frC (frC (frC F9 (x := Str.ofString "choices") (v := .ref lc) rfl) (x := Str.ofString "numbers") (v := .ref lx) rfl) (x := Str.ofString "told") rfl) ?_
  exact nM N9 (by k_mem) (nM N9 (by k_mem) (nM N9 (by k_mem) (nM N9 (by k_mem) (nM N9 (by k_mem) (nM N9 (by k_mem) (nM N9 (by k_mem) (nM N9 (by k_mem) (nM N9 (by k_mem) (nM N9 (by k_mem) (nM N9 (by k_mem) (nM N9 (by k_mem) (nM N9 (by k_mem) (nM N9 (by k_mem) (nM N9 (by k_mem) (nM N9 (by k_mem) (nM N9 (by k_mem) (nM N9 (by k_mem) (nM N9 (by k_mem) (nM N9 (by k_mem) (nM N9 (by k_mem) (fun p hp => N9 p (List.Mem.tail _ (List.Mem.tail _ (List.Mem.tail _ (List.Mem.tail _ (List.Mem.tail _ (List.Mem.tail _ (List.Mem.tail _ (List.Mem.tail _ (List.Mem.tail _ (List.Mem.tail _ (List.Mem.tail _ (List.Mem.tail _ (List.Mem.tail _ (List.Mem.tail _ (List.Mem.tail _ (List.Mem.tail _ (List.Mem.tail _ (List.Mem.tail _ (List.Mem.tail _ (List.Mem.tail _ (List.Mem.tail _ (List.Mem.tail _ (List.Mem.tail _ (hp)))))))))))))))))))))))))))))))))))))))))))))
end
end MyLaw
end
end
section
open PySem PySem.Spec PySem.Calls PySem.W PySem.W.X PyProof.Rows
noncomputable section
namespace MyLaw
open LCg LCt
structure StG10 where
  oF : Obj
  oP : Obj
  oS : Obj
  oL : Obj
  oH : Obj
  vF : Option Value
  vP : Option Value
  vS : Option Value
  vL : Option Value
  vH : Option Value
  t : Tok
  m : Str → Option Value
  W : Int
def detO (x0 x1 x2 d0 d1 d2 : Int) (z0 z1 : Nat) (chs : List CH) (c1 : Int) (q : CH) : Int := ((selC chs c1).map (detQ x0 x1 x2 (d0 + if (q.bs.any fun x => x == 0) then (z0 : Int) else 0) (d1 + if (q.bs.any fun x => x == 1) then (z0 : Int) else 0) (d2 + if (q.bs.any fun x => x == 2) then (z0 : Int) else 0) z1)).sum
section
variable {w : World} {mean : ExcName → Option Value} {mg mb : Str → Option Value} {news : List (Addr × Obj)} {dp un : Nat} {gd : Option (List Code)} {A₀ : Around} {base h₀ : Heap} {L : Addr} {mr : Str → Option Value} {s : Shared} {Q : Flow → Shared → Prop} {E : Value → Shared → Prop}
theorem outer_loop {ls ln m0 m1 m2 lt ld lx lk lc : Addr} {ks kn kt kd kx kk kc : Nat} {oD oR oN oK oT oF oP oS oL oH : Obj} {a0 a1 a2 b0 b1 b2 : Str} {n0 n1 n2 d0 d1 d2 x0 x1 x2 W0 c0 c1 : Int} {z0 z1 : Nat} {un0 un1 un2 ua0 ua1 ua2 ub0 ub1 ub2 ut0 ut1 ud0 ud1 ud2 ux0 ux1 ux2 uc0 uc1 tW : Tok} {vF vP vS vL vH : Option Value} {chs : List CH}
    (hn0 : 0 ≤ n0) (hn1 : 0 ≤ n1) (hn2 : 0 ≤ n2) (hd0 : 1 ≤ d0 ∧ d0 ≤ 5) (hd1 : 1 ≤ d1 ∧ d1 ≤ 5) (hd2 : 1 ≤ d2 ∧ d2 ≤ 5) (hx0 : -1000 ≤ x0 ∧ x0 ≤ 1000) (hx1 : -1000 ≤ x1 ∧ x1 ≤ 1000) (hx2 : -1000 ≤ x2 ∧ x2 ≤ 1000)
    (hz0 : z0 = 1 ∨ z0 = 2) (hz1 : z1 = 1 ∨ z1 = 2) (ha0 : a0.length ≤ 8) (ha1 : a1.length ≤ 8) (ha2 : a2.length ≤ 8) (hb0 : b0.length ≤ 8) (hb1 : b1.length ≤ 8) (hb2 : b2.length ≤ 8)
    (hok : ∀ q ∈ selC chs c0, OuterOk a0 a1 a2 b0 b1 b2 n0 n1 n2 d0 d1 d2 z0 z1 chs c1 q.vs q.bs)
    (hoD : oD.data = .cell (some (.ref ld))) (hoR : oR.data = .cell (some (.ref ls))) (hoN : oN.data = .cell (some (.ref ln))) (hoK : oK.data = .cell (some (.ref lk))) (hoT : oT.data = .cell (some (.ref lt))) (hoF : oF.data = .cell vF)
    (hoP : oP.data = .cell vP) (hoS : oS.data = .cell vS) (hoL : oL.data = .cell vL) (hoH : oH.data = .cell vH)
    (hch : ∀ q ∈ chs, (q.a, W.listOf q.vs.toArray q.k) ∈ news) (hlen : ∀ q ∈ chs, q.vs.length ≤ 8) (hsz : chs.length ≤ 8)
    (hfar : ∀ p ∈ ((ls, W.listOf #[.int n0 un0, .int n1 un1, .int n2 un2] ks) :: (ln, W.listOf #[.ref m0, .ref m1, .ref m2] kn) :: (m0, { cls := .type "tuple", data := .seq #[.str a0 ua0, .str b0 ub0] }) :: (m1, { cls := .type "tuple", data := .seq #[.str a1 ua1, .str b1 ub1] }) :: (m2, { cls := .type "tuple", data := .seq #[.str a2 ua2, .str b2 ub2] }) :: (lt, W.listOf #[.int (z0 : Int) ut0, .int (z1 : Int) ut1] kt) :: (ld, W.listOf #[.int d0 ud0, .int d1 ud1, .int d2 ud2] kd) :: (lx, W.listOf #[.int x0 ux0, .int x1 ux1, .int x2 ux2] kx) :: (lk, W.listOf #[.int c0 uc0, .int c1 uc1] kk) :: (lc, W.listOf (chs.map fun q => Value.ref q.a).toArray kc) :: news), p.1 ≠ L + 10 ∧ p.1 ≠ L + 11 ∧ p.1 ≠ L + 12 ∧ p.1 ≠ L + 13 ∧ p.1 ≠ L + 14)
    (C : NoneBooked h₀) (XB : (KK w.params).In base) (TB : Top VV (looseW VV LO) mean mg mb base)
    (B : Below A₀ base [] h₀) (X : (KK w.params).In h₀) (T : Top VV (looseW VV LO) mean mg mb h₀) (F : Fr h₀ L s.heap (fun y => if y = Str.ofString "told" then some (.int W0 tW) else if y = Str.ofString "numbers" then some (.ref lx) else if y = Str.ofString "choices" then some (.ref lc) else mr y))
    (N : News h₀ L s.heap ((L + 5, oD) :: (L + 6, oR) :: (L + 7, oN) :: (L + 8, oK) :: (L + 9, oT) :: (L + 10, oF) :: (L + 11, oP) :: (L + 12, oS) :: (L + 13, oL) :: (L + 14, oH) :: (ls, W.listOf #[.int n0 un0, .int n1 un1, .int n2 un2] ks) :: (ln, W.listOf #[.ref m0, .ref m1, .ref m2] kn) :: (m0, { cls := .type "tuple", data := .seq #[.str a0 ua0, .str b0 ub0] }) :: (m1, { cls := .type "tuple", data := .seq #[.str a1 ua1, .str b1 ub1] }) :: (m2, { cls := .type "tuple", data := .seq #[.str a2 ua2, .str b2 ub2] }) :: (lt, W.listOf #[.int (z0 : Int) ut0, .int (z1 : Int) ut1] kt) :: (ld, W.listOf #[.int d0 ud0, .int d1 ud1, .int d2 ud2] kd) :: (lx, W.listOf #[.int x0 ux0, .int x1 ux1, .int x2 ux2] kx) :: (lk, W.listOf #[.int c0 uc0, .int c1 uc1] kk) :: (lc, W.listOf (chs.map fun q => Value.ref q.a).toArray kc) :: news)) (hd : dp + 10 < recursionLimit) (hu : un + 120 < cLine)
    (hret : ∀ (oF' oP' oS' oL' oH' : Obj) (vF' vP' vS' vL' vH' : Option Value) (tWq : Tok) (mrq : Str → Option Value) h' tk', oF'.data = .cell vF' → oP'.data = .cell vP' → oS'.data = .cell vS' → oL'.data = .cell vL' → oH'.data = .cell vH' → Fr h₀ L h' (fun y => if y = Str.ofString "told" then some (.int (W0 + ((selC chs c0).map (detO x0 x1 x2 d0 d1 d2 z0 z1 chs c1)).sum) tWq) else if y = Str.ofString "numbers" then some (.ref lx) else if y = Str.ofString "choices" then some (.ref lc) else mrq y) → News h₀ L h' ((L + 5, oD) :: (L + 6, oR) :: (L + 7, oN) :: (L + 8, oK) :: (L + 9, oT) :: (L + 10, oF') :: (L + 11, oP') :: (L + 12, oS') :: (L + 13, oL') :: (L + 14, oH') :: (ls, W.listOf #[.int n0 un0, .int n1 un1, .int n2 un2] ks) :: (ln, W.listOf #[.ref m0, .ref m1, .ref m2] kn) :: (m0, { cls := .type "tuple", data := .seq #[.str a0 ua0, .str b0 ub0] }) :: (m1, { cls := .type "tuple", data := .seq #[.str a1 ua1, .str b1 ub1] }) :: (m2, { cls := .type "tuple", data := .seq #[.str a2 ua2, .str b2 ub2] }) :: (lt, W.listOf #[.int (z0 : Int) ut0, .int (z1 : Int) ut1] kt) :: (ld, W.listOf #[.int d0 ud0, .int d1 ud1, .int d2 ud2] kd) :: (lx, W.listOf #[.int x0 ux0, .int x1 ux1, .int x2 ux2] kx) :: (lk, W.listOf #[.int c0 uc0, .int c1 uc1] kk) :: (lc, W.listOf (chs.map fun q => Value.ref q.a).toArray kc) :: news) → Q .next { s with heap := h', toks := tk' }) :
    wpAny (model PP w) (ktrTop dp un gd lawN lawSc L 204 (.ref 203) (lawCl L) []) (exec (q26.1.2.1[12]?.getD (.Pass default)) (envX lawN lawSc L 204 (.ref 203) (lawCl L))) Q E s := by
  show wpAny _ _ (exec (Stmt.For _ _ _ _ _) _) _ _ _
  refine wpAny_For ?_ (by intro _; rfl)
  show wpAny (model PP w) (ktrTop dp un gd lawN lawSc L 204 (.ref 203) (lawCl L) []) (eval (forIter q26.1.2.1[12]?) (envX lawN lawSc L 204 (.ref 203) (lawCl L))) _ _ _
  have F0 := frC F (x := Str.ofString "choices") (v := .ref lc) rfl
  with_reducible refine' choose0 hoK ?ch hlen hsz B X T ?F ?N ?hd ?hu ?_
  case F => exact F0
  case N => exact nM N (by k_mem) (nM N (by k_mem) (nM N (by k_mem) N))
  case ch => exact fun q hq => List.Mem.tail _ (List.Mem.tail _ (List.Mem.tail _ (List.Mem.tail _ (List.Mem.tail _ (List.Mem.tail _ (List.Mem.tail _ (List.Mem.tail _ (List.Mem.tail _ (List.Mem.tail _ (List.Mem.tail _ (List.Mem.tail _ (List.Mem.tail _ (List.Mem.tail _ (List.Mem.tail _ (List.Mem.tail _ (List.Mem.tail _ (List.Mem.tail _ (List.Mem.tail _ (List.Mem.tail _ (hch q hq))))))))))))))))))))
  case hd => exact room_le hd (by decide)
  case hu => exact room_le hu (by decide)
  intro D h1 tk1 F1 N1 o1
  have F2 := frC (frC (frC F1 (x := Str.ofString "choices") (v := .ref lc) rfl) (x := Str.ofString "numbers") (v := .ref lx) rfl) (x := Str.ofString "told") (v := .int W0 tW) rfl
  have N2 : News h₀ L h1 ((D, LCg.lst ((selC chs c0).map fun q => Value.ref q.a)) :: ((L + 5, oD) :: (L + 6, oR) :: (L + 7, oN) :: (L + 8, oK) :: (L + 9, oT) :: (L + 10, oF) :: (L + 11, oP) :: (L + 12, oS) :: (L + 13, oL) :: (L + 14, oH) :: (ls, W.listOf #[.int n0 un0, .int n1 un1, .int n2 un2] ks) :: (ln, W.listOf #[.ref m0, .ref m1, .ref m2] kn) :: (m0, { cls := .type "tuple", data := .seq #[.str a0 ua0, .str b0 ub0] }) :: (m1, { cls := .type "tuple", data := .seq #[.str a1 ua1, .str b1 ub1] }) :: (m2, { cls := .type "tuple", data := .seq #[.str a2 ua2, .str b2 ub2] }) :: (lt, W.listOf #[.int (z0 : Int) ut0, .int (z1 : Int) ut1] kt) :: (ld, W.listOf #[.int d0 ud0, .int d1 ud1, .int d2 ud2] kd) :: (lx, W.listOf #[.int x0 ux0, .int x1 ux1, .int x2 ux2] kx) :: (lk, W.listOf #[.int c0 uc0, .int c1 uc1] kk) :: (lc, W.listOf (chs.map fun q => Value.ref q.a).toArray kc) :: news)) := news_tail (pre := [_, _, _]) N1
  have oD := off1_mem o1
  have hD10 : @Ne Nat (L + 10) D := oD (L + 10, oF) (by k_mem)
  have hD11 : @Ne Nat (L + 11) D := oD (L + 11, oP) (by k_mem)
  have hD12 : @Ne Nat (L + 12) D := oD (L + 12, oS) (by k_mem)
  have hD13 : @Ne Nat (L + 13) D := oD (L + 13, oL) (by k_mem)
  have hD14 : @Ne Nat (L + 14) D := oD (L + 14, oH) (by k_mem)
  clear F0 F1 N1 o1 oD F N
  have hlt : ∀ p ∈ ((D, LCg.lst ((selC chs c0).map fun q => Value.ref q.a)) :: ((L + 5, oD) :: (L + 6, oR) :: (L + 7, oN) :: (L + 8, oK) :: (L + 9, oT) :: (L + 10, oF) :: (L + 11, oP) :: (L + 12, oS) :: (L + 13, oL) :: (L + 14, oH) :: (ls, W.listOf #[.int n0 un0, .int n1 un1, .int n2 un2] ks) :: (ln, W.listOf #[.ref m0, .ref m1, .ref m2] kn) :: (m0, { cls := .type "tuple", data := .seq #[.str a0 ua0, .str b0 ub0] }) :: (m1, { cls := .type "tuple", data := .seq #[.str a1 ua1, .str b1 ub1] }) :: (m2, { cls := .type "tuple", data := .seq #[.str a2 ua2, .str b2 ub2] }) :: (lt, W.listOf #[.int (z0 : Int) ut0, .int (z1 : Int) ut1] kt) :: (ld, W.listOf #[.int d0 ud0, .int d1 ud1, .int d2 ud2] kd) :: (lx, W.listOf #[.int x0 ux0, .int x1 ux1, .int x2 ux2] kx) :: (lk, W.listOf #[.int c0 uc0, .int c1 uc1] kk) :: (lc, W.listOf (chs.map fun q => Value.ref q.a).toArray kc) :: news) : List (Addr × Obj)), p.1 < h1.objs.size := fun p hp => Heap.lt_size (N2 p hp).1
  have hI0 : h₀.get? h1.objs.size = none := next_is_new F2
  have hLI : L ≠ h1.objs.size := Nat.ne_of_lt F2.ns.lt
  have h10 : (L + 10 : Nat) < h1.objs.size := hlt (L + 10, oF) (by k_mem)
  have h11 : (L + 11 : Nat) < h1.objs.size := hlt (L + 11, oP) (by k_mem)
  have h12 : (L + 12 : Nat) < h1.objs.size := hlt (L + 12, oS) (by k_mem)
  have h13 : (L + 13 : Nat) < h1.objs.size := hlt (L + 13, oL) (by k_mem)
  have h14 : (L + 14 : Nat) < h1.objs.size := hlt (L + 14, oH) (by k_mem)
  have hc0 : h₀.get? (L + 10) = none := (N2 (L + 10, oF) (by k_mem)).2.2
  have up : ∀ b o, h1.get? b = some o → (h1.push { cls := .type "list_iterator", data := .fields #[.ref D, .int 0 0] }).get? b = some o := fun b o e => Heap.get?_push_of_some _ e
  generalize hIe : h1.objs.size = I at *
  refine wpAny_pyIter_list (N2.isList (.head _)) ?_
  rw [hIe]
  refine list_for_cell (c := L + 10) (ax := D) (its := (((selC chs c0).map fun q => Value.ref q.a)).toArray) (fun i h => ∃ st : StG10, st.W = W0 + (((selC chs c0).take i).map (detO x0 x1 x2 d0 d1 d2 z0 z1 chs c1)).sum ∧ st.oF.data = .cell st.vF ∧ st.oP.data = .cell st.vP ∧ st.oS.data = .cell st.vS ∧ st.oL.data = .cell st.vL ∧ st.oH.data = .cell st.vH ∧ Fr h₀ L h (fun y => if y = Str.ofString "told" then some (.int st.W st.t) else if y = Str.ofString "numbers" then some (.ref lx) else if y = Str.ofString "choices" then some (.ref lc) else st.m y) ∧ News h₀ L h ((D, LCg.lst ((selC chs c0).map fun q => Value.ref q.a)) :: ((L + 5, oD) :: (L + 6, oR) :: (L + 7, oN) :: (L + 8, oK) :: (L + 9, oT) :: (L + 10, st.oF) :: (L + 11, st.oP) :: (L + 12, st.oS) :: (L + 13, st.oL) :: (L + 14, st.oH) :: (ls, W.listOf #[.int n0 un0, .int n1 un1, .int n2 un2] ks) :: (ln, W.listOf #[.ref m0, .ref m1, .ref m2] kn) :: (m0, { cls := .type "tuple", data := .seq #[.str a0 ua0, .str b0 ub0] }) :: (m1, { cls := .type "tuple", data := .seq #[.str a1 ua1, .str b1 ub1] }) :: (m2, { cls := .type "tuple", data := .seq #[.str a2 ua2, .str b2 ub2] }) :: (lt, W.listOf #[.int (z0 : Int) ut0, .int (z1 : Int) ut1] kt) :: (ld, W.listOf #[.int d0 ud0, .int d1 ud1, .int d2 ud2] kd) :: (lx, W.listOf #[.int x0 ux0, .int x1 ux1, .int x2 ux2] kx) :: (lk, W.listOf #[.int c0 uc0, .int c1 uc1] kk) :: (lc, W.listOf (chs.map fun q => Value.ref q.a).toArray kc) :: news))) rfl rfl rfl rfl (Nat.ne_of_lt h10) ?aI ?st ?i0 ?stable ?cellAt ?listAt ?step ?fin
  case aI => exact Nat.ne_of_lt (hlt _ (.head _))
  case st => exact ⟨_, by rw [← hIe]; exact Heap.get?_push_size _ rfl, rfl, rfl⟩
  case i0 => exact ⟨⟨oF, oP, oS, oL, oH, vF, vP, vS, vL, vH, tW, _, W0⟩, by simp, hoF, hoP, hoS, hoL, hoH, Fr.keeps F2 up, N2.grown up⟩
  case stable =>
    rintro i h h' ⟨st, P⟩ hk
    have hW := P.1
    have d1' := P.2.1
    have d2' := P.2.2.1
    have d3' := P.2.2.2.1
    have d4' := P.2.2.2.2.1
    have d5' := P.2.2.2.2.2.1
    have F' := P.2.2.2.2.2.2.1
    have N' := P.2.2.2.2.2.2.2
    have hk' : ∀ b o, b ∉ [I] → h.get? b = some o → h'.get? b = some o := fun b o hb e => hk b o (by simpa using hb) e
    exact ⟨st, hW, d1', d2', d3', d4', d5', fr_but F' hk' hLI hI0, news_but N' hk' (off_by_map (l' := (D, LCg.lst ((selC chs c0).map fun q => Value.ref q.a)) :: ((L + 5, oD) :: (L + 6, oR) :: (L + 7, oN) :: (L + 8, oK) :: (L + 9, oT) :: (L + 10, oF) :: (L + 11, oP) :: (L + 12, oS) :: (L + 13, oL) :: (L + 14, oH) :: (ls, W.listOf #[.int n0 un0, .int n1 un1, .int n2 un2] ks) :: (ln, W.listOf #[.ref m0, .ref m1, .ref m2] kn) :: (m0, { cls := .type "tuple", data := .seq #[.str a0 ua0, .str b0 ub0] }) :: (m1, { cls := .type "tuple", data := .seq #[.str a1 ua1, .str b1 ub1] }) :: (m2, { cls := .type "tuple", data := .seq #[.str a2 ua2, .str b2 ub2] }) :: (lt, W.listOf #[.int (z0 : Int) ut0, .int (z1 : Int) ut1] kt) :: (ld, W.listOf #[.int d0 ud0, .int d1 ud1, .int d2 ud2] kd) :: (lx, W.listOf #[.int x0 ux0, .int x1 ux1, .int x2 ux2] kx) :: (lk, W.listOf #[.int c0 uc0, .int c1 uc1] kk) :: (lc, W.listOf (chs.map fun q => Value.ref q.a).toArray kc) :: news)) rfl fun p hp => Nat.ne_of_lt (hlt p hp))⟩
  case cellAt =>
    rintro i h ⟨st, P⟩
    have hW := P.1
    have d1' := P.2.1
    have d2' := P.2.2.1
    have d3' := P.2.2.2.1
    have d4' := P.2.2.2.2.1
    have d5' := P.2.2.2.2.2.1
    have F' := P.2.2.2.2.2.2.1
    have N' := P.2.2.2.2.2.2.2
    exact ⟨st.vF, st.oF, (N' (L + 10, st.oF) (by k_mem)).1, d1'⟩
  case listAt =>
    rintro i h ⟨st, P⟩
    have hW := P.1
    have d1' := P.2.1
    have d2' := P.2.2.1
    have d3' := P.2.2.2.1
    have d4' := P.2.2.2.2.1
    have d5' := P.2.2.2.2.2.1
    have F' := P.2.2.2.2.2.2.1
    have N' := P.2.2.2.2.2.2.2
    exact N'.isList (.head _)
  case fin =>
    rintro h tk ⟨st, P⟩
    have hW := P.1
    have d1' := P.2.1
    have d2' := P.2.2.1
    have d3' := P.2.2.2.1
    have d4' := P.2.2.2.2.1
    have d5' := P.2.2.2.2.2.1
    have F' := P.2.2.2.2.2.2.1
    have N' := P.2.2.2.2.2.2.2
    rw [List.size_toArray, List.length_map, List.take_length] at hW
    rw [hW] at F'
    exact hret st.oF st.oP st.oS st.oL st.oH st.vF st.vP st.vS st.vL st.vH st.t st.m h tk d1' d2' d3' d4' d5' F' (news_rest (pre := [_]) N')
  case step =>
    rintro i v h h₁ tk oI hv ⟨st, P⟩ hs ⟨oF2, hg2, d12⟩ hoI
    have hW := P.1
    have d1' := P.2.1
    have d2' := P.2.2.1
    have d3' := P.2.2.2.1
    have d4' := P.2.2.2.2.1
    have d5' := P.2.2.2.2.2.1
    have F' := P.2.2.2.2.2.2.1
    have N' := P.2.2.2.2.2.2.2
    obtain ⟨q, hqi, rfl⟩ := map_get hv
    have hqs : q ∈ selC chs c0 := List.mem_of_getElem? hqi
    have hq : q ∈ chs := (List.mem_filter.mp hqs).1
    have F'' := F'.change hs (show L + 10 ≠ L by exact Nat.ne_of_gt (Nat.lt_add_of_pos_right (by decide))) hc0
    have KP : ∀ l : List (Addr × Obj), (∀ p ∈ l, p ∈ ((D, LCg.lst ((selC chs c0).map fun q => Value.ref q.a)) :: ((L + 5, oD) :: (L + 6, oR) :: (L + 7, oN) :: (L + 8, oK) :: (L + 9, oT) :: (L + 10, st.oF) :: (L + 11, st.oP) :: (L + 12, st.oS) :: (L + 13, st.oL) :: (L + 14, st.oH) :: (ls, W.listOf #[.int n0 un0, .int n1 un1, .int n2 un2] ks) :: (ln, W.listOf #[.ref m0, .ref m1, .ref m2] kn) :: (m0, { cls := .type "tuple", data := .seq #[.str a0 ua0, .str b0 ub0] }) :: (m1, { cls := .type "tuple", data := .seq #[.str a1 ua1, .str b1 ub1] }) :: (m2, { cls := .type "tuple", data := .seq #[.str a2 ua2, .str b2 ub2] }) :: (lt, W.listOf #[.int (z0 : Int) ut0, .int (z1 : Int) ut1] kt) :: (ld, W.listOf #[.int d0 ud0, .int d1 ud1, .int d2 ud2] kd) :: (lx, W.listOf #[.int x0 ux0, .int x1 ux1, .int x2 ux2] kx) :: (lk, W.listOf #[.int c0 uc0, .int c1 uc1] kk) :: (lc, W.listOf (chs.map fun q => Value.ref q.a).toArray kc) :: news) : List (Addr × Obj)) ∧ p.1 ≠ L + 10) → News h₀ L h₁ l := fun l hl p hp => ⟨hs.extBut _ _ (hl p hp).2 (N' p (hl p hp).1).1, (N' p (hl p hp).1).2⟩
    have NR := KP ((D, LCg.lst ((selC chs c0).map fun q => Value.ref q.a)) :: (L + 5, oD) :: (L + 6, oR) :: (L + 7, oN) :: (L + 8, oK) :: (L + 9, oT) :: (L + 11, st.oP) :: (L + 12, st.oS) :: (L + 13, st.oL) :: (L + 14, st.oH) :: (ls, W.listOf #[.int n0 un0, .int n1 un1, .int n2 un2] ks) :: (ln, W.listOf #[.ref m0, .ref m1, .ref m2] kn) :: (m0, { cls := .type "tuple", data := .seq #[.str a0 ua0, .str b0 ub0] }) :: (m1, { cls := .type "tuple", data := .seq #[.str a1 ua1, .str b1 ub1] }) :: (m2, { cls := .type "tuple", data := .seq #[.str a2 ua2, .str b2 ub2] }) :: (lt, W.listOf #[.int (z0 : Int) ut0, .int (z1 : Int) ut1] kt) :: (ld, W.listOf #[.int d0 ud0, .int d1 ud1, .int d2 ud2] kd) :: (lx, W.listOf #[.int x0 ux0, .int x1 ux1, .int x2 ux2] kx) :: (lk, W.listOf #[.int c0 uc0, .int c1 uc1] kk) :: (lc, W.listOf (chs.map fun q => Value.ref q.a).toArray kc) :: news) (hs_cons (by k_mem) (Ne.symm hD10) (hs_cons (by k_mem) (by first | exact nAd (by decide) | omega) (hs_cons (by k_mem) (by first | exact nAd (by decide) | omega) (hs_cons (by k_mem) (by first | exact nAd (by decide) | omega) (hs_cons (by k_mem) (by first | exact nAd (by decide) | omega) (hs_cons (by k_mem) (by first | exact nAd (by decide) | omega) (hs_cons (by k_mem) (by first | exact nAd (by decide) | omega) (hs_cons (by k_mem) (by first | exact nAd (by decide) | omega) (hs_cons (by k_mem) (by first | exact nAd (by decide) | omega) (hs_cons (by k_mem) (by first | exact nAd (by decide) | omega) (fun p hp => ⟨List.Mem.tail _ (List.Mem.tail _ (List.Mem.tail _ (List.Mem.tail _ (List.Mem.tail _ (List.Mem.tail _ (List.Mem.tail _ (List.Mem.tail _ (List.Mem.tail _ (List.Mem.tail _ (List.Mem.tail _ (hp))))))))))), (hfar p hp).1⟩)))))))))))
    have hneL : @Ne Nat (L + 10) L := Nat.ne_of_gt (Nat.lt_add_of_pos_right (by decide))
    have NA : News h₀ L h₁ ((I, oI) :: (L + 10, oF2) :: (D, LCg.lst ((selC chs c0).map fun q => Value.ref q.a)) :: (L + 5, oD) :: (L + 6, oR) :: (L + 7, oN) :: (L + 8, oK) :: (L + 9, oT) :: (L + 11, st.oP) :: (L + 12, st.oS) :: (L + 13, st.oL) :: (L + 14, st.oH) :: (ls, W.listOf #[.int n0 un0, .int n1 un1, .int n2 un2] ks) :: (ln, W.listOf #[.ref m0, .ref m1, .ref m2] kn) :: (m0, { cls := .type "tuple", data := .seq #[.str a0 ua0, .str b0 ub0] }) :: (m1, { cls := .type "tuple", data := .seq #[.str a1 ua1, .str b1 ub1] }) :: (m2, { cls := .type "tuple", data := .seq #[.str a2 ua2, .str b2 ub2] }) :: (lt, W.listOf #[.int (z0 : Int) ut0, .int (z1 : Int) ut1] kt) :: (ld, W.listOf #[.int d0 ud0, .int d1 ud1, .int d2 ud2] kd) :: (lx, W.listOf #[.int x0 ux0, .int x1 ux1, .int x2 ux2] kx) :: (lk, W.listOf #[.int c0 uc0, .int c1 uc1] kk) :: (lc, W.listOf (chs.map fun q => Value.ref q.a).toArray kc) :: news) := fun p hp => by
      rcases List.mem_cons.mp hp with rfl | hp
      · exact ⟨hoI, Ne.symm hLI, hI0⟩
      · rcases List.mem_cons.mp hp with rfl | hp
        · exact ⟨hg2, hneL, hc0⟩
        · exact NR p hp
    clear NR KP N' F'
    have hqm : (q.a, W.listOf q.vs.toArray q.k) ∈ ((ls, W.listOf #[.int n0 un0, .int n1 un1, .int n2 un2] ks) :: (ln, W.listOf #[.ref m0, .ref m1, .ref m2] kn) :: (m0, { cls := .type "tuple", data := .seq #[.str a0 ua0, .str b0 ub0] }) :: (m1, { cls := .type "tuple", data := .seq #[.str a1 ua1, .str b1 ub1] }) :: (m2, { cls := .type "tuple", data := .seq #[.str a2 ua2, .str b2 ub2] }) :: (lt, W.listOf #[.int (z0 : Int) ut0, .int (z1 : Int) ut1] kt) :: (ld, W.listOf #[.int d0 ud0, .int d1 ud1, .int d2 ud2] kd) :: (lx, W.listOf #[.int x0 ux0, .int x1 ux1, .int x2 ux2] kx) :: (lk, W.listOf #[.int c0 uc0, .int c1 uc1] kk) :: (lc, W.listOf (chs.map fun q => Value.ref q.a).toArray kc) :: news) := List.Mem.tail _ (List.Mem.tail _ (List.Mem.tail _ (List.Mem.tail _ (List.Mem.tail _ (List.Mem.tail _ (List.Mem.tail _ (List.Mem.tail _ (List.Mem.tail _ (List.Mem.tail _ (hch q hq))))))))))
    have NB : News h₀ L h₁ ((L + 5, oD) :: (L + 6, oR) :: (L + 7, oN) :: (L + 8, oK) :: (L + 9, oT) :: (L + 10, oF2) :: (L + 11, st.oP) :: (L + 12, st.oS) :: (L + 13, st.oL) :: (L + 14, st.oH) :: (ls, W.listOf #[.int n0 un0, .int n1 un1, .int n2 un2] ks) :: (ln, W.listOf #[.ref m0, .ref m1, .ref m2] kn) :: (m0, { cls := .type "tuple", data := .seq #[.str a0 ua0, .str b0 ub0] }) :: (m1, { cls := .type "tuple", data := .seq #[.str a1 ua1, .str b1 ub1] }) :: (m2, { cls := .type "tuple", data := .seq #[.str a2 ua2, .str b2 ub2] }) :: (lt, W.listOf #[.int (z0 : Int) ut0, .int (z1 : Int) ut1] kt) :: (ld, W.listOf #[.int d0 ud0, .int d1 ud1, .int d2 ud2] kd) :: (lx, W.listOf #[.int x0 ux0, .int x1 ux1, .int x2 ux2] kx) :: (lk, W.listOf #[.int c0 uc0, .int c1 uc1] kk) :: (lc, W.listOf (chs.map fun q => Value.ref q.a).toArray kc) :: (q.a, W.listOf q.vs.toArray q.k) :: (I, oI) :: (D, LCg.lst ((selC chs c0).map fun q => Value.ref q.a)) :: news) := nM NA (by k_mem) (nM NA (by k_mem) (nM NA (by k_mem) (nM NA (by k_mem) (nM NA (by k_mem) (nM NA (by k_mem) (nM NA (by k_mem) (nM NA (by k_mem) (nM NA (by k_mem) (nM NA (by k_mem) (nM NA (by k_mem) (nM NA (by k_mem) (nM NA (by k_mem) (nM NA (by k_mem) (nM NA (by k_mem) (nM NA (by k_mem) (nM NA (by k_mem) (nM NA (by k_mem) (nM NA (by k_mem) (nM NA (by k_mem) (nM NA (List.Mem.tail _ (List.Mem.tail _ (List.Mem.tail _ (List.Mem.tail _ (List.Mem.tail _ (List.Mem.tail _ (List.Mem.tail _ (List.Mem.tail _ (List.Mem.tail _ (List.Mem.tail _ (List.Mem.tail _ (List.Mem.tail _ (hqm))))))))))))) (nM NA (by k_mem) (nM NA (by k_mem) (fun p hp => NA p (List.Mem.tail _ (List.Mem.tail _ (List.Mem.tail _ (List.Mem.tail _ (List.Mem.tail _ (List.Mem.tail _ (List.Mem.tail _ (List.Mem.tail _ (List.Mem.tail _ (List.Mem.tail _ (List.Mem.tail _ (List.Mem.tail _ (List.Mem.tail _ (List.Mem.tail _ (List.Mem.tail _ (List.Mem.tail _ (List.Mem.tail _ (List.Mem.tail _ (List.Mem.tail _ (List.Mem.tail _ (List.Mem.tail _ (List.Mem.tail _ (hp))))))))))))))))))))))))))))))))))))))))))))))
    show wpAny (model PP w) (ktrTop dp un gd lawN lawSc L 204 (.ref 203) (lawCl L) []) (execs lawFor (envX lawN lawSc L 204 (.ref 203) (lawCl L))) _ _ _
    with_reducible refine' outer_body hn0 hn1 hn2 hd0 hd1 hd2 hx0 hx1 hx2 hz0 hz1 ha0 ha1 ha2 hb0 hb1 hb2 (hok q hqs) hoD hoR hoN hoK hoT d12 d2' d3' d4' d5' ?ch hlen hsz ?far C XB TB B X T F'' NB hd hu ?_
    case ch => exact fun q hq => List.Mem.tail _ (List.Mem.tail _ (hch q hq))
    case far =>
      exact far_cons (P := fun a => a ≠ L + 10 ∧ a ≠ L + 11 ∧ a ≠ L + 12 ∧ a ≠ L + 13 ∧ a ≠ L + 14) (hfar _ (by k_mem)) (far_cons (P := fun a => a ≠ L + 10 ∧ a ≠ L + 11 ∧ a ≠ L + 12 ∧ a ≠ L + 13 ∧ a ≠ L + 14) (hfar _ (by k_mem)) (far_cons (P := fun a => a ≠ L + 10 ∧ a ≠ L + 11 ∧ a ≠ L + 12 ∧ a ≠ L + 13 ∧ a ≠ L + 14) (hfar _ (by k_mem)) (far_cons (P := fun a => a ≠ L + 10 ∧ a ≠ L + 11 ∧ a ≠ L + 12 ∧ a ≠ L + 13 ∧ a ≠ L + 14) (hfar _ (by k_mem)) (far_cons (P := fun a => a ≠ L + 10 ∧ a ≠ L + 11 ∧ a ≠ L + 12 ∧ a ≠ L + 13 ∧ a ≠ L + 14) (hfar _ (by k_mem)) (far_cons (P := fun a => a ≠ L + 10 ∧ a ≠ L + 11 ∧ a ≠ L + 12 ∧ a ≠ L + 13 ∧ a ≠ L + 14) (hfar _ (by k_mem)) (far_cons (P := fun a => a ≠ L + 10 ∧ a ≠ L + 11 ∧ a ≠ L + 12 ∧ a ≠ L + 13 ∧ a ≠ L + 14) (hfar _ (by k_mem)) (far_cons (P := fun a => a ≠ L + 10 ∧ a ≠ L + 11 ∧ a ≠ L + 12 ∧ a ≠ L + 13 ∧ a ≠ L + 14) (hfar _ (by k_mem)) (far_cons (P := fun a => a ≠ L + 10 ∧ a ≠ L + 11 ∧ a ≠ L + 12 ∧ a ≠ L + 13 ∧ a ≠ L + 14) (hfar _ (by k_mem)) (far_cons (P := fun a => a ≠ L + 10 ∧ a ≠ L + 11 ∧ a ≠ L + 12 ∧ a ≠ L + 13 ∧ a ≠ L + 14) (hfar _ (by k_mem)) (far_cons (P := fun a => a ≠ L + 10 ∧ a ≠ L + 11 ∧ a ≠ L + 12 ∧ a ≠ L + 13 ∧ a ≠ L + 14) (hfar _ hqm) (far_cons (P := fun a => a ≠ L + 10 ∧ a ≠ L + 11 ∧ a ≠ L + 12 ∧ a ≠ L + 13 ∧ a ≠ L + 14) ⟨Nat.ne_of_gt h10, Nat.ne_of_gt h11, Nat.ne_of_gt h12, Nat.ne_of_gt h13, Nat.ne_of_gt h14⟩ (far_cons (P := fun a => a ≠ L + 10 ∧ a ≠ L + 11 ∧ a ≠ L + 12 ∧ a ≠ L + 13 ∧ a ≠ L + 14) ⟨Ne.symm hD10, Ne.symm hD11, Ne.symm hD12, Ne.symm hD13, Ne.symm hD14⟩ fun p hp => hfar p (List.Mem.tail _ (List.Mem.tail _ (List.Mem.tail _ (List.Mem.tail _ (List.Mem.tail _ (List.Mem.tail _ (List.Mem.tail _ (List.Mem.tail _ (List.Mem.tail _ (List.Mem.tail _ (hp)))))))))))))))))))))))
    intro oP3 oS3 oL3 oH3 vP3 vS3 vL3 vH3 tW3 mr3 h3 tk3 e0 e1 e2 e3 F3 N3
    dsimp only
    refine ⟨h3, tk3, rfl, ⟨⟨oF2, oP3, oS3, oL3, oH3, _, vP3, vS3, vL3, vH3, tW3, mr3, _⟩, ?eq, d12, e0, e1, e2, e3, F3, ?N⟩, (N3 (I, oI) (by k_mem)).1⟩
    case eq => rw [hW, sum_take hqi, Int.add_assoc]; rfl
    case N => exact nM N3 (by k_mem) (nM N3 (by k_mem) (nM N3 (by k_mem) (nM N3 (by k_mem) (nM N3 (by k_mem) (nM N3 (by k_mem) (nM N3 (by k_mem) (nM N3 (by k_mem) (nM N3 (by k_mem) (nM N3 (by k_mem) (nM N3 (by k_mem) (nM N3 (by k_mem) (nM N3 (by k_mem) (nM N3 (by k_mem) (nM N3 (by k_mem) (nM N3 (by k_mem) (nM N3 (by k_mem) (nM N3 (by k_mem) (nM N3 (by k_mem) (nM N3 (by k_mem) (nM N3 (by k_mem) (fun p hp => N3 p (List.Mem.tail _ (List.Mem.tail _ (List.Mem.tail _ (List.Mem.tail _ (List.Mem.tail _ (List.Mem.tail _ (List.Mem.tail _ (List.Mem.tail _ (List.Mem.tail _ (List.Mem.tail _ (List.Mem.tail _ (List.Mem.tail _ (List.Mem.tail _ (List.Mem.tail _ (List.Mem.tail _ (List.Mem.tail _ (List.Mem.tail _ (List.Mem.tail _ (List.Mem.tail _ (List.Mem.tail _ (List.Mem.tail _ (List.Mem.tail _ (List.Mem.tail _ (hp)))))))))))))))))))))))))))))))))))))))))))))
end
end MyLaw
end
end
section
open PySem PySem.Spec PySem.Calls PySem.W PySem.W.X PyProof.Rows
noncomputable section
namespace MyLaw
open LCg
theorem rest3L {prog : Program} {w : World} {A : Around} {h₀ : Heap} {L : Addr} {m : Str → Option Value} {env : Env} {elt : PySem.Expr} {x : Str} {scope : Scope} {cl : List (Str × Addr)} {s : Shared} {S : List (Addr × Obj) → Prop} {Fin : List Value → List (Addr × Obj) → Prop} {news : List (Addr × Obj)} {v0 v1 v2 : Value} (R : Nat → Value → Prop) (hS : S news)
    (turn : ∀ (j : Nat) v I oI C oC D m₂ ys h tk (E' : Value → Shared → Prop), (#[v0, v1, v2] : Array Value)[j]? = some v → NsObj oC m₂ → m₂ x = some v → Fr h₀ L h m → News h₀ L h ((I, oI) :: (C, oC) :: (D, lst ys) :: news) → Off3 I C D news → ((@Ne Nat I C) ∧ (@Ne Nat I D) ∧ (@Ne Nat C D)) →
      wpAny (model prog w) A (eval elt (compEnvC scope cl C env)) (TurnEnd h₀ L m s ((I, oI) :: (C, oC) :: (D, lst ys) :: news) (R j)) E' { s with heap := h, toks := tk })
    (fin : ∀ y0 y1 y2, R 0 y0 → R 1 y1 → R 2 y2 → Fin [y0, y1, y2] news) :
    CompRest prog w A h₀ L m env elt x scope cl s S (fun i v => (#[v0, v1, v2] : Array Value)[i]? = some v) Fin 3 0 [] news := by
  have step : ∀ (k i : Nat) ys, (∀ y, R i y → CompRest prog w A h₀ L m env elt x scope cl s S (fun i v => (#[v0, v1, v2] : Array Value)[i]? = some v) Fin k (i + 1) (ys ++ [y]) news) →
      CompRest prog w A h₀ L m env elt x scope cl s S (fun i v => (#[v0, v1, v2] : Array Value)[i]? = some v) Fin (k + 1) i ys news := by
    intro k i ys next
    refine CompRest.succ ?_
    intro v I oI C oC D m₂ h tk E' hv hC hx F N off ne
    refine wpAny_mono (turn i v I oI C oC D m₂ ys h tk E' hv hC hx F N off ne) (fun y s₂ hy => ?_) fun _ _ e => e
    obtain ⟨h', tk', rfl, F', N', hR⟩ := hy
    exact ⟨h', tk', news, rfl, F', N', off, hS, next y hR⟩
  exact step 2 0 [] fun y0 h0 => step 1 1 _ fun y1 h1 => step 0 2 _ fun y2 h2 => CompRest.zero (fin y0 y1 y2 h0 h1 h2)
def lawRows : PySem.Expr := match q26.1.2.1[13]? with
  | some (Stmt.Assign _ e _) => e
  | _ => .Constant .none 0 default
def lawRow : PySem.Expr := match lawRows with
  | .ListComp e _ _ _ => e
  | _ => .Constant .none 0 default
def lawRowSc : Scope := match lawRows with
  | .ListComp _ _ sc _ => sc
  | _ => default
theorem off1_three {D : Addr} {a b c : Addr × Obj} {l : List (Addr × Obj)} (h : Off1 D (a :: b :: c :: l)) : Off1 D l := h.2.2.2
section
variable {w : World} {mean : ExcName → Option Value} {mg mb : Str → Option Value} {news : List (Addr × Obj)} {dp un : Nat} {gd : Option (List Code)} {A₀ : Around} {base h₀ : Heap} {L : Addr} {mr : Str → Option Value} {s : Shared} {Q : Value → Shared → Prop} {E : Value → Shared → Prop}
theorem row_use {ld c C1 : Addr} {kd : Nat} {oD oc : Obj} {d0 d1 d2 x : Int} {ud0 ud1 ud2 tx : Tok} (hd0 : 1 ≤ d0 ∧ d0 ≤ 5) (hd1 : 1 ≤ d1 ∧ d1 ≤ 5) (hd2 : 1 ≤ d2 ∧ d2 ≤ 5) (hx0 : -1000 ≤ x ∧ x ≤ 1000)
    (hoD : oD.data = .cell (some (.ref ld))) (hoc : oc.data = .cell (some (.int x tx)))
    (B : Below A₀ base [] h₀) (X : (KK w.params).In h₀) (T : Top VV (looseW VV LO) mean mg mb h₀) (F : Fr h₀ L s.heap mr)
    (N : News h₀ L s.heap ((L + 5, oD) :: (ld, W.listOf #[.int d0 ud0, .int d1 ud1, .int d2 ud2] kd) :: (c, oc) :: news)) (hd : dp + 3 < recursionLimit) (hu : un + 30 < cLine)
    (hret : ∀ D y0 y1 y2 h' tk', (∃ t, y0 = .int (x ^ d0.toNat) t) → (∃ t, y1 = .int (x ^ d1.toNat) t) → (∃ t, y2 = .int (x ^ d2.toNat) t) → Fr h₀ L h' mr → News h₀ L h' ((D, LCg.lst [y0, y1, y2]) :: ((L + 5, oD) :: (ld, W.listOf #[.int d0 ud0, .int d1 ud1, .int d2 ud2] kd) :: (c, oc) :: news)) → LCg.Off1 D ((L + 5, oD) :: (ld, W.listOf #[.int d0 ud0, .int d1 ud1, .int d2 ud2] kd) :: (c, oc) :: news) → Q (.ref D) { s with heap := h', toks := tk' }) :
    wpAny (model PP w) (ktrTop dp un gd lawN lawSc L 204 (.ref 203) (lawCl L) []) (eval lawRow (compEnvC lawRowSc ((Str.ofString "number", c) :: [(Str.ofString "dots", L + 5)]) C1 (envX lawN lawSc L 204 (.ref 203) (lawCl L)))) Q E s := by
  show wpAny _ _ (eval (PySem.Expr.ListComp _ _ _ _) _) _ _ _
  (try k_fold)
  k_dflt (refine LCg.ListComp_U F (by with_unfolding_all rfl) (by decide) (by rfl) (by decide) (by rfl) ?_ (by intro _; rfl))
  walk1
  k_dflt (refine LCg.CompSrc.ledger (by rfl) (by k_asm) (by k_asm) (by k_mem) (Nat.le_of_ble_eq_true rfl) ?_)
  intro g0
  refine rest3L (fun j y => ∃ t, y = .int (x ^ (([d0, d1, d2] : List Int).getD j 0).toNat) t) ?hS ?turn ?fin
  case hS => exact .inr ⟨_, by k_mem, rfl, _, rfl⟩
  case fin =>
    rintro y0 y1 y2 h0 h1 h2 D h' tk' F' N' o1
    exact hret D y0 y1 y2 h' tk' h0 h1 h2 F' N' o1
  case turn =>
    intro j v I' oI' C' oC' D' m' ys' h' tk' E' hv hC' hx' F' N' off' ne'
    clear hret
    simp only [LCg.Off3, and_true] at off'
    have hj : j < 3 := (Array.getElem?_eq_some_iff.mp hv).1
    have hj3 : j = 0 ∨ j = 1 ∨ j = 2 := by omega
    rcases hj3 with rfl | rfl | rfl
    · have e : Value.int d0 ud0 = v := Option.some.inj hv
      subst e
      k_steps
      exact TurnEnd.intro (by k_asm) (by assumption) (fun p hp => hp) ⟨_, rfl⟩
    · have e : Value.int d1 ud1 = v := Option.some.inj hv
      subst e
      k_steps
      exact TurnEnd.intro (by k_asm) (by assumption) (fun p hp => hp) ⟨_, rfl⟩
    · have e : Value.int d2 ud2 = v := Option.some.inj hv
      subst e
      k_steps
      exact TurnEnd.intro (by k_asm) (by assumption) (fun p hp => hp) ⟨_, rfl⟩
theorem rows3_use {ld lx : Addr} {kd kx : Nat} {oD : Obj} {d0 d1 d2 x0 x1 x2 : Int} {ud0 ud1 ud2 ux0 ux1 ux2 : Tok} (hd0 : 1 ≤ d0 ∧ d0 ≤ 5) (hd1 : 1 ≤ d1 ∧ d1 ≤ 5) (hd2 : 1 ≤ d2 ∧ d2 ≤ 5) (hx0 : -1000 ≤ x0 ∧ x0 ≤ 1000) (hx1 : -1000 ≤ x1 ∧ x1 ≤ 1000) (hx2 : -1000 ≤ x2 ∧ x2 ≤ 1000)
    (hoD : oD.data = .cell (some (.ref ld)))
    (B : Below A₀ base [] h₀) (X : (KK w.params).In h₀) (T : Top VV (looseW VV LO) mean mg mb h₀) (F : Fr h₀ L s.heap (fun y => if y = Str.ofString "numbers" then some (.ref lx) else mr y))
    (N : News h₀ L s.heap ((L + 5, oD) :: (ld, W.listOf #[.int d0 ud0, .int d1 ud1, .int d2 ud2] kd) :: (lx, W.listOf #[.int x0 ux0, .int x1 ux1, .int x2 ux2] kx) :: news)) (hd : dp + 3 < recursionLimit) (hu : un + 30 < cLine)
    (hret : ∀ D D0 D1 D2 k t00 t01 t02 t10 t11 t12 t20 t21 t22 h' tk', Fr h₀ L h' (fun y => if y = Str.ofString "numbers" then some (.ref lx) else mr y) → News h₀ L h' ((D, W.listOf #[.ref D0, .ref D1, .ref D2] k) :: (D2, W.listOf #[.int (x2 ^ d0.toNat) t20, .int (x2 ^ d1.toNat) t21, .int (x2 ^ d2.toNat) t22] 3) :: (D1, W.listOf #[.int (x1 ^ d0.toNat) t10, .int (x1 ^ d1.toNat) t11, .int (x1 ^ d2.toNat) t12] 3) :: (D0, W.listOf #[.int (x0 ^ d0.toNat) t00, .int (x0 ^ d1.toNat) t01, .int (x0 ^ d2.toNat) t02] 3) :: ((L + 5, oD) :: (ld, W.listOf #[.int d0 ud0, .int d1 ud1, .int d2 ud2] kd) :: (lx, W.listOf #[.int x0 ux0, .int x1 ux1, .int x2 ux2] kx) :: news)) → Q (.ref D) { s with heap := h', toks := tk' }) :
    wpAny (model PP w) (ktrTop dp un gd lawN lawSc L 204 (.ref 203) (lawCl L) []) (eval lawRows (envX lawN lawSc L 204 (.ref 203) (lawCl L))) Q E s := by
  show wpAny _ _ (eval (PySem.Expr.ListComp _ _ _ _) _) _ _ _
  (try k_fold)
  k_dflt (refine ListComp_UC F (by with_unfolding_all rfl) (fun _ => rfl) (fun _ => rfl) rfl (by decide) (fun _ _ => rfl) ?_ (by intro _; rfl))
  walk1
  refine CompSrcC.ledger (by rfl) (by k_asm) (by k_asm) (by k_mem) (Nat.le_of_ble_eq_true rfl) ?_
  intro g0
  intro v I' oI' C' oC' Dd m' c' oc' h' tk' E' hv hC' hcc' F' N' off' ne' offc'
  have e : Value.int x0 ux0 = v := Option.some.inj hv
  subst e
  have NX := nM (p := (L + 5, oD)) N' (by k_mem) (nM (p := (ld, W.listOf #[.int d0 ud0, .int d1 ud1, .int d2 ud2] kd)) N' (by k_mem) (nM (p := (c', oc')) N' (by k_mem) N'))
  show wpAny (model PP w) (ktrTop dp un gd lawN lawSc L 204 (.ref 203) (lawCl L) []) (eval lawRow (compEnvC lawRowSc ((Str.ofString "number", c') :: [(Str.ofString "dots", L + 5)]) C' (envX lawN lawSc L 204 (.ref 203) (lawCl L)))) _ _ _
  with_reducible refine' row_use hd0 hd1 hd2 hx0 hoD hcc' B X T F' NX hd hu ?_
  rintro D0 y0 y1 y2 h0 tk0 ⟨t00, rfl⟩ ⟨t01, rfl⟩ ⟨t02, rfl⟩ F0 N0 o0
  have o0' := off1_three o0
  refine restC_end F0 (news_tail (pre := [_, _, _]) N0) o0' off' offc' (.inr ⟨_, by k_mem, rfl, _, rfl⟩) ?_
  clear NX N' F' F0 N0 o0 off' offc' hC' hcc' ne' hv
  intro v I' oI' C' oC' Dd m' c' oc' h' tk' E' hv hC' hcc' F' N' off' ne' offc'
  have e : Value.int x1 ux1 = v := Option.some.inj hv
  subst e
  have NX := nM (p := (L + 5, oD)) N' (by k_mem) (nM (p := (ld, W.listOf #[.int d0 ud0, .int d1 ud1, .int d2 ud2] kd)) N' (by k_mem) (nM (p := (c', oc')) N' (by k_mem) N'))
  show wpAny (model PP w) (ktrTop dp un gd lawN lawSc L 204 (.ref 203) (lawCl L) []) (eval lawRow (compEnvC lawRowSc ((Str.ofString "number", c') :: [(Str.ofString "dots", L + 5)]) C' (envX lawN lawSc L 204 (.ref 203) (lawCl L)))) _ _ _
  with_reducible refine' row_use hd0 hd1 hd2 hx1 hoD hcc' B X T F' NX hd hu ?_
  rintro D1 y0 y1 y2 h1 tk1 ⟨t10, rfl⟩ ⟨t11, rfl⟩ ⟨t12, rfl⟩ F1 N1 o1
  have o1' := off1_three o1
  refine restC_end F1 (news_tail (pre := [_, _, _]) N1) o1' off' offc' (.inr ⟨_, by k_mem, rfl, _, rfl⟩) ?_
  clear NX N' F' F1 N1 o1 off' offc' hC' hcc' ne' hv
  intro v I' oI' C' oC' Dd m' c' oc' h' tk' E' hv hC' hcc' F' N' off' ne' offc'
  have e : Value.int x2 ux2 = v := Option.some.inj hv
  subst e
  have NX := nM (p := (L + 5, oD)) N' (by k_mem) (nM (p := (ld, W.listOf #[.int d0 ud0, .int d1 ud1, .int d2 ud2] kd)) N' (by k_mem) (nM (p := (c', oc')) N' (by k_mem) N'))
  show wpAny (model PP w) (ktrTop dp un gd lawN lawSc L 204 (.ref 203) (lawCl L) []) (eval lawRow (compEnvC lawRowSc ((Str.ofString "number", c') :: [(Str.ofString "dots", L + 5)]) C' (envX lawN lawSc L 204 (.ref 203) (lawCl L)))) _ _ _
  with_reducible refine' row_use hd0 hd1 hd2 hx2 hoD hcc' B X T F' NX hd hu ?_
  rintro D2 y0 y1 y2 h2 tk2 ⟨t20, rfl⟩ ⟨t21, rfl⟩ ⟨t22, rfl⟩ F2 N2 o2
  have o2' := off1_three o2
  refine restC_end F2 (news_tail (pre := [_, _, _]) N2) o2' off' offc' (.inr ⟨_, by k_mem, rfl, _, rfl⟩) ?_
  clear NX N' F' F2 N2 o2 off' offc' hC' hcc' ne' hv
  refine restC_zero ?_
  intro D h' tk' F' N' o1
  exact hret D D0 D1 D2 _ _ _ _ _ _ _ _ _ _ h' tk' F' N'
end
end MyLaw
end
end
section
open PySem PySem.Spec PySem.Calls PySem.W PySem.W.X PyProof.Rows
noncomputable section
namespace MyLaw
open LCg
theorem pow_bits5 {x d : Int} (hx : -1000 ≤ x ∧ x ≤ 1000) (hd : 1 ≤ d ∧ d ≤ 5) : Builtin.Int.intBits (x ^ d.toNat) ≤ 400 := by
  have h1 : Builtin.Int.intBits x ≤ 64 := PySem.intBits_le_64 (by omega) (by omega)
  refine Nat.le_trans (intBits_pow_le h1 _) ?_
  omega
theorem facC_bits {x0 x1 x2 c t : Int} (hx0 : -1000 ≤ x0 ∧ x0 ≤ 1000) (hx1 : -1000 ≤ x1 ∧ x1 ≤ 1000) (hx2 : -1000 ≤ x2 ∧ x2 ≤ 1000) (ht : 1 ≤ t ∧ t ≤ 2) : Builtin.Int.intBits (facC x0 x1 x2 c t) ≤ 400 := by
  have a := pow_small hx0 ht
  have b := pow_small hx1 ht
  have d := pow_small hx2 ht
  unfold facC
  split
  · exact Nat.le_trans (bits_add (bits_add a b) d) (by decide)
  split
  · exact Nat.le_trans (bits_add (bits_add (bits_mul a b) (bits_mul a d)) (bits_mul b d)) (by decide)
  · exact Nat.le_trans (bits_mul (bits_mul a b) d) (by decide)
def dueV (x0 x1 x2 d0 d1 d2 : Int) : Int :=
  x0 ^ d0.toNat * (x1 ^ d1.toNat * x2 ^ d2.toNat - x1 ^ d2.toNat * x2 ^ d1.toNat) - x0 ^ d1.toNat * (x1 ^ d0.toNat * x2 ^ d2.toNat - x1 ^ d2.toNat * x2 ^ d0.toNat)
    + x0 ^ d2.toNat * (x1 ^ d0.toNat * x2 ^ d1.toNat - x1 ^ d1.toNat * x2 ^ d0.toNat)
theorem mulOk2 {a b : Int} (ha : Builtin.Int.intBits a ≤ 400) (hb : Builtin.Int.intBits b ≤ 400) : IntMulOk a b := mulOk_of_bits ha hb (by decide)
theorem mulOk3 {a p q r t : Int} (ha : Builtin.Int.intBits a ≤ 400) (hp : Builtin.Int.intBits p ≤ 400) (hq : Builtin.Int.intBits q ≤ 400) (hr : Builtin.Int.intBits r ≤ 400) (ht : Builtin.Int.intBits t ≤ 400) : IntMulOk a (p * q - r * t) :=
  mulOk_of_bits ha (bits_sub (bits_mul hp hq) (bits_mul hr ht)) (by decide)
theorem mulOkD {a b : Int} (ha : Builtin.Int.intBits a ≤ 4000) (hb : Builtin.Int.intBits b ≤ 400) : IntMulOk a b := mulOk_of_bits ha hb (by decide)
theorem mulOkD2 {a b c : Int} (ha : Builtin.Int.intBits a ≤ 4000) (hb : Builtin.Int.intBits b ≤ 400) (hc : Builtin.Int.intBits c ≤ 400) : IntMulOk (a * b) c := mulOk_of_bits (bits_mul ha hb) hc (by decide)
theorem due_map {h₀ h : Heap} {L : Addr} {mr : Str → Option Value} {a b d e f : Option Value} {v : Value}
    (F : Fr h₀ L h (fun y => if y = Str.ofString "due" then some v else if y = Str.ofString "due" then a else if y = Str.ofString "due" then b else if y = Str.ofString "three" then d else if y = Str.ofString "two" then e else if y = Str.ofString "one" then f else mr y)) :
    Fr h₀ L h (fun y => if y = Str.ofString "due" then some v else (fun y : Str => if y = Str.ofString "three" then d else if y = Str.ofString "two" then e else if y = Str.ofString "one" then f else mr y) y) := by
  have e : (fun y => if y = Str.ofString "due" then some v else if y = Str.ofString "due" then a else if y = Str.ofString "due" then b else if y = Str.ofString "three" then d else if y = Str.ofString "two" then e else if y = Str.ofString "one" then f else mr y) = (fun y => if y = Str.ofString "due" then some v else (fun y : Str => if y = Str.ofString "three" then d else if y = Str.ofString "two" then e else if y = Str.ofString "one" then f else mr y) y) := by
    funext y
    by_cases h : y = Str.ofString "due"
    · simp only [h, if_true]
    · simp only [h, if_false]
  exact e ▸ F
theorem item_lit {prog : Program} {w : World} {A : Around} {E : Value → Shared → Prop} {s : Shared} {h₀ : Heap} {L : Addr} {news : List (Addr × Obj)} {value slice : PySem.Expr} {l : Addr} {its : List Value} {n : Nat} {k : Int} {u : Tok} {v : Value} {Q : Value → Shared → Prop}
    (N : News h₀ L s.heap news) (hm : (l, W.listOf its.toArray n) ∈ news) (h0 : 0 ≤ k) (hhi : k < 2 ^ 63) (hx : its[k.toNat]? = some v) (h : Q v s)
    (hs : subscripted slice false (.ref l) (.int k u) = operate [.ref l, .int k u] (getItem (.ref l) (.int k u))) :
    wpAny (model prog w) A (subscriptTail value slice (.ref l) (.int k u)) Q E s :=
  tail_any (N.isList hm).typeIs slot_list_getitem.lookup (wpAny_getItem_list (N.isList hm) h0 hhi (by simpa using hx) h) hs
section
variable {w : World} {mean : ExcName → Option Value} {mg mb : Str → Option Value} {news : List (Addr × Obj)} {dp un : Nat} {gd : Option (List Code)} {A₀ : Around} {base h₀ : Heap} {L : Addr} {mr : Str → Option Value} {s : Shared} {Q : Flow → Shared → Prop} {E : Value → Shared → Prop}
local macro_rules | `(tactic| mul_fits) => `(tactic| first | exact mulOk2 (by with_reducible assumption) (by with_reducible assumption) | exact mulOk3 (by with_reducible assumption) (by with_reducible assumption) (by with_reducible assumption) (by with_reducible assumption) (by with_reducible assumption))
local macro_rules | `(tactic| passes_own) => `(tactic| assumption)
theorem suffix_due {D0 D1 D2 : Addr} {d0 d1 d2 x0 x1 x2 : Int} {t00 t01 t02 t10 t11 t12 t20 t21 t22 : Tok}
    (hd0 : 1 ≤ d0 ∧ d0 ≤ 5) (hd1 : 1 ≤ d1 ∧ d1 ≤ 5) (hd2 : 1 ≤ d2 ∧ d2 ≤ 5) (hx0 : -1000 ≤ x0 ∧ x0 ≤ 1000) (hx1 : -1000 ≤ x1 ∧ x1 ≤ 1000) (hx2 : -1000 ≤ x2 ∧ x2 ≤ 1000)
    (B : Below A₀ base [] h₀) (X : (KK w.params).In h₀) (T : Top VV (looseW VV LO) mean mg mb h₀) (F : Fr h₀ L s.heap (fun y => if y = Str.ofString "three" then some (.ref D2) else if y = Str.ofString "two" then some (.ref D1) else if y = Str.ofString "one" then some (.ref D0) else mr y))
    (N : News h₀ L s.heap ((D2, W.listOf #[.int (x2 ^ d0.toNat) t20, .int (x2 ^ d1.toNat) t21, .int (x2 ^ d2.toNat) t22] 3) :: (D1, W.listOf #[.int (x1 ^ d0.toNat) t10, .int (x1 ^ d1.toNat) t11, .int (x1 ^ d2.toNat) t12] 3) :: (D0, W.listOf #[.int (x0 ^ d0.toNat) t00, .int (x0 ^ d1.toNat) t01, .int (x0 ^ d2.toNat) t02] 3) :: news)) (hd : dp + 6 < recursionLimit) (hu : un + 60 < cLine)
    (hret : ∀ t h' tk', Fr h₀ L h' (fun y => if y = Str.ofString "due" then some (.int (dueV x0 x1 x2 d0 d1 d2) t) else (fun y : Str => if y = Str.ofString "three" then some (.ref D2) else if y = Str.ofString "two" then some (.ref D1) else if y = Str.ofString "one" then some (.ref D0) else mr y) y) → News h₀ L h' news → wpAny (model PP w) (ktrTop dp un gd lawN lawSc L 204 (.ref 203) (lawCl L) []) (execs (q26.1.2.1.drop 16) (envX lawN lawSc L 204 (.ref 203) (lawCl L))) Q E { s with heap := h', toks := tk' }) :
    wpAny (model PP w) (ktrTop dp un gd lawN lawSc L 204 (.ref 203) (lawCl L) []) (execs (q26.1.2.1.drop 14) (envX lawN lawSc L 204 (.ref 203) (lawCl L))) Q E s := by
  have hb00 := pow_bits5 hx0 hd0
  have hb01 := pow_bits5 hx0 hd1
  have hb02 := pow_bits5 hx0 hd2
  have hb10 := pow_bits5 hx1 hd0
  have hb11 := pow_bits5 hx1 hd1
  have hb12 := pow_bits5 hx1 hd2
  have hb20 := pow_bits5 hx2 hd0
  have hb21 := pow_bits5 hx2 hd1
  have hb22 := pow_bits5 hx2 hd2
  iterate 61 (first | ((fail_if_success (with_reducible show wpAny _ _ _ _ _ _)); (refine UnrEnd.intro (by assumption) (by assumption) _ (fun p hp => hp) (by first | exact allLt_off (by assumption) | exact lt_off (by assumption)) ?_)) | ((with_reducible show wpAny _ _ (subscriptTail (PySem.Expr.Name _ _) _ (Value.ref _) (Value.int _ _)) _ _ _); (k_here; k_dflt (refine' item_lit ?N ?m ?a ?b ?x ?_ ?hs; (case N => k_asm); (case m => k_mem); (case a => decide); (case b => decide); (case x => rfl); (case hs => with_unfolding_all rfl)))) | walk1)
  dsimp only
  iterate 35 (first | ((fail_if_success (with_reducible show wpAny _ _ _ _ _ _)); (refine UnrEnd.intro (by assumption) (by assumption) _ (fun p hp => hp) (by first | exact allLt_off (by assumption) | exact lt_off (by assumption)) ?_)) | ((with_reducible show wpAny _ _ (subscriptTail (PySem.Expr.Name _ _) _ (Value.ref _) (Value.int _ _)) _ _ _); (k_here; k_dflt (refine' item_lit ?N ?m ?a ?b ?x ?_ ?hs; (case N => k_asm); (case m => k_mem); (case a => decide); (case b => decide); (case x => rfl); (case hs => with_unfolding_all rfl)))) | walk1)
  dsimp only
  rename Fr _ _ _ (fun _ => _) => Fz
  rename News _ _ _ _ => Nz
  show wpAny (model PP w) (ktrTop dp un gd lawN lawSc L 204 (.ref 203) (lawCl L) []) (execs (q26.1.2.1.drop 16) (envX lawN lawSc L 204 (.ref 203) (lawCl L))) _ _ _
  exact hret _ _ _ (due_map (frC Fz (x := Str.ofString "due") rfl)) (news_rest (pre := [_, _, _]) Nz)
local macro_rules | `(tactic| mul_fits) => `(tactic| first | exact mulOkD (by with_reducible assumption) (by with_reducible assumption) | exact mulOkD2 (by with_reducible assumption) (by with_reducible assumption) (by with_reducible assumption))
theorem suffix_end {lx lk lt : Addr} {kx kk kt : Nat} {oK oT : Obj} {x0 x1 x2 c0 c1 W0 V0 : Int} {z0 z1 : Nat} {ux0 ux1 ux2 uc0 uc1 ut0 ut1 tW tV : Tok}
    (hx0 : -1000 ≤ x0 ∧ x0 ≤ 1000) (hx1 : -1000 ≤ x1 ∧ x1 ≤ 1000) (hx2 : -1000 ≤ x2 ∧ x2 ≤ 1000) (hc0 : 1 ≤ c0 ∧ c0 ≤ 3) (hc1 : 1 ≤ c1 ∧ c1 ≤ 3) (hz0 : 1 ≤ (z0 : Int) ∧ (z0 : Int) ≤ 2) (hz1 : 1 ≤ (z1 : Int) ∧ (z1 : Int) ≤ 2)
    (hV : Builtin.Int.intBits V0 ≤ 4000) (hW : W0 = V0 * facC x0 x1 x2 c0 z0 * facC x0 x1 x2 c1 z1)
    (hoK : oK.data = .cell (some (.ref lk))) (hoT : oT.data = .cell (some (.ref lt)))
    (B : Below A₀ base [] h₀) (X : (KK w.params).In h₀) (T : Top VV (looseW VV LO) mean mg mb h₀) (F : Fr h₀ L s.heap (fun y => if y = Str.ofString "due" then some (.int V0 tV) else if y = Str.ofString "told" then some (.int W0 tW) else if y = Str.ofString "numbers" then some (.ref lx) else mr y))
    (N : News h₀ L s.heap ((L + 8, oK) :: (L + 9, oT) :: (lx, W.listOf #[.int x0 ux0, .int x1 ux1, .int x2 ux2] kx) :: (lk, W.listOf #[.int c0 uc0, .int c1 uc1] kk) :: (lt, W.listOf #[.int (z0 : Int) ut0, .int (z1 : Int) ut1] kt) :: news)) (hd : dp + 8 < recursionLimit) (hu : un + 80 < cLine)
    (hE : PassesOwn (model PP w) (ktrTop dp un gd lawN lawSc L 204 (.ref 203) (lawCl L) []) (envX lawN lawSc L 204 (.ref 203) (lawCl L)) E)
    (hret : ∀ m' h' tk', Fr h₀ L h' m' → News h₀ L h' news → Q (.ret (.bool true)) { s with heap := h', toks := tk' }) :
    wpAny (model PP w) (ktrTop dp un gd lawN lawSc L 204 (.ref 203) (lawCl L) []) (execs (q26.1.2.1.drop 16) (envX lawN lawSc L 204 (.ref 203) (lawCl L))) Q E s := by
  have hf0 := facC_bits hx0 hx1 hx2 (c := c0) hz0
  have hf1 := facC_bits hx0 hx1 hx2 (c := c1) hz1
  repeat' (first | ((fail_if_success (with_reducible show wpAny _ _ _ _ _ _)); (refine UnrEnd.intro (by assumption) (by assumption) _ (fun p hp => hp) (by first | exact allLt_off (by assumption) | exact lt_off (by assumption)) ?_)) | ((with_reducible show wpAny _ _ (subscriptTail (PySem.Expr.Name _ _) _ (Value.ref _) (Value.int _ _)) _ _ _); (k_here; k_dflt (refine' item_lit ?N ?m ?a ?b ?x ?_ ?hs; (case N => k_asm); (case m => k_mem); (case a => decide); (case b => decide); (case x => rfl); (case hs => with_unfolding_all rfl)))) | (k_unfold; (try dsimp only)) | (k_end; wrow_close) | walk1 | (dsimp only) | (leave1; (try dsimp only)))
  show wpAny (model PP w) (ktrTop dp un gd lawN lawSc L 204 (.ref 203) (lawCl L) []) (call (.ref 199) [.ref lx, .int c0 _, .int (z0 : Int) _]) _ _ _
  with_reducible refine' fac_use hx0 hx1 hx2 hc0 hz0 ?kl B ?F X ?N T rfl ?hd ?hu ?_
  case F => k_asm
  case N => k_asm
  case kl => k_mem
  case hd => exact room_le hd (by decide)
  case hu => exact room_le hu (by decide)
  intro t9 h9 tk9 F9 N9
  (try dsimp only)
  repeat' (first | ((fail_if_success (with_reducible show wpAny _ _ _ _ _ _)); (refine UnrEnd.intro (by assumption) (by assumption) _ (fun p hp => hp) (by first | exact allLt_off (by assumption) | exact lt_off (by assumption)) ?_)) | ((with_reducible show wpAny _ _ (subscriptTail (PySem.Expr.Name _ _) _ (Value.ref _) (Value.int _ _)) _ _ _); (k_here; k_dflt (refine' item_lit ?N ?m ?a ?b ?x ?_ ?hs; (case N => k_asm); (case m => k_mem); (case a => decide); (case b => decide); (case x => rfl); (case hs => with_unfolding_all rfl)))) | (k_unfold; (try dsimp only)) | (k_end; wrow_close) | walk1 | (dsimp only) | (leave1; (try dsimp only)))
  show wpAny (model PP w) (ktrTop dp un gd lawN lawSc L 204 (.ref 203) (lawCl L) []) (call (.ref 199) [.ref lx, .int c1 _, .int (z1 : Int) _]) _ _ _
  with_reducible refine' fac_use hx0 hx1 hx2 hc1 hz1 ?kl B ?F X ?N T rfl ?hd ?hu ?_
  case F => k_asm
  case N => k_asm
  case kl => k_mem
  case hd => exact room_le hd (by decide)
  case hu => exact room_le hu (by decide)
  intro t9 h9 tk9 F9 N9
  (try dsimp only)
  repeat' (first | ((fail_if_success (with_reducible show wpAny _ _ _ _ _ _)); (refine UnrEnd.intro (by assumption) (by assumption) _ (fun p hp => hp) (by first | exact allLt_off (by assumption) | exact lt_off (by assumption)) ?_)) | ((with_reducible show wpAny _ _ (subscriptTail (PySem.Expr.Name _ _) _ (Value.ref _) (Value.int _ _)) _ _ _); (k_here; k_dflt (refine' item_lit ?N ?m ?a ?b ?x ?_ ?hs; (case N => k_asm); (case m => k_mem); (case a => decide); (case b => decide); (case x => rfl); (case hs => with_unfolding_all rfl)))) | (k_unfold; (try dsimp only)) | (k_end; wrow_close) | walk1 | (dsimp only) | (leave1; (try dsimp only)))
  have e : (W0 == V0 * facC x0 x1 x2 c0 z0 * facC x0 x1 x2 c1 z1) = true := by rw [hW]; exact beq_self_eq_true _
  rw [e]
  exact hret _ _ _ (by k_asm) (by refine' cb_drop ?cbN ?cbS; (case cbN => assumption); (case cbS => kcj_all))
theorem dueV_bits {x0 x1 x2 d0 d1 d2 : Int} (hd0 : 1 ≤ d0 ∧ d0 ≤ 5) (hd1 : 1 ≤ d1 ∧ d1 ≤ 5) (hd2 : 1 ≤ d2 ∧ d2 ≤ 5) (hx0 : -1000 ≤ x0 ∧ x0 ≤ 1000) (hx1 : -1000 ≤ x1 ∧ x1 ≤ 1000) (hx2 : -1000 ≤ x2 ∧ x2 ≤ 1000) : Builtin.Int.intBits (dueV x0 x1 x2 d0 d1 d2) ≤ 4000 := by
  have hb00 := pow_bits5 hx0 hd0
  have hb01 := pow_bits5 hx0 hd1
  have hb02 := pow_bits5 hx0 hd2
  have hb10 := pow_bits5 hx1 hd0
  have hb11 := pow_bits5 hx1 hd1
  have hb12 := pow_bits5 hx1 hd2
  have hb20 := pow_bits5 hx2 hd0
  have hb21 := pow_bits5 hx2 hd1
  have hb22 := pow_bits5 hx2 hd2
  exact Nat.le_trans (bits_add (bits_sub (bits_mul hb00 (bits_sub (bits_mul hb11 hb22) (bits_mul hb12 hb21))) (bits_mul hb01 (bits_sub (bits_mul hb10 hb22) (bits_mul hb12 hb20)))) (bits_mul hb02 (bits_sub (bits_mul hb10 hb21) (bits_mul hb11 hb20)))) (by decide)
theorem suffix {ld lx lk lt : Addr} {kd kx kk kt : Nat} {oD oK oT : Obj} {d0 d1 d2 x0 x1 x2 c0 c1 W0 : Int} {z0 z1 : Nat} {ud0 ud1 ud2 ux0 ux1 ux2 uc0 uc1 ut0 ut1 tW : Tok}
    (hd0 : 1 ≤ d0 ∧ d0 ≤ 5) (hd1 : 1 ≤ d1 ∧ d1 ≤ 5) (hd2 : 1 ≤ d2 ∧ d2 ≤ 5) (hx0 : -1000 ≤ x0 ∧ x0 ≤ 1000) (hx1 : -1000 ≤ x1 ∧ x1 ≤ 1000) (hx2 : -1000 ≤ x2 ∧ x2 ≤ 1000) (hc0 : 1 ≤ c0 ∧ c0 ≤ 3) (hc1 : 1 ≤ c1 ∧ c1 ≤ 3) (hz0 : 1 ≤ (z0 : Int) ∧ (z0 : Int) ≤ 2) (hz1 : 1 ≤ (z1 : Int) ∧ (z1 : Int) ≤ 2)
    (hW : W0 = dueV x0 x1 x2 d0 d1 d2 * facC x0 x1 x2 c0 z0 * facC x0 x1 x2 c1 z1)
    (hoD : oD.data = .cell (some (.ref ld))) (hoK : oK.data = .cell (some (.ref lk))) (hoT : oT.data = .cell (some (.ref lt)))
    (B : Below A₀ base [] h₀) (X : (KK w.params).In h₀) (T : Top VV (looseW VV LO) mean mg mb h₀) (F : Fr h₀ L s.heap (fun y => if y = Str.ofString "told" then some (.int W0 tW) else if y = Str.ofString "numbers" then some (.ref lx) else mr y))
    (N : News h₀ L s.heap ((L + 5, oD) :: (L + 8, oK) :: (L + 9, oT) :: (ld, W.listOf #[.int d0 ud0, .int d1 ud1, .int d2 ud2] kd) :: (lx, W.listOf #[.int x0 ux0, .int x1 ux1, .int x2 ux2] kx) :: (lk, W.listOf #[.int c0 uc0, .int c1 uc1] kk) :: (lt, W.listOf #[.int (z0 : Int) ut0, .int (z1 : Int) ut1] kt) :: news)) (hd : dp + 8 < recursionLimit) (hu : un + 80 < cLine)
    (hE : PassesOwn (model PP w) (ktrTop dp un gd lawN lawSc L 204 (.ref 203) (lawCl L) []) (envX lawN lawSc L 204 (.ref 203) (lawCl L)) E)
    (hret : ∀ m' h' tk', Fr h₀ L h' m' → Q (.ret (.bool true)) { s with heap := h', toks := tk' }) :
    wpAny (model PP w) (ktrTop dp un gd lawN lawSc L 204 (.ref 203) (lawCl L) []) (execs (q26.1.2.1.drop 13) (envX lawN lawSc L 204 (.ref 203) (lawCl L))) Q E s := by
  iterate 2 (first | ((fail_if_success (with_reducible show wpAny _ _ _ _ _ _)); (refine UnrEnd.intro (by assumption) (by assumption) _ (fun p hp => hp) (by first | exact allLt_off (by assumption) | exact lt_off (by assumption)) ?_)) | ((with_reducible show wpAny _ _ (subscriptTail (PySem.Expr.Name _ _) _ (Value.ref _) (Value.int _ _)) _ _ _); (k_here; k_dflt (refine' item_lit ?N ?m ?a ?b ?x ?_ ?hs; (case N => k_asm); (case m => k_mem); (case a => decide); (case b => decide); (case x => rfl); (case hs => with_unfolding_all rfl)))) | walk1)
  show wpAny (model PP w) (ktrTop dp un gd lawN lawSc L 204 (.ref 203) (lawCl L) []) (eval lawRows (envX lawN lawSc L 204 (.ref 203) (lawCl L))) _ _ _
  have N1 := nM (p := (L + 5, oD)) N (by k_mem) (nM (p := (ld, W.listOf #[.int d0 ud0, .int d1 ud1, .int d2 ud2] kd)) N (by k_mem) (nM (p := (lx, W.listOf #[.int x0 ux0, .int x1 ux1, .int x2 ux2] kx)) N (by k_mem) N))
  have F0 := frC F (x := Str.ofString "numbers") (v := .ref lx) rfl
  with_reducible refine' rows3_use hd0 hd1 hd2 hx0 hx1 hx2 hoD B X T F0 N1 ?hd ?hu ?_
  case hd => exact room_le hd (by decide)
  case hu => exact room_le hu (by decide)
  intro D D0 D1 D2 k t00 t01 t02 t10 t11 t12 t20 t21 t22 h' tk' F' N'
  clear F0 N1 F N
  iterate 11 (first | ((fail_if_success (with_reducible show wpAny _ _ _ _ _ _)); (refine UnrEnd.intro (by assumption) (by assumption) _ (fun p hp => hp) (by first | exact allLt_off (by assumption) | exact lt_off (by assumption)) ?_)) | ((with_reducible show wpAny _ _ (subscriptTail (PySem.Expr.Name _ _) _ (Value.ref _) (Value.int _ _)) _ _ _); (k_here; k_dflt (refine' item_lit ?N ?m ?a ?b ?x ?_ ?hs; (case N => k_asm); (case m => k_mem); (case a => decide); (case b => decide); (case x => rfl); (case hs => with_unfolding_all rfl)))) | walk1)
  dsimp only
  rename Fr _ _ _ (fun _ => _) => Fz
  rename News _ _ _ _ => Nz
  have FA := frC (frC (frC (frC (frC Fz (x := Str.ofString "numbers") (v := .ref lx) rfl) (x := Str.ofString "told") (v := .int W0 tW) rfl) (x := Str.ofString "one") (v := .ref D0) rfl) (x := Str.ofString "two") (v := .ref D1) rfl) (x := Str.ofString "three") (v := .ref D2) rfl
  clear Fz
  show wpAny (model PP w) (ktrTop dp un gd lawN lawSc L 204 (.ref 203) (lawCl L) []) (execs (q26.1.2.1.drop 14) (envX lawN lawSc L 204 (.ref 203) (lawCl L))) _ _ _
  have NB := news_rest (pre := [_]) Nz
  clear Nz
  with_reducible refine' suffix_due hd0 hd1 hd2 hx0 hx1 hx2 B X T FA NB ?hd ?hu ?_
  case hd => exact room_le hd (by decide)
  case hu => exact room_le hu (by decide)
  intro tV h7 tk7 F7 N7
  have F8 := frC (frC (frC F7 (x := Str.ofString "numbers") (v := .ref lx) rfl) (x := Str.ofString "told") (v := .int W0 tW) rfl) (x := Str.ofString "due") (v := .int (dueV x0 x1 x2 d0 d1 d2) tV) rfl
  have N8 := nM (p := (L + 8, oK)) N7 (by k_mem) (nM (p := (L + 9, oT)) N7 (by k_mem) (nM (p := (lx, W.listOf #[.int x0 ux0, .int x1 ux1, .int x2 ux2] kx)) N7 (by k_mem) (nM (p := (lk, W.listOf #[.int c0 uc0, .int c1 uc1] kk)) N7 (by k_mem) (nM (p := (lt, W.listOf #[.int (z0 : Int) ut0, .int (z1 : Int) ut1] kt)) N7 (by k_mem) N7))))
  with_reducible refine' suffix_end hx0 hx1 hx2 hc0 hc1 hz0 hz1 (dueV_bits hd0 hd1 hd2 hx0 hx1 hx2) hW hoK hoT B X T F8 N8 hd hu hE ?_
  intro m' h9 tk9 F9 N9
  exact hret m' h9 tk9 F9
end
end MyLaw
end
end
section
open PySem PySem.Spec PySem.Calls PySem.W PySem.W.X PyProof.Rows
noncomputable section
namespace MyLaw
open LCg
theorem restN {prog : Program} {w : World} {A : Around} {h₀ : Heap} {L : Addr} {m : Str → Option Value} {env : Env} {elt : PySem.Expr} {x : Str} {scope : Scope} {cl : List (Str × Addr)} {s : Shared} {Fin : List Value → List (Addr × Obj) → Prop} {news : List (Addr × Obj)} (R : Nat → Value → Prop) (n : Nat)
    (turn : ∀ (j : Nat) I oI C oC D m₂ ys h tk (E' : Value → Shared → Prop) t, j < n → NsObj oC m₂ → m₂ x = some (.int j t) → Fr h₀ L h m → News h₀ L h ((I, oI) :: (C, oC) :: (D, lst ys) :: news) → Off3 I C D news → ((@Ne Nat I C) ∧ (@Ne Nat I D) ∧ (@Ne Nat C D)) →
      wpAny (model prog w) A (eval elt (compEnvC scope cl C env)) (TurnEnd h₀ L m s ((I, oI) :: (C, oC) :: (D, lst ys) :: news) (R j)) E' { s with heap := h, toks := tk })
    (fin : ∀ ys, ys.length = n → (∀ j y, ys[j]? = some y → R j y) → Fin ys news) :
    CompRest prog w A h₀ L m env elt x scope cl s (fun _ => True) (fun i v => ∃ t, v = .int (0 + (i : Int)) t) Fin n 0 [] news := by
  have key : ∀ (k i : Nat) (ys : List Value), i + k = n → ys.length = i → (∀ j y, ys[j]? = some y → R j y) → CompRest prog w A h₀ L m env elt x scope cl s (fun _ => True) (fun i v => ∃ t, v = .int (0 + (i : Int)) t) Fin k i ys news := by
    intro k
    induction k with
    | zero =>
      intro i ys hi hl hr
      exact CompRest.zero (fin ys (by omega) hr)
    | succ k ih =>
      intro i ys hi hl hr
      refine CompRest.succ ?_
      intro v I oI C oC D m₂ h tk E' hv hC hx F N off ne
      obtain ⟨t, rfl⟩ := hv
      rw [Int.zero_add] at hx
      refine wpAny_mono (turn i I oI C oC D m₂ ys h tk E' t (by omega) hC hx F N off ne) (fun y s₂ hy => ?_) fun _ _ e => e
      obtain ⟨h', tk', rfl, F', N', hR⟩ := hy
      refine ⟨h', tk', news, rfl, F', N', off, trivial, ih (i + 1) (ys ++ [y]) (by omega) (by simp [hl]) fun j z hz => ?_⟩
      rw [List.getElem?_append] at hz
      split at hz
      · exact hr j z hz
      · rename_i hjl
        have hj0 : j - ys.length = 0 := by
          cases e : j - ys.length with
          | zero => rfl
          | succ n => rw [e] at hz; simp at hz
        have hji : j = i := by omega
        rw [hj0] at hz
        have e : y = z := Option.some.inj hz
        rw [← e, hji]
        exact hR
  exact key n 0 [] (by omega) rfl (fun j y h => by simp at h)
theorem restV {prog : Program} {w : World} {A : Around} {h₀ : Heap} {L : Addr} {m : Str → Option Value} {env : Env} {elt : PySem.Expr} {x : Str} {scope : Scope} {cl : List (Str × Addr)} {s : Shared} {S : List (Addr × Obj) → Prop} {Fin : List Value → List (Addr × Obj) → Prop} {news : List (Addr × Obj)} {P : Nat → Value → Prop} (R : Value → Prop) (n : Nat) (hS : S news)
    (turn : ∀ (j : Nat) v I oI C oC D m₂ ys h tk (E' : Value → Shared → Prop), j < n → P j v → NsObj oC m₂ → m₂ x = some v → Fr h₀ L h m → News h₀ L h ((I, oI) :: (C, oC) :: (D, lst ys) :: news) → Off3 I C D news → ((@Ne Nat I C) ∧ (@Ne Nat I D) ∧ (@Ne Nat C D)) →
      wpAny (model prog w) A (eval elt (compEnvC scope cl C env)) (TurnEnd h₀ L m s ((I, oI) :: (C, oC) :: (D, lst ys) :: news) R) E' { s with heap := h, toks := tk })
    (fin : ∀ ys : List Value, ys.length = n → (∀ y ∈ ys, R y) → Fin ys news) :
    CompRest prog w A h₀ L m env elt x scope cl s S P Fin n 0 [] news := by
  have key : ∀ (k i : Nat) (ys : List Value), i + k = n → ys.length = i → (∀ y ∈ ys, R y) → CompRest prog w A h₀ L m env elt x scope cl s S P Fin k i ys news := by
    intro k
    induction k with
    | zero =>
      intro i ys hi hl hr
      exact CompRest.zero (fin ys (by omega) hr)
    | succ k ih =>
      intro i ys hi hl hr
      refine CompRest.succ ?_
      intro v I oI C oC D m₂ h tk E' hv hC hx F N off ne
      refine wpAny_mono (turn i v I oI C oC D m₂ ys h tk E' (by omega) hv hC hx F N off ne) (fun y s₂ hy => ?_) fun _ _ e => e
      obtain ⟨h', tk', rfl, F', N', hR⟩ := hy
      refine ⟨h', tk', news, rfl, F', N', off, hS, ih (i + 1) (ys ++ [y]) (by omega) (by simp [hl]) fun z hz => ?_⟩
      rcases List.mem_append.mp hz with hz | hz
      · exact hr z hz
      · rw [List.mem_singleton.mp hz]; exact hR
  exact key n 0 [] (by omega) rfl (fun y h => by simp at h)
def small6 (y : Value) : Prop := ∃ (v : Int) (t : Tok), y = .int v t ∧ 0 ≤ v ∧ v < 1000000
theorem ints_small : ∀ {ys : List Value}, (∀ y ∈ ys, small6 y) → ∃ ms : List Int, IntsAre ys ms ∧ 0 ≤ ms.sum ∧ ms.sum ≤ 1000000 * ys.length
  | [], _ => ⟨[], .nil, by decide, by decide⟩
  | y :: r, h => by
    obtain ⟨ms, h1, h2, h3⟩ := ints_small fun z hz => h z (List.mem_cons_of_mem _ hz)
    obtain ⟨v, t, rfl, h4, h5⟩ := h y List.mem_cons_self
    exact ⟨v :: ms, .cons v t h1, by simp only [List.sum_cons]; omega, by simp only [List.sum_cons, List.length_cons]; omega⟩
def baseTab : List Int := [305, 560, 258, 51, 48, 50]
def lawCells : PySem.Expr := match q26.1.2.1[1]? with
  | some (Stmt.Assign _ e _) => e
  | _ => .Constant .none 0 default
section
variable {w : World} {mean : ExcName → Option Value} {mg mb : Str → Option Value} {news : List (Addr × Obj)} {dp un : Nat} {gd : Option (List Code)} {A₀ : Around} {base h₀ : Heap} {L : Addr} {mr : Str → Option Value} {s : Shared} {Q : Value → Shared → Prop} {E : Value → Shared → Prop}
theorem cells_use {la lb : Addr} {kb : Nat} {oA oB : Obj} {u0 u1 u2 u3 u4 u5 : Tok} {vs : List Value} {ns : List Int} (hl : h₀.IsList la vs.toArray) (hi : IntsAre vs ns) (hlen : ns.length ≤ 63)
    (hoA : oA.data = .cell (some (.ref la))) (hoB : oB.data = .cell (some (.ref lb)))
    (B : Below A₀ base [] h₀) (X : (KK w.params).In h₀) (T : Top VV (looseW VV LO) mean mg mb h₀) (F : Fr h₀ L s.heap mr)
    (N : News h₀ L s.heap ((L + 1, oA) :: (L + 2, oB) :: (lb, W.listOf #[.int 305 u0, .int 560 u1, .int 258 u2, .int 51 u3, .int 48 u4, .int 50 u5] kb) :: news)) (hd : dp + 3 < recursionLimit) (hu : un + 30 < cLine)
    (hret : ∀ D ys h' tk', ys.length = 6 → (∀ j y, ys[j]? = some y → ∃ v t, y = .int v t ∧ baseTab.getD j 0 ≤ v ∧ v ≤ baseTab.getD j 0 + 63000000) → Fr h₀ L h' mr → News h₀ L h' ((D, LCg.lst ys) :: ((L + 1, oA) :: (L + 2, oB) :: (lb, W.listOf #[.int 305 u0, .int 560 u1, .int 258 u2, .int 51 u3, .int 48 u4, .int 50 u5] kb) :: news)) → LCg.Off1 D ((L + 1, oA) :: (L + 2, oB) :: (lb, W.listOf #[.int 305 u0, .int 560 u1, .int 258 u2, .int 51 u3, .int 48 u4, .int 50 u5] kb) :: news) → Q (.ref D) { s with heap := h', toks := tk' }) :
    wpAny (model PP w) (ktrTop dp un gd lawN lawSc L 204 (.ref 203) (lawCl L) []) (eval lawCells (envX lawN lawSc L 204 (.ref 203) (lawCl L))) Q E s := by
  show wpAny _ _ (eval (PySem.Expr.ListComp _ _ _ _) _) _ _ _
  (try k_fold)
  k_dflt (refine LCg.ListComp_U F (by with_unfolding_all rfl) (by decide) (by rfl) (by decide) (by rfl) ?_ (by intro _; rfl))
  iterate 7 (walk1)
  k_dflt (refine LCg.CompSrc.range (n := 6) (by rfl) (by k_asm) (by k_asm) (by assumption) (by decide) (by decide) (Nat.le_of_ble_eq_true rfl) ?_)
  intro g0
  refine restN (fun j y => ∃ v t, y = .int v t ∧ baseTab.getD j 0 ≤ v ∧ v ≤ baseTab.getD j 0 + 63000000) 6 ?turn ?fin
  case fin =>
    rintro ys hl6 hy D h' tk' F' N' o1
    exact hret D ys h' tk' hl6 hy F' N' o1
  case turn =>
    intro j I' oI' C' oC' D' m' ys' h' tk' E' t' hj hC' hx' F' N' off' ne'
    clear hret
    simp only [LCg.Off3, and_true] at off'
    have hk0 : (0 : Int) ≤ j := Int.natCast_nonneg j
    have hk5 : (j : Int) < 6 := by omega
    iterate 9 (walk1)
    k_dflt (refine LCg.ListComp_U (F₀ := by k_asm) (by with_unfolding_all rfl) (by decide) (by rfl) (by decide) (by rfl) ?_ (by intro _; rfl))
    iterate 8 (walk1)
    rename Fr _ _ _ _ => Fz
    k_dflt (refine' kmk_slice3_lit ?zF ?zN ?zl ?zp ?zq ?zk ?zo ?ze ?_ ?zs ?zt ?zz; (case zF => k_asm); (case zN => k_asm); (case zl => exact Fr.lst Fz hl); (case zp => kmk_part); (case zq => kmk_part); (case zk => kmk_part); (case zo => decide); (case ze => exact rfl); (case zs => with_unfolding_all rfl); (case zt => kmk_pure); (case zz => rw [sizeLine_eq]; rw [List.size_toArray, hi.length]; omega))
    intro D2 h2 F2 N2 lt2
    have hI2 := hi.pick (some (j : Int)) none (some 6)
    have hL2 := length_pickNums_le hi (some (j : Int)) none (some 6)
    have hlen2 := hI2.length
    generalize (slicePick vs.toArray (some (j : Int)) none (some 6)).toList = zs at *
    generalize pickNums ns (some (j : Int)) none (some 6) = ms at *
    k_dflt (refine LCg.CompSrc.ledger (by rfl) (by k_asm) (by k_asm) (by k_mem) ?sz ?_)
    case sz => rw [sizeLine_eq, List.size_toArray]; omega
    intro g2
    refine restV small6 _ (.inr ⟨_, by k_mem, rfl, _, rfl⟩) ?turn ?fin
    case turn =>
      intro i v I3 oI3 C3 oC3 D3 m3 ys3 h3 tk3 E3 hi3 hv3 hC3 hx3 F3 N3 off3 ne3
      have hmi : i < ms.length := by rw [List.size_toArray] at hi3; omega
      obtain ⟨t3, ht3⟩ := hI2.get i ms[i] (by simp [hmi])
      have hv4 : v = .int ms[i] t3 := by
        have h5 : zs[i]? = some v := by simpa using hv3
        rw [ht3] at h5
        exact (Option.some.inj h5).symm
      subst hv4
      clear hv3 ht3 F2 N2
      generalize ms[i] = mi at *
      simp only [LCg.Off3, and_true] at off3
      k_steps
      refine TurnEnd.intro (by k_asm) (by assumption) (fun p hp => hp) ⟨_, _, rfl, ?_, ?_⟩
      · exact Int.fmod_nonneg_of_pos _ (by decide)
      · exact Int.fmod_lt_of_pos _ (by decide)
    case fin =>
      intro ys3 hl3 hy3 D4 h4 tk4 F4 N4 o4
      obtain ⟨ms4, hI4, hs0, hs1⟩ := ints_small hy3
      have hl4 := hI4.length
      rw [List.size_toArray] at hl3
      clear F2 N2
      k_steps
      have hbj : ([305, 560, 258, 51, 48, 50] : List Int).getD (j : Int).toNat 0 = baseTab.getD j 0 := by rw [Int.toNat_natCast]; rfl
      refine TurnEnd.intro (by k_asm) (by assumption) (fun p hp => .tail _ (.tail _ hp)) ⟨_, _, rfl, ?_, ?_⟩
      · rw [hbj]; omega
      · rw [hbj]; omega
end
end MyLaw
end
end
section
open PySem PySem.Spec PySem.Calls PySem.W PySem.W.X PyProof.Rows
noncomputable section
namespace MyLaw
open LCg
theorem cut_any : ∀ (l : List Value) (k : Nat) (h : k < l.length), kl_cut l k = some (l.take k, l[k], l.drop (k + 1))
  | [], _, h => absurd h (Nat.not_lt_zero _)
  | x :: r, 0, _ => rfl
  | x :: r, k + 1, h => by
    have ih := cut_any r k (Nat.lt_of_succ_lt_succ h)
    unfold kl_cut
    rw [ih]
    rfl
theorem pop_any {prog : Program} {w : World} {A : Around} {E : Value → Shared → Prop} {s : Shared} {h₀ : Heap} {L D : Addr} {m : Str → Option Value} {ls : List Value} {n : Nat} {i : Int} {u : Tok} {rest : List (Addr × Obj)} {Q : Value → Shared → Prop}
    (F : Fr h₀ L s.heap m) (N : News h₀ L s.heap ((D, W.listOf ls.toArray n) :: rest)) (hoff : ∀ p ∈ rest, p.1 ≠ D) (h0 : 0 ≤ i) (h1 : i < ls.length) (h8 : ls.length ≤ 8)
    (h : ∀ h' y, ls[i.toNat]? = some y → Fr h₀ L h' m → News h₀ L h' ((D, W.listOf (ls.eraseIdx i.toNat).toArray (n + 1)) :: rest) → Q y { s with heap := h' }) :
    wpAny (model prog w) A (call (.builtin "list.pop") [.ref D, .int i u]) Q E s := by
  have hk : i.toNat < ls.length := by omega
  refine kl_popAt (k := i.toNat) F N ?hf ?hk (cut_any ls i.toNat hk) (Upd.head hoff) ?hz fun h' F' N' => ?_
  case hf => unfold Builtin.List.listFitsIndex; simp; omega
  case hk => unfold seqIndex?; simp [List.size_toArray]; omega
  case hz => rw [sizeLine_eq]; show ls.length ≤ _; omega
  refine h h' _ (by simp [hk]) F' ?_
  rw [List.eraseIdx_eq_take_drop_succ]
  exact N'
def lawDots : PySem.Expr := match q26.1.2.1[3]? with
  | some (Stmt.Assign _ e _) => e
  | _ => .Constant .none 0 default
section
variable {w : World} {mean : ExcName → Option Value} {mg mb : Str → Option Value} {news : List (Addr × Obj)} {dp un : Nat} {gd : Option (List Code)} {A₀ : Around} {base h₀ : Heap} {L : Addr} {mr : Str → Option Value} {s : Shared} {Q : Value → Shared → Prop} {E : Value → Shared → Prop}
theorem dots_use {lc ll : Addr} {kc kl : Nat} {oC oF : Obj} {c0 c1 c2 c3 c4 c5 : Int} {u0 u1 u2 u3 u4 u5 : Tok} {lv : List Value} (hlv : lv.length = 4)
    (hoC : oC.data = .cell (some (.ref lc))) (hoF : oF.data = .cell (some (.ref ll))) (hoff : ∀ p ∈ ((L + 3, oC) :: (L + 4, oF) :: (lc, W.listOf #[.int c0 u0, .int c1 u1, .int c2 u2, .int c3 u3, .int c4 u4, .int c5 u5] kc) :: news), p.1 ≠ ll)
    (B : Below A₀ base [] h₀) (X : (KK w.params).In h₀) (T : Top VV (looseW VV LO) mean mg mb h₀) (F : Fr h₀ L s.heap mr)
    (N : News h₀ L s.heap ((ll, W.listOf (lv).toArray kl) :: (L + 3, oC) :: (L + 4, oF) :: (lc, W.listOf #[.int c0 u0, .int c1 u1, .int c2 u2, .int c3 u3, .int c4 u4, .int c5 u5] kc) :: news)) (hd : dp + 3 < recursionLimit) (hu : un + 30 < cLine)
    (hret : ∀ D y0 y1 y2 (lv' : List Value) (n' : Nat) h' tk', lv[(c0.fmod 4).toNat]? = some y0 → (lv.eraseIdx (c0.fmod 4).toNat)[(c1.fmod 3).toNat]? = some y1 → ((lv.eraseIdx (c0.fmod 4).toNat).eraseIdx (c1.fmod 3).toNat)[(c2.fmod 2).toNat]? = some y2 → Fr h₀ L h' mr → News h₀ L h' ((D, LCg.lst [y0, y1, y2]) :: ((ll, W.listOf (lv').toArray n') :: (L + 3, oC) :: (L + 4, oF) :: (lc, W.listOf #[.int c0 u0, .int c1 u1, .int c2 u2, .int c3 u3, .int c4 u4, .int c5 u5] kc) :: news)) → LCg.Off1 D ((ll, W.listOf (lv').toArray n') :: (L + 3, oC) :: (L + 4, oF) :: (lc, W.listOf #[.int c0 u0, .int c1 u1, .int c2 u2, .int c3 u3, .int c4 u4, .int c5 u5] kc) :: news) → Q (.ref D) { s with heap := h', toks := tk' }) :
    wpAny (model PP w) (ktrTop dp un gd lawN lawSc L 204 (.ref 203) (lawCl L) []) (eval lawDots (envX lawN lawSc L 204 (.ref 203) (lawCl L))) Q E s := by
  show wpAny _ _ (eval (PySem.Expr.ListComp _ _ _ _) _) _ _ _
  (try k_fold)
  k_dflt (refine LCg.ListComp_U F (by with_unfolding_all rfl) (by decide) (by rfl) (by decide) (by rfl) ?_ (by intro _; rfl))
  iterate 7 (walk1)
  k_dflt (refine LCg.CompSrc.range (n := 3) (by rfl) (by k_asm) (by k_asm) (by assumption) (by decide) (by decide) (Nat.le_of_ble_eq_true rfl) ?_)
  intro g0
  have l0 : (0 : Int) ≤ c0.fmod 4 := Int.fmod_nonneg_of_pos _ (by decide)
  have m0 : c0.fmod 4 < 4 := Int.fmod_lt_of_pos _ (by decide)
  have l1 : (0 : Int) ≤ c1.fmod 3 := Int.fmod_nonneg_of_pos _ (by decide)
  have m1 : c1.fmod 3 < 3 := Int.fmod_lt_of_pos _ (by decide)
  have l2 : (0 : Int) ≤ c2.fmod 2 := Int.fmod_nonneg_of_pos _ (by decide)
  have m2 : c2.fmod 2 < 2 := Int.fmod_lt_of_pos _ (by decide)
  have q0 : lv.length = 4 := by exact hlv
  refine CompRest.succ ?_
  intro v I0 oI0 C0 oC0 Dd m3 h3 tk3 E3 hv hC hx F3 N3 off ne
  obtain ⟨t3, rfl⟩ := hv
  have off' := off
  simp only [LCg.Off3, and_true] at off'
  k_with "call builtin:list.pop" => fail "stop"
  k_steps
  show wpAny (model PP w) (ktrTop dp un gd lawN lawSc L 204 (.ref 203) (lawCl L) []) (call (.builtin "list.pop") [.ref ll, .int (c0.fmod 4) _]) _ _ _
  refine pop_any (ls := lv) (n := kl) (rest := (I0, oI0) :: (C0, oC0) :: (Dd, LCg.lst []) :: (L + 3, oC) :: (L + 4, oF) :: (lc, W.listOf #[.int c0 u0, .int c1 u1, .int c2 u2, .int c3 u3, .int c4 u4, .int c5 u5] kc) :: news) F3 ?nn ?oo l0 ?lt (by omega) ?_
  case nn =>
    refine fun p hp => N3 p ?_
    simp only [List.mem_cons] at hp ⊢
    rcases hp with hp | hp | hp | hp | hp
    · exact .inr (.inr (.inr (.inl hp)))
    · exact .inl hp
    · exact .inr (.inl hp)
    · exact .inr (.inr (.inl hp))
    · exact .inr (.inr (.inr (.inr hp)))
  case oo =>
    intro p hp
    rcases List.mem_cons.mp hp with rfl | hp
    · exact Ne.symm off.1.1
    rcases List.mem_cons.mp hp with rfl | hp
    · exact Ne.symm off.1.2.1
    rcases List.mem_cons.mp hp with rfl | hp
    · exact Ne.symm off.1.2.2
    exact hoff p hp
  case lt => rw [q0]; exact m0
  intro h5 y0 hy0 F5 N5
  refine LCg.CompEnd.intro F5 N5 (((ll, W.listOf ((lv.eraseIdx (c0.fmod 4).toNat)).toArray (kl + 1)) :: (L + 3, oC) :: (L + 4, oF) :: (lc, W.listOf #[.int c0 u0, .int c1 u1, .int c2 u2, .int c3 u3, .int c4 u4, .int c5 u5] kc) :: news)) ?sub ⟨off.1, off.2⟩ trivial ?_
  case sub =>
    intro p hp
    simp only [List.mem_cons] at hp ⊢
    rcases hp with hp | hp | hp | hp | hp
    · exact .inr (.inl hp)
    · exact .inr (.inr (.inl hp))
    · exact .inr (.inr (.inr (.inl hp)))
    · exact .inl hp
    · exact .inr (.inr (.inr (.inr hp)))
  clear hC hx F3 N3 off off' ne F5 N5
  have q1 : (lv.eraseIdx (c0.fmod 4).toNat).length = 3 := by rw [List.length_eraseIdx, q0]; simp; omega
  refine CompRest.succ ?_
  intro v I0 oI0 C0 oC0 Dd m3 h3 tk3 E3 hv hC hx F3 N3 off ne
  obtain ⟨t3, rfl⟩ := hv
  have off' := off
  simp only [LCg.Off3, and_true] at off'
  k_with "call builtin:list.pop" => fail "stop"
  k_steps
  show wpAny (model PP w) (ktrTop dp un gd lawN lawSc L 204 (.ref 203) (lawCl L) []) (call (.builtin "list.pop") [.ref ll, .int (c1.fmod 3) _]) _ _ _
  refine pop_any (ls := (lv.eraseIdx (c0.fmod 4).toNat)) (n := (kl + 1)) (rest := (I0, oI0) :: (C0, oC0) :: (Dd, LCg.lst ([] ++ [y0])) :: (L + 3, oC) :: (L + 4, oF) :: (lc, W.listOf #[.int c0 u0, .int c1 u1, .int c2 u2, .int c3 u3, .int c4 u4, .int c5 u5] kc) :: news) F3 ?nn ?oo l1 ?lt (by omega) ?_
  case nn =>
    refine fun p hp => N3 p ?_
    simp only [List.mem_cons] at hp ⊢
    rcases hp with hp | hp | hp | hp | hp
    · exact .inr (.inr (.inr (.inl hp)))
    · exact .inl hp
    · exact .inr (.inl hp)
    · exact .inr (.inr (.inl hp))
    · exact .inr (.inr (.inr (.inr hp)))
  case oo =>
    intro p hp
    rcases List.mem_cons.mp hp with rfl | hp
    · exact Ne.symm off.1.1
    rcases List.mem_cons.mp hp with rfl | hp
    · exact Ne.symm off.1.2.1
    rcases List.mem_cons.mp hp with rfl | hp
    · exact Ne.symm off.1.2.2
    exact hoff p hp
  case lt => rw [q1]; exact m1
  intro h5 y1 hy1 F5 N5
  refine LCg.CompEnd.intro F5 N5 (((ll, W.listOf (((lv.eraseIdx (c0.fmod 4).toNat).eraseIdx (c1.fmod 3).toNat)).toArray (kl + 1 + 1)) :: (L + 3, oC) :: (L + 4, oF) :: (lc, W.listOf #[.int c0 u0, .int c1 u1, .int c2 u2, .int c3 u3, .int c4 u4, .int c5 u5] kc) :: news)) ?sub ⟨off.1, off.2⟩ trivial ?_
  case sub =>
    intro p hp
    simp only [List.mem_cons] at hp ⊢
    rcases hp with hp | hp | hp | hp | hp
    · exact .inr (.inl hp)
    · exact .inr (.inr (.inl hp))
    · exact .inr (.inr (.inr (.inl hp)))
    · exact .inl hp
    · exact .inr (.inr (.inr (.inr hp)))
  clear hC hx F3 N3 off off' ne F5 N5
  have q2 : ((lv.eraseIdx (c0.fmod 4).toNat).eraseIdx (c1.fmod 3).toNat).length = 2 := by rw [List.length_eraseIdx, q1]; simp; omega
  refine CompRest.succ ?_
  intro v I0 oI0 C0 oC0 Dd m3 h3 tk3 E3 hv hC hx F3 N3 off ne
  obtain ⟨t3, rfl⟩ := hv
  have off' := off
  simp only [LCg.Off3, and_true] at off'
  k_with "call builtin:list.pop" => fail "stop"
  k_steps
  show wpAny (model PP w) (ktrTop dp un gd lawN lawSc L 204 (.ref 203) (lawCl L) []) (call (.builtin "list.pop") [.ref ll, .int (c2.fmod 2) _]) _ _ _
  refine pop_any (ls := ((lv.eraseIdx (c0.fmod 4).toNat).eraseIdx (c1.fmod 3).toNat)) (n := (kl + 1 + 1)) (rest := (I0, oI0) :: (C0, oC0) :: (Dd, LCg.lst ([] ++ [y0] ++ [y1])) :: (L + 3, oC) :: (L + 4, oF) :: (lc, W.listOf #[.int c0 u0, .int c1 u1, .int c2 u2, .int c3 u3, .int c4 u4, .int c5 u5] kc) :: news) F3 ?nn ?oo l2 ?lt (by omega) ?_
  case nn =>
    refine fun p hp => N3 p ?_
    simp only [List.mem_cons] at hp ⊢
    rcases hp with hp | hp | hp | hp | hp
    · exact .inr (.inr (.inr (.inl hp)))
    · exact .inl hp
    · exact .inr (.inl hp)
    · exact .inr (.inr (.inl hp))
    · exact .inr (.inr (.inr (.inr hp)))
  case oo =>
    intro p hp
    rcases List.mem_cons.mp hp with rfl | hp
    · exact Ne.symm off.1.1
    rcases List.mem_cons.mp hp with rfl | hp
    · exact Ne.symm off.1.2.1
    rcases List.mem_cons.mp hp with rfl | hp
    · exact Ne.symm off.1.2.2
    exact hoff p hp
  case lt => rw [q2]; exact m2
  intro h5 y2 hy2 F5 N5
  refine LCg.CompEnd.intro F5 N5 (((ll, W.listOf ((((lv.eraseIdx (c0.fmod 4).toNat).eraseIdx (c1.fmod 3).toNat).eraseIdx (c2.fmod 2).toNat)).toArray (kl + 1 + 1 + 1)) :: (L + 3, oC) :: (L + 4, oF) :: (lc, W.listOf #[.int c0 u0, .int c1 u1, .int c2 u2, .int c3 u3, .int c4 u4, .int c5 u5] kc) :: news)) ?sub ⟨off.1, off.2⟩ trivial ?_
  case sub =>
    intro p hp
    simp only [List.mem_cons] at hp ⊢
    rcases hp with hp | hp | hp | hp | hp
    · exact .inr (.inl hp)
    · exact .inr (.inr (.inl hp))
    · exact .inr (.inr (.inr (.inl hp)))
    · exact .inl hp
    · exact .inr (.inr (.inr (.inr hp)))
  clear hC hx F3 N3 off off' ne F5 N5
  refine CompRest.zero ?_
  intro D h' tk' F' N' o1
  exact hret D y0 y1 y2 _ _ h' tk' hy0 hy1 hy2 F' N' o1
end
end MyLaw
end
end
section
open PySem PySem.Spec PySem.Calls PySem.W PySem.W.X PyProof.Rows
noncomputable section
namespace MyLaw
open LCg
def lawRests : PySem.Expr := match q26.1.2.1[4]? with
  | some (Stmt.Assign _ e _) => e
  | _ => .Constant .none 0 default
def lawNames : PySem.Expr := match q26.1.2.1[5]? with
  | some (Stmt.Assign _ e _) => e
  | _ => .Constant .none 0 default
section
variable {w : World} {mean : ExcName → Option Value} {mg mb : Str → Option Value} {news : List (Addr × Obj)} {dp un : Nat} {gd : Option (List Code)} {A₀ : Around} {base h₀ : Heap} {L : Addr} {mr : Str → Option Value} {s : Shared} {Q : Value → Shared → Prop} {E : Value → Shared → Prop}
theorem rests_use {lc : Addr} {kc : Nat} {oC : Obj} {c0 c1 c2 c3 c4 c5 : Int} {u0 u1 u2 u3 u4 u5 : Tok}
    (hoC : oC.data = .cell (some (.ref lc)))
    (B : Below A₀ base [] h₀) (X : (KK w.params).In h₀) (T : Top VV (looseW VV LO) mean mg mb h₀) (F : Fr h₀ L s.heap mr)
    (N : News h₀ L s.heap ((L + 3, oC) :: (lc, W.listOf #[.int c0 u0, .int c1 u1, .int c2 u2, .int c3 u3, .int c4 u4, .int c5 u5] kc) :: news)) (hd : dp + 3 < recursionLimit) (hu : un + 30 < cLine)
    (hret : ∀ D y0 y1 y2 h' tk', (∃ t, y0 = .int (c0.fdiv 4) t) → (∃ t, y1 = .int (c1.fdiv 4) t) → (∃ t, y2 = .int (c2.fdiv 4) t) → Fr h₀ L h' mr → News h₀ L h' ((D, LCg.lst [y0, y1, y2]) :: ((L + 3, oC) :: (lc, W.listOf #[.int c0 u0, .int c1 u1, .int c2 u2, .int c3 u3, .int c4 u4, .int c5 u5] kc) :: news)) → LCg.Off1 D ((L + 3, oC) :: (lc, W.listOf #[.int c0 u0, .int c1 u1, .int c2 u2, .int c3 u3, .int c4 u4, .int c5 u5] kc) :: news) → Q (.ref D) { s with heap := h', toks := tk' }) :
    wpAny (model PP w) (ktrTop dp un gd lawN lawSc L 204 (.ref 203) (lawCl L) []) (eval lawRests (envX lawN lawSc L 204 (.ref 203) (lawCl L))) Q E s := by
  show wpAny _ _ (eval (PySem.Expr.ListComp _ _ _ _) _) _ _ _
  (try k_fold)
  k_dflt (refine LCg.ListComp_U F (by with_unfolding_all rfl) (by decide) (by rfl) (by decide) (by rfl) ?_ (by intro _; rfl))
  iterate 8 (walk1)
  rename News _ _ _ _ => Nz
  k_dflt (refine LCg.CompSrc.ledger (by rfl) (by k_asm) Nz (.head _) (Nat.le_of_ble_eq_true rfl) ?_)
  intro g0
  refine rest3L (fun j y => ∃ t, y = .int ((([c0, c1, c2] : List Int).getD j 0).fdiv 4) t) ?hS ?turn ?fin
  case hS => exact .inr ⟨_, .head _, rfl, _, rfl⟩
  case fin =>
    rintro y0 y1 y2 h0 h1 h2 D h' tk' F' N' o1
    exact hret D y0 y1 y2 h' tk' h0 h1 h2 F' (news_tail (pre := [_]) N') (off1_tail (pre := [_]) o1)
  case turn =>
    intro j v I' oI' C' oC' D' m' ys' h' tk' E' hv hC' hx' F' N' off' ne'
    clear hret
    simp only [LCg.Off3, and_true] at off'
    have hj : j < 3 := (Array.getElem?_eq_some_iff.mp hv).1
    have hj3 : j = 0 ∨ j = 1 ∨ j = 2 := by omega
    rcases hj3 with rfl | rfl | rfl
    · have e : Value.int c0 u0 = v := Option.some.inj hv
      subst e
      k_steps
      exact TurnEnd.intro (by k_asm) (by assumption) (fun p hp => hp) ⟨_, rfl⟩
    · have e : Value.int c1 u1 = v := Option.some.inj hv
      subst e
      k_steps
      exact TurnEnd.intro (by k_asm) (by assumption) (fun p hp => hp) ⟨_, rfl⟩
    · have e : Value.int c2 u2 = v := Option.some.inj hv
      subst e
      k_steps
      exact TurnEnd.intro (by k_asm) (by assumption) (fun p hp => hp) ⟨_, rfl⟩
theorem names_use {ls : Addr} {ks : Nat} {oR : Obj} {n0 n1 n2 : Int} {un0 un1 un2 : Tok}
    (hn0 : 0 ≤ n0 ∧ n0 < 2 ^ 60) (hn1 : 0 ≤ n1 ∧ n1 < 2 ^ 60) (hn2 : 0 ≤ n2 ∧ n2 < 2 ^ 60) (hoR : oR.data = .cell (some (.ref ls)))
    (B : Below A₀ base [] h₀) (X : (KK w.params).In h₀) (T : Top VV (looseW VV LO) mean mg mb h₀) (F : Fr h₀ L s.heap mr)
    (N : News h₀ L s.heap ((L + 6, oR) :: (ls, W.listOf #[.int n0 un0, .int n1 un1, .int n2 un2] ks) :: news)) (hd : dp + 3 < recursionLimit) (hu : un + 30 < cLine)
    (hret : ∀ D (m0 m1 m2 : Addr) (ta0 tb0 ta1 tb1 ta2 tb2 : Tok) h' tk', Fr h₀ L h' mr → News h₀ L h' ((D, LCg.lst [.ref m0, .ref m1, .ref m2]) :: ((m2, { cls := .type "tuple", data := .seq #[.str (nRw n2) ta2, .str (nFo n2) tb2] }) :: (m1, { cls := .type "tuple", data := .seq #[.str (nRw n1) ta1, .str (nFo n1) tb1] }) :: (m0, { cls := .type "tuple", data := .seq #[.str (nRw n0) ta0, .str (nFo n0) tb0] }) :: ((L + 6, oR) :: (ls, W.listOf #[.int n0 un0, .int n1 un1, .int n2 un2] ks) :: news))) → LCg.Off1 D ((m2, { cls := .type "tuple", data := .seq #[.str (nRw n2) ta2, .str (nFo n2) tb2] }) :: (m1, { cls := .type "tuple", data := .seq #[.str (nRw n1) ta1, .str (nFo n1) tb1] }) :: (m0, { cls := .type "tuple", data := .seq #[.str (nRw n0) ta0, .str (nFo n0) tb0] }) :: ((L + 6, oR) :: (ls, W.listOf #[.int n0 un0, .int n1 un1, .int n2 un2] ks) :: news)) → Q (.ref D) { s with heap := h', toks := tk' }) :
    wpAny (model PP w) (ktrTop dp un gd lawN lawSc L 204 (.ref 203) (lawCl L) []) (eval lawNames (envX lawN lawSc L 204 (.ref 203) (lawCl L))) Q E s := by
  show wpAny _ _ (eval (PySem.Expr.ListComp _ _ _ _) _) _ _ _
  (try k_fold)
  k_dflt (refine LCg.ListComp_U F (by with_unfolding_all rfl) (by decide) (by rfl) (by decide) (by rfl) ?_ (by intro _; rfl))
  iterate 1 (walk1)
  k_dflt (refine LCg.CompSrc.ledger (by rfl) (by k_asm) (by k_asm) (by k_mem) (Nat.le_of_ble_eq_true rfl) ?_)
  intro g0
  refine CompRest.succ ?_
  intro v I0 oI0 C0 oC0 Dd mm h3 tk3 E3 hv hC hx F3 N3 off ne
  have e : Value.int n0 un0 = v := Option.some.inj hv
  subst e
  have off' := off
  simp only [LCg.Off3, and_true] at off'
  k_steps
  show wpAny (model PP w) (ktrTop dp un gd lawN lawSc L 204 (.ref 203) (lawCl L) []) (call (.ref 154) [.int n0 _]) _ _ _
  with_reducible refine' name_use hn0.1 hn0.2 B F3 X N3 T rfl ?hd ?hu ?_
  case hd => exact room_le hd (by decide)
  case hu => exact room_le hu (by decide)
  intro m0 ta0 tb0 h5 tk5 F5 N5 lt5
  have g1 : @Ne Nat m0 I0 := Nat.ne_of_gt (lt5 (I0, oI0) (.head _))
  have g2 : @Ne Nat m0 C0 := Nat.ne_of_gt (lt5 (C0, oC0) (.tail _ (.head _)))
  have g3 : @Ne Nat m0 Dd := Nat.ne_of_gt (lt5 (Dd, LCg.lst []) (.tail _ (.tail _ (.head _))))
  refine LCg.CompEnd.intro F5 N5 ((m0, { cls := .type "tuple", data := .seq #[.str (nRw n0) ta0, .str (nFo n0) tb0] }) :: ((L + 6, oR) :: (ls, W.listOf #[.int n0 un0, .int n1 un1, .int n2 un2] ks) :: news)) ?sub ⟨⟨g1, g2, g3⟩, off⟩ (.inr ⟨_, by k_mem, rfl, _, rfl⟩) ?_
  case sub =>
    intro p hp
    simp only [List.mem_cons] at hp ⊢
    rcases hp with hp | hp | hp | hp | hp
    · exact .inr (.inl hp)
    · exact .inr (.inr (.inl hp))
    · exact .inr (.inr (.inr (.inl hp)))
    · exact .inl hp
    · exact .inr (.inr (.inr (.inr hp)))
  clear hC hx F3 N3 off off' ne F5 N5 g1 g2 g3 lt5
  refine CompRest.succ ?_
  intro v I0 oI0 C0 oC0 Dd mm h3 tk3 E3 hv hC hx F3 N3 off ne
  have e : Value.int n1 un1 = v := Option.some.inj hv
  subst e
  have off' := off
  simp only [LCg.Off3, and_true] at off'
  k_steps
  show wpAny (model PP w) (ktrTop dp un gd lawN lawSc L 204 (.ref 203) (lawCl L) []) (call (.ref 154) [.int n1 _]) _ _ _
  with_reducible refine' name_use hn1.1 hn1.2 B F3 X N3 T rfl ?hd ?hu ?_
  case hd => exact room_le hd (by decide)
  case hu => exact room_le hu (by decide)
  intro m1 ta1 tb1 h5 tk5 F5 N5 lt5
  have g1 : @Ne Nat m1 I0 := Nat.ne_of_gt (lt5 (I0, oI0) (.head _))
  have g2 : @Ne Nat m1 C0 := Nat.ne_of_gt (lt5 (C0, oC0) (.tail _ (.head _)))
  have g3 : @Ne Nat m1 Dd := Nat.ne_of_gt (lt5 (Dd, LCg.lst ([] ++ [.ref m0])) (.tail _ (.tail _ (.head _))))
  refine LCg.CompEnd.intro F5 N5 ((m1, { cls := .type "tuple", data := .seq #[.str (nRw n1) ta1, .str (nFo n1) tb1] }) :: (m0, { cls := .type "tuple", data := .seq #[.str (nRw n0) ta0, .str (nFo n0) tb0] }) :: ((L + 6, oR) :: (ls, W.listOf #[.int n0 un0, .int n1 un1, .int n2 un2] ks) :: news)) ?sub ⟨⟨g1, g2, g3⟩, off⟩ (.inr ⟨_, by k_mem, rfl, _, rfl⟩) ?_
  case sub =>
    intro p hp
    simp only [List.mem_cons] at hp ⊢
    rcases hp with hp | hp | hp | hp | hp
    · exact .inr (.inl hp)
    · exact .inr (.inr (.inl hp))
    · exact .inr (.inr (.inr (.inl hp)))
    · exact .inl hp
    · exact .inr (.inr (.inr (.inr hp)))
  clear hC hx F3 N3 off off' ne F5 N5 g1 g2 g3 lt5
  refine CompRest.succ ?_
  intro v I0 oI0 C0 oC0 Dd mm h3 tk3 E3 hv hC hx F3 N3 off ne
  have e : Value.int n2 un2 = v := Option.some.inj hv
  subst e
  have off' := off
  simp only [LCg.Off3, and_true] at off'
  k_steps
  show wpAny (model PP w) (ktrTop dp un gd lawN lawSc L 204 (.ref 203) (lawCl L) []) (call (.ref 154) [.int n2 _]) _ _ _
  with_reducible refine' name_use hn2.1 hn2.2 B F3 X N3 T rfl ?hd ?hu ?_
  case hd => exact room_le hd (by decide)
  case hu => exact room_le hu (by decide)
  intro m2 ta2 tb2 h5 tk5 F5 N5 lt5
  have g1 : @Ne Nat m2 I0 := Nat.ne_of_gt (lt5 (I0, oI0) (.head _))
  have g2 : @Ne Nat m2 C0 := Nat.ne_of_gt (lt5 (C0, oC0) (.tail _ (.head _)))
  have g3 : @Ne Nat m2 Dd := Nat.ne_of_gt (lt5 (Dd, LCg.lst ([] ++ [.ref m0] ++ [.ref m1])) (.tail _ (.tail _ (.head _))))
  refine LCg.CompEnd.intro F5 N5 ((m2, { cls := .type "tuple", data := .seq #[.str (nRw n2) ta2, .str (nFo n2) tb2] }) :: (m1, { cls := .type "tuple", data := .seq #[.str (nRw n1) ta1, .str (nFo n1) tb1] }) :: (m0, { cls := .type "tuple", data := .seq #[.str (nRw n0) ta0, .str (nFo n0) tb0] }) :: ((L + 6, oR) :: (ls, W.listOf #[.int n0 un0, .int n1 un1, .int n2 un2] ks) :: news)) ?sub ⟨⟨g1, g2, g3⟩, off⟩ (.inr ⟨_, by k_mem, rfl, _, rfl⟩) ?_
  case sub =>
    intro p hp
    simp only [List.mem_cons] at hp ⊢
    rcases hp with hp | hp | hp | hp | hp
    · exact .inr (.inl hp)
    · exact .inr (.inr (.inl hp))
    · exact .inr (.inr (.inr (.inl hp)))
    · exact .inl hp
    · exact .inr (.inr (.inr (.inr hp)))
  clear hC hx F3 N3 off off' ne F5 N5 g1 g2 g3 lt5
  refine CompRest.zero ?_
  intro D h' tk' F' N' o1
  exact hret D m0 m1 m2 _ _ _ _ _ _ h' tk' F' N' o1
end
section
variable {w : World} {mean : ExcName → Option Value} {mg mb : Str → Option Value} {news : List (Addr × Obj)} {dp un : Nat} {gd : Option (List Code)} {A₀ : Around} {base h₀ : Heap} {L : Addr} {mr : Str → Option Value} {s : Shared} {Q : Flow → Shared → Prop} {E : Value → Shared → Prop}
theorem numbers_use {lc : Addr} {kc : Nat} {oC : Obj} {c0 c1 c2 c3 c4 c5 : Int} {u0 u1 u2 u3 u4 u5 : Tok}
    (hoC : oC.data = .cell (some (.ref lc)))
    (B : Below A₀ base [] h₀) (X : (KK w.params).In h₀) (T : Top VV (looseW VV LO) mean mg mb h₀) (F : Fr h₀ L s.heap mr)
    (N : News h₀ L s.heap ((L + 3, oC) :: (lc, W.listOf #[.int c0 u0, .int c1 u1, .int c2 u2, .int c3 u3, .int c4 u4, .int c5 u5] kc) :: news)) (hd : dp + 3 < recursionLimit) (hu : un + 30 < cLine)
    (hret : ∀ D y0 y1 y2 h' tk', (∃ t, y0 = .int (4 * (c3.fmod 101 - 50) + 0 + 1) t) → (∃ t, y1 = .int (4 * (c4.fmod 101 - 50) + 1 + 1) t) → (∃ t, y2 = .int (4 * (c5.fmod 101 - 50) + 2 + 1) t) → Fr h₀ L h' (fun z => if z = Str.ofString "numbers" then some (.ref D) else mr z) → News h₀ L h' ((D, LCg.lst [y0, y1, y2]) :: ((L + 3, oC) :: (lc, W.listOf #[.int c0 u0, .int c1 u1, .int c2 u2, .int c3 u3, .int c4 u4, .int c5 u5] kc) :: news)) → LCg.Off1 D ((L + 3, oC) :: (lc, W.listOf #[.int c0 u0, .int c1 u1, .int c2 u2, .int c3 u3, .int c4 u4, .int c5 u5] kc) :: news) → Q .next { s with heap := h', toks := tk' }) :
    wpAny (model PP w) (ktrTop dp un gd lawN lawSc L 204 (.ref 203) (lawCl L) []) (exec (q26.1.2.1[6]?.getD (.Pass default)) (envX lawN lawSc L 204 (.ref 203) (lawCl L))) Q E s := by
  show wpAny _ _ (exec (Stmt.Assign _ _ _) _) _ _ _
  (try k_fold)
  k_dflt (refine LCg.Assign_ListComp_U F (by rfl) (by with_unfolding_all rfl) (by with_unfolding_all rfl) (by decide) (by rfl) (by decide) (by rfl) (by rfl) (by rfl) ?_ (by intro _; rfl))
  iterate 7 (walk1)
  k_dflt (refine LCg.CompSrc.range (n := 3) (by rfl) (by k_asm) (by k_asm) (by assumption) (by decide) (by decide) (Nat.le_of_ble_eq_true rfl) ?_)
  intro g0
  refine rest3 (fun j y => ∃ t, y = .int (4 * ((([c3, c4, c5] : List Int).getD j 0).fmod 101 - 50) + j + 1) t) ?turn ?fin
  case fin =>
    rintro y0 y1 y2 h0 h1 h2 D h' tk' F' N' o1
    exact hret D y0 y1 y2 h' tk' h0 h1 h2 F' N' o1
  case turn =>
    intro j I' oI' C' oC' D' m' ys' h' tk' E' t' hj hC' hx' F' N' off' ne'
    clear hret
    simp only [LCg.Off3, and_true] at off'
    have hj3 : j = 0 ∨ j = 1 ∨ j = 2 := by omega
    rcases hj3 with rfl | rfl | rfl
    all_goals k_steps
    all_goals exact TurnEnd.intro (by k_asm) (by assumption) (fun p hp => hp) ⟨_, rfl⟩
end
end MyLaw
end
end
section
open PySem PySem.Spec PySem.Calls PySem.W PySem.W.X PyProof.Rows
noncomputable section
namespace MyLaw
open LCg LCt
theorem ints_append : ∀ {a b : List Value} {m n : List Int}, IntsAre a m → IntsAre b n → IntsAre (a ++ b) (m ++ n)
  | _, _, _, _, .nil, h => h
  | _, _, _, _, .cons v t h, h' => .cons v t (ints_append h h')
def bitsOf (k : Nat) : List Int := ((List.range 3).filter fun j => decide (k / 2 ^ j % 2 = 1)).map fun j : Nat => (j : Int)
theorem restFR {prog : Program} {w : World} {A : Around} {h₀ : Heap} {L : Addr} {m : Str → Option Value} {env : Env} {ct : PySem.Expr} {x : Str} {px : Pos} {scope : Scope} {cl : List (Str × Addr)} {s : Shared} {Fin : List Value → List (Addr × Obj) → Prop} {news : List (Addr × Obj)} (n : Nat) (pp : Nat → Bool)
    (hkx : ∀ C, (compEnvC scope cl C env).kindOf x = some .local) (hks : scope.kind = .function) (hdx : (x == ("__debug__" : Str)) = false)
    (turn : ∀ (j : Nat) I oI C oC D m₂ ys h tk (E' : Value → Shared → Prop) t, j < n → NsObj oC m₂ → m₂ x = some (.int j t) → Fr h₀ L h m → News h₀ L h ((I, oI) :: (C, oC) :: (D, lst ys) :: news) → Off3 I C D news → ((@Ne Nat I C) ∧ (@Ne Nat I D) ∧ (@Ne Nat C D)) →
      wpAny (model prog w) A (isTrue ct (compEnvC scope cl C env) (eval ct (compEnvC scope cl C env))) (fun ok s₂ => TurnEnd h₀ L m s ((I, oI) :: (C, oC) :: (D, lst ys) :: news) (fun v => v = .bool (pp j)) (.bool ok) s₂) E' { s with heap := h, toks := tk })
    (fin : ∀ ys, IntsAre ys (((List.range n).filter pp).map fun j : Nat => (j : Int)) → Fin ys news) :
    CompRestT prog w A h₀ L m env ct (.Name x px) x scope cl s (fun _ => True) (fun i v => ∃ t, v = .int (0 + (i : Int)) t) Fin n 0 [] news := by
  have key : ∀ (k i : Nat) (ys : List Value), i + k = n → IntsAre ys (((List.range i).filter pp).map fun j : Nat => (j : Int)) →
      CompRestT prog w A h₀ L m env ct (.Name x px) x scope cl s (fun _ => True) (fun i v => ∃ t, v = .int (0 + (i : Int)) t) Fin k i ys news := by
    intro k
    induction k with
    | zero =>
      intro i ys hi hy
      refine CompRestT.zero (fin ys ?_)
      rw [show n = i by omega]
      exact hy
    | succ k ih =>
      intro i ys hi hy
      refine CompRestT.succ ?_
      intro v I oI C oC D m₂ h tk E' hv hC hx F N off ne
      obtain ⟨t, rfl⟩ := hv
      rw [Int.zero_add] at hx
      refine wpAny_mono (turn i I oI C oC D m₂ ys h tk E' t (by omega) hC hx F N off ne) (fun ok s₂ hy₂ => ?_) fun _ _ e => e
      obtain ⟨h', tk', rfl, F', N', hb⟩ := hy₂
      have hb : ok = pp i := by simpa using hb
      cases ok with
      | true =>
        rw [if_pos rfl]
        have hns : h'.Ns C m₂ := hC.ns (N' (C, oC) (.tail _ (.head _))).1
        refine wpAny_Name (wpAny_loadName_local hks (hkx C) hns hx ?_) hdx
        refine ⟨h', tk', news, rfl, F', N', off, trivial, ih (i + 1) _ (by omega) ?_⟩
        rw [List.range_succ, List.filter_append, List.map_append]
        refine ints_append hy ?_
        simp only [List.filter_cons, ← hb, if_true, List.filter_nil, List.map_cons, List.map_nil]
        exact .cons _ _ .nil
      | false =>
        rw [if_neg Bool.false_ne_true]
        refine ⟨h', tk', news, rfl, F', N', off, trivial, ih (i + 1) _ (by omega) ?_⟩
        rw [List.range_succ, List.filter_append, List.map_append]
        simp only [List.filter_cons, ← hb, Bool.false_eq_true, if_false, List.filter_nil, List.map_nil, List.append_nil]
        exact hy
  exact key n 0 [] (by omega) .nil
def lawChoices : PySem.Expr := match q26.1.2.1[10]? with
  | some (Stmt.Assign _ e _) => e
  | _ => .Constant .none 0 default
def lawChoice : PySem.Expr := match lawChoices with
  | .ListComp e _ _ _ => e
  | _ => .Constant .none 0 default
def lawChoiceSc : Scope := match lawChoices with
  | .ListComp _ _ sc _ => sc
  | _ => default
section
variable {w : World} {mean : ExcName → Option Value} {mg mb : Str → Option Value} {news : List (Addr × Obj)} {dp un : Nat} {gd : Option (List Code)} {A₀ : Around} {base h₀ : Heap} {L : Addr} {mr : Str → Option Value} {s : Shared} {Q : Value → Shared → Prop} {E : Value → Shared → Prop}
theorem choice_use {c C1 : Addr} {oc : Obj} {k : Nat} {tx : Tok} (hk8 : k < 8) (hoc : oc.data = .cell (some (.int (k : Int) tx)))
    (B : Below A₀ base [] h₀) (X : (KK w.params).In h₀) (T : Top VV (looseW VV LO) mean mg mb h₀) (F : Fr h₀ L s.heap mr)
    (N : News h₀ L s.heap ((c, oc) :: news)) (hd : dp + 3 < recursionLimit) (hu : un + 30 < cLine)
    (hret : ∀ D ys h' tk', IntsAre ys (bitsOf k) → Fr h₀ L h' mr → News h₀ L h' ((D, LCg.lst ys) :: ((c, oc) :: news)) → LCg.Off1 D ((c, oc) :: news) → Q (.ref D) { s with heap := h', toks := tk' }) :
    wpAny (model PP w) (ktrTop dp un gd lawN lawSc L 204 (.ref 203) (lawCl L) []) (eval lawChoice (compEnvC lawChoiceSc ((Str.ofString "mask", c) :: []) C1 (envX lawN lawSc L 204 (.ref 203) (lawCl L)))) Q E s := by
  show wpAny _ _ (eval (PySem.Expr.ListComp _ _ _ _) _) _ _ _
  (try k_fold)
  k_dflt (refine LCt.ListComp_T F (by with_unfolding_all rfl) (by decide) (by rfl) (by decide) (by rfl) ?_ (by intro _; rfl))
  iterate 7 (walk1)
  k_dflt (refine LCt.CompSrcT.range (n := 3) (by rfl) (by k_asm) (by k_asm) (by assumption) (by decide) (by decide) (Nat.le_of_ble_eq_true rfl) ?_)
  intro g0
  refine restFR 3 (fun j => decide (k / 2 ^ j % 2 = 1)) (fun _ => rfl) rfl rfl ?turn ?fin
  case fin =>
    rintro ys hi D h' tk' F' N' o1
    exact hret D ys h' tk' hi F' N' o1
  case turn =>
    intro j I' oI' C' oC' D' m' ys' h' tk' E' t' hj hC' hx' F' N' off' ne'
    clear hret
    simp only [LCg.Off3, and_true] at off'
    have hk0 : (0 : Int) ≤ k := Int.natCast_nonneg k
    have hk7 : (k : Int) < 8 := by omega
    have hj0 : (0 : Int) ≤ j := Int.natCast_nonneg j
    have hj2 : (j : Int) < 3 := by omega
    k_steps
    refine TurnEnd.intro (by k_asm) (by assumption) (fun p hp => hp) ?_
    have hk9 : k = 0 ∨ k = 1 ∨ k = 2 ∨ k = 3 ∨ k = 4 ∨ k = 5 ∨ k = 6 ∨ k = 7 := by omega
    have hj9 : j = 0 ∨ j = 1 ∨ j = 2 := by omega
    rcases hk9 with rfl | rfl | rfl | rfl | rfl | rfl | rfl | rfl <;> rcases hj9 with rfl | rfl | rfl <;> decide
end
end MyLaw
end
end
section
open PySem PySem.Spec PySem.Calls PySem.W PySem.W.X PyProof.Rows
noncomputable section
namespace MyLaw
open LCg LCt
section
variable {w : World} {mean : ExcName → Option Value} {mg mb : Str → Option Value} {news : List (Addr × Obj)} {dp un : Nat} {gd : Option (List Code)} {A₀ : Around} {base h₀ : Heap} {L : Addr} {mr : Str → Option Value} {s : Shared} {Q : Flow → Shared → Prop} {E : Value → Shared → Prop}
theorem choices_use
    (B : Below A₀ base [] h₀) (X : (KK w.params).In h₀) (T : Top VV (looseW VV LO) mean mg mb h₀) (F : Fr h₀ L s.heap mr)
    (N : News h₀ L s.heap news) (hd : dp + 3 < recursionLimit) (hu : un + 30 < cLine)
    (hret : ∀ D D0 D1 D2 D3 D4 D5 D6 D7 ys0 ys1 ys2 ys3 ys4 ys5 ys6 ys7 h' tk', IntsAre ys0 (bitsOf 0) → IntsAre ys1 (bitsOf 1) → IntsAre ys2 (bitsOf 2) → IntsAre ys3 (bitsOf 3) → IntsAre ys4 (bitsOf 4) → IntsAre ys5 (bitsOf 5) → IntsAre ys6 (bitsOf 6) → IntsAre ys7 (bitsOf 7) → Fr h₀ L h' (fun z => if z = Str.ofString "choices" then some (.ref D) else mr z) → News h₀ L h' ((D, LCg.lst [.ref D0, .ref D1, .ref D2, .ref D3, .ref D4, .ref D5, .ref D6, .ref D7]) :: (D7, LCg.lst ys7) :: (D6, LCg.lst ys6) :: (D5, LCg.lst ys5) :: (D4, LCg.lst ys4) :: (D3, LCg.lst ys3) :: (D2, LCg.lst ys2) :: (D1, LCg.lst ys1) :: (D0, LCg.lst ys0) :: news) → Q .next { s with heap := h', toks := tk' }) :
    wpAny (model PP w) (ktrTop dp un gd lawN lawSc L 204 (.ref 203) (lawCl L) []) (exec (q26.1.2.1[10]?.getD (.Pass default)) (envX lawN lawSc L 204 (.ref 203) (lawCl L))) Q E s := by
  show wpAny _ _ (exec (Stmt.Assign _ _ _) _) _ _ _
  (try k_fold)
  k_dflt (refine Assign_UC F (by rfl) (by with_unfolding_all rfl) (by with_unfolding_all rfl) (fun _ => rfl) (fun _ => rfl) rfl (by decide) (fun _ _ => rfl) (by rfl) (by rfl) ?_ (by intro _; rfl))
  iterate 7 (walk1)
  refine CompSrcC.range (n := 8) (by rfl) (by k_asm) (by k_asm) (by assumption) (by decide) (by decide) (Nat.le_of_ble_eq_true rfl) ?_
  intro g0
  intro v I' oI' C' oC' Dd m' c' oc' h' tk' E' hv hC' hcc' F' N' off' ne' offc'
  obtain ⟨tv, rfl⟩ := hv
  rw [show (0 : Int) + ((0 : Nat) : Int) = ((0 : Nat) : Int) from rfl] at hcc'
  have NX := nM (p := (c', oc')) N' (by k_mem) N'
  show wpAny (model PP w) (ktrTop dp un gd lawN lawSc L 204 (.ref 203) (lawCl L) []) (eval lawChoice (compEnvC lawChoiceSc ((Str.ofString "mask", c') :: []) C' (envX lawN lawSc L 204 (.ref 203) (lawCl L)))) _ _ _
  with_reducible refine' choice_use (k := 0) (by decide) hcc' B X T F' NX hd hu ?_
  intro D0 ys0 h0 tk0 i0 F0 N0 o0
  refine restC_end F0 (news_tail (pre := [_]) N0) (off1_tail (pre := [_]) o0) off' offc' trivial ?_
  clear NX N' F' F0 N0 o0 off' offc' hC' hcc' ne'
  intro v I' oI' C' oC' Dd m' c' oc' h' tk' E' hv hC' hcc' F' N' off' ne' offc'
  obtain ⟨tv, rfl⟩ := hv
  rw [show (0 : Int) + ((1 : Nat) : Int) = ((1 : Nat) : Int) from rfl] at hcc'
  have NX := nM (p := (c', oc')) N' (by k_mem) N'
  show wpAny (model PP w) (ktrTop dp un gd lawN lawSc L 204 (.ref 203) (lawCl L) []) (eval lawChoice (compEnvC lawChoiceSc ((Str.ofString "mask", c') :: []) C' (envX lawN lawSc L 204 (.ref 203) (lawCl L)))) _ _ _
  with_reducible refine' choice_use (k := 1) (by decide) hcc' B X T F' NX hd hu ?_
  intro D1 ys1 h1 tk1 i1 F1 N1 o1
  refine restC_end F1 (news_tail (pre := [_]) N1) (off1_tail (pre := [_]) o1) off' offc' trivial ?_
  clear NX N' F' F1 N1 o1 off' offc' hC' hcc' ne'
  intro v I' oI' C' oC' Dd m' c' oc' h' tk' E' hv hC' hcc' F' N' off' ne' offc'
  obtain ⟨tv, rfl⟩ := hv
  rw [show (0 : Int) + ((2 : Nat) : Int) = ((2 : Nat) : Int) from rfl] at hcc'
  have NX := nM (p := (c', oc')) N' (by k_mem) N'
  show wpAny (model PP w) (ktrTop dp un gd lawN lawSc L 204 (.ref 203) (lawCl L) []) (eval lawChoice (compEnvC lawChoiceSc ((Str.ofString "mask", c') :: []) C' (envX lawN lawSc L 204 (.ref 203) (lawCl L)))) _ _ _
  with_reducible refine' choice_use (k := 2) (by decide) hcc' B X T F' NX hd hu ?_
  intro D2 ys2 h2 tk2 i2 F2 N2 o2
  refine restC_end F2 (news_tail (pre := [_]) N2) (off1_tail (pre := [_]) o2) off' offc' trivial ?_
  clear NX N' F' F2 N2 o2 off' offc' hC' hcc' ne'
  intro v I' oI' C' oC' Dd m' c' oc' h' tk' E' hv hC' hcc' F' N' off' ne' offc'
  obtain ⟨tv, rfl⟩ := hv
  rw [show (0 : Int) + ((3 : Nat) : Int) = ((3 : Nat) : Int) from rfl] at hcc'
  have NX := nM (p := (c', oc')) N' (by k_mem) N'
  show wpAny (model PP w) (ktrTop dp un gd lawN lawSc L 204 (.ref 203) (lawCl L) []) (eval lawChoice (compEnvC lawChoiceSc ((Str.ofString "mask", c') :: []) C' (envX lawN lawSc L 204 (.ref 203) (lawCl L)))) _ _ _
  with_reducible refine' choice_use (k := 3) (by decide) hcc' B X T F' NX hd hu ?_
  intro D3 ys3 h3 tk3 i3 F3 N3 o3
  refine restC_end F3 (news_tail (pre := [_]) N3) (off1_tail (pre := [_]) o3) off' offc' trivial ?_
  clear NX N' F' F3 N3 o3 off' offc' hC' hcc' ne'
  intro v I' oI' C' oC' Dd m' c' oc' h' tk' E' hv hC' hcc' F' N' off' ne' offc'
  obtain ⟨tv, rfl⟩ := hv
  rw [show (0 : Int) + ((4 : Nat) : Int) = ((4 : Nat) : Int) from rfl] at hcc'
  have NX := nM (p := (c', oc')) N' (by k_mem) N'
  show wpAny (model PP w) (ktrTop dp un gd lawN lawSc L 204 (.ref 203) (lawCl L) []) (eval lawChoice (compEnvC lawChoiceSc ((Str.ofString "mask", c') :: []) C' (envX lawN lawSc L 204 (.ref 203) (lawCl L)))) _ _ _
  with_reducible refine' choice_use (k := 4) (by decide) hcc' B X T F' NX hd hu ?_
  intro D4 ys4 h4 tk4 i4 F4 N4 o4
  refine restC_end F4 (news_tail (pre := [_]) N4) (off1_tail (pre := [_]) o4) off' offc' trivial ?_
  clear NX N' F' F4 N4 o4 off' offc' hC' hcc' ne'
  intro v I' oI' C' oC' Dd m' c' oc' h' tk' E' hv hC' hcc' F' N' off' ne' offc'
  obtain ⟨tv, rfl⟩ := hv
  rw [show (0 : Int) + ((5 : Nat) : Int) = ((5 : Nat) : Int) from rfl] at hcc'
  have NX := nM (p := (c', oc')) N' (by k_mem) N'
  show wpAny (model PP w) (ktrTop dp un gd lawN lawSc L 204 (.ref 203) (lawCl L) []) (eval lawChoice (compEnvC lawChoiceSc ((Str.ofString "mask", c') :: []) C' (envX lawN lawSc L 204 (.ref 203) (lawCl L)))) _ _ _
  with_reducible refine' choice_use (k := 5) (by decide) hcc' B X T F' NX hd hu ?_
  intro D5 ys5 h5 tk5 i5 F5 N5 o5
  refine restC_end F5 (news_tail (pre := [_]) N5) (off1_tail (pre := [_]) o5) off' offc' trivial ?_
  clear NX N' F' F5 N5 o5 off' offc' hC' hcc' ne'
  intro v I' oI' C' oC' Dd m' c' oc' h' tk' E' hv hC' hcc' F' N' off' ne' offc'
  obtain ⟨tv, rfl⟩ := hv
  rw [show (0 : Int) + ((6 : Nat) : Int) = ((6 : Nat) : Int) from rfl] at hcc'
  have NX := nM (p := (c', oc')) N' (by k_mem) N'
  show wpAny (model PP w) (ktrTop dp un gd lawN lawSc L 204 (.ref 203) (lawCl L) []) (eval lawChoice (compEnvC lawChoiceSc ((Str.ofString "mask", c') :: []) C' (envX lawN lawSc L 204 (.ref 203) (lawCl L)))) _ _ _
  with_reducible refine' choice_use (k := 6) (by decide) hcc' B X T F' NX hd hu ?_
  intro D6 ys6 h6 tk6 i6 F6 N6 o6
  refine restC_end F6 (news_tail (pre := [_]) N6) (off1_tail (pre := [_]) o6) off' offc' trivial ?_
  clear NX N' F' F6 N6 o6 off' offc' hC' hcc' ne'
  intro v I' oI' C' oC' Dd m' c' oc' h' tk' E' hv hC' hcc' F' N' off' ne' offc'
  obtain ⟨tv, rfl⟩ := hv
  rw [show (0 : Int) + ((7 : Nat) : Int) = ((7 : Nat) : Int) from rfl] at hcc'
  have NX := nM (p := (c', oc')) N' (by k_mem) N'
  show wpAny (model PP w) (ktrTop dp un gd lawN lawSc L 204 (.ref 203) (lawCl L) []) (eval lawChoice (compEnvC lawChoiceSc ((Str.ofString "mask", c') :: []) C' (envX lawN lawSc L 204 (.ref 203) (lawCl L)))) _ _ _
  with_reducible refine' choice_use (k := 7) (by decide) hcc' B X T F' NX hd hu ?_
  intro D7 ys7 h7 tk7 i7 F7 N7 o7
  refine restC_end F7 (news_tail (pre := [_]) N7) (off1_tail (pre := [_]) o7) off' offc' trivial ?_
  clear NX N' F' F7 N7 o7 off' offc' hC' hcc' ne'
  refine restC_zero ?_
  intro D h' tk' F' N' o1
  exact hret D D0 D1 D2 D3 D4 D5 D6 D7 _ _ _ _ _ _ _ _ h' tk' i0 i1 i2 i3 i4 i5 i6 i7 F' N'
end
end MyLaw
end
end
section
open PySem PySem.Spec PySem.Calls PySem.W PySem.W.X PyProof.Rows
noncomputable section
namespace MyLaw
open LCg
section
variable {w : World} {mean : ExcName → Option Value} {mg mb : Str → Option Value} {news : List (Addr × Obj)} {dp un : Nat} {gd : Option (List Code)} {A₀ : Around} {base h₀ : Heap} {L : Addr} {mr : Str → Option Value} {s : Shared} {Q : Flow → Shared → Prop} {E : Value → Shared → Prop}
theorem total_use {lc : Addr} {kc : Nat} {oC : Obj} {c0 c1 c2 c3 c4 c5 : Int} {u0 u1 u2 u3 u4 u5 : Tok}
    (hoC : oC.data = .cell (some (.ref lc)))
    (B : Below A₀ base [] h₀) (X : (KK w.params).In h₀) (T : Top VV (looseW VV LO) mean mg mb h₀) (F : Fr h₀ L s.heap mr)
    (N : News h₀ L s.heap ((L + 3, oC) :: (lc, W.listOf #[.int c0 u0, .int c1 u1, .int c2 u2, .int c3 u3, .int c4 u4, .int c5 u5] kc) :: news)) (hd : dp + 3 < recursionLimit) (hu : un + 30 < cLine)
    (hret : ∀ tot t h' tk', Fr h₀ L h' (fun z => if z = Str.ofString "total" then some (.int tot t) else mr z) → News h₀ L h' ((L + 3, oC) :: (lc, W.listOf #[.int c0 u0, .int c1 u1, .int c2 u2, .int c3 u3, .int c4 u4, .int c5 u5] kc) :: news) → Q .next { s with heap := h', toks := tk' }) :
    wpAny (model PP w) (ktrTop dp un gd lawN lawSc L 204 (.ref 203) (lawCl L) []) (exec (q26.1.2.1[7]?.getD (.Pass default)) (envX lawN lawSc L 204 (.ref 203) (lawCl L))) Q E s := by
  show wpAny _ _ (exec (Stmt.Assign _ _ _) _) _ _ _
  (try k_fold)
  k_steps
  exact hret _ _ _ _ (by k_asm) (by assumption)
theorem base_use {oB : Obj} {voB : Option Value}  (hoB : oB.data = .cell voB) (hfar : ∀ p ∈ news, p.1 ≠ L + 2)
    (B : Below A₀ base [] h₀) (X : (KK w.params).In h₀) (T : Top VV (looseW VV LO) mean mg mb h₀) (F : Fr h₀ L s.heap mr)
    (N : News h₀ L s.heap ((L + 2, oB) :: news)) (hd : dp + 3 < recursionLimit) (hu : un + 30 < cLine)
    (hret : ∀ D oB' t0 t1 t2 t3 t4 t5 h' tk', oB'.data = .cell (some (.ref D)) → Fr h₀ L h' mr → News h₀ L h' ((L + 2, oB') :: (D, W.listOf #[.int 305 t0, .int 560 t1, .int 258 t2, .int 51 t3, .int 48 t4, .int 50 t5] 0) :: news) → Q .next { s with heap := h', toks := tk' }) :
    wpAny (model PP w) (ktrTop dp un gd lawN lawSc L 204 (.ref 203) (lawCl L) []) (exec (q26.1.2.1[0]?.getD (.Pass default)) (envX lawN lawSc L 204 (.ref 203) (lawCl L))) Q E s := by
  show wpAny _ _ (exec (Stmt.Assign _ _ _) _) _ _ _
  (try k_fold)
  k_steps
  rename Fr _ _ _ _ => Fz
  rename News _ _ _ _ => Nz
  rename _ ∧ AllLt _ _ => lt
  have hD := Nat.ne_of_gt lt.1
  refine store_cell (c := L + 2) (rest := _ :: news) Fz Nz rfl (.tail _ (.head _)) hoB (hs_cons (.head _) hD fun p hp => ⟨.tail _ (.tail _ hp), hfar p hp⟩) ?_ rfl rfl
  intro h1 o1 ho1 F1 N1
  exact hret _ o1 _ _ _ _ _ _ h1 _ ho1 F1 N1
theorem left_use {oF : Obj} {voF : Option Value}  (hoF : oF.data = .cell voF) (hfar : ∀ p ∈ news, p.1 ≠ L + 4)
    (B : Below A₀ base [] h₀) (X : (KK w.params).In h₀) (T : Top VV (looseW VV LO) mean mg mb h₀) (F : Fr h₀ L s.heap mr)
    (N : News h₀ L s.heap ((L + 4, oF) :: news)) (hd : dp + 3 < recursionLimit) (hu : un + 30 < cLine)
    (hret : ∀ D oF' t0 t1 t2 t3 h' tk', oF'.data = .cell (some (.ref D)) → Fr h₀ L h' mr → News h₀ L h' ((L + 4, oF') :: (D, W.listOf #[.int 1 t0, .int 2 t1, .int 3 t2, .int 5 t3] 0) :: news) → Q .next { s with heap := h', toks := tk' }) :
    wpAny (model PP w) (ktrTop dp un gd lawN lawSc L 204 (.ref 203) (lawCl L) []) (exec (q26.1.2.1[2]?.getD (.Pass default)) (envX lawN lawSc L 204 (.ref 203) (lawCl L))) Q E s := by
  show wpAny _ _ (exec (Stmt.Assign _ _ _) _) _ _ _
  (try k_fold)
  k_steps
  rename Fr _ _ _ _ => Fz
  rename News _ _ _ _ => Nz
  rename _ ∧ AllLt _ _ => lt
  have hD := Nat.ne_of_gt lt.1
  refine store_cell (c := L + 4) (rest := _ :: news) Fz Nz rfl (.tail _ (.head _)) hoF (hs_cons (.head _) hD fun p hp => ⟨.tail _ (.tail _ hp), hfar p hp⟩) ?_ rfl rfl
  intro h1 o1 ho1 F1 N1
  exact hret _ o1 _ _ _ _ h1 _ ho1 F1 N1
theorem counts_use {oK : Obj} {voK : Option Value} {tot : Int} {tt : Tok} (hoK : oK.data = .cell voK) (hfar : ∀ p ∈ news, p.1 ≠ L + 8)
    (B : Below A₀ base [] h₀) (X : (KK w.params).In h₀) (T : Top VV (looseW VV LO) mean mg mb h₀) (F : Fr h₀ L s.heap (fun z => if z = Str.ofString "total" then some (.int tot tt) else mr z))
    (N : News h₀ L s.heap ((L + 8, oK) :: news)) (hd : dp + 3 < recursionLimit) (hu : un + 30 < cLine)
    (hret : ∀ D oK' t0 t1 h' tk', oK'.data = .cell (some (.ref D)) → Fr h₀ L h' (fun z => if z = Str.ofString "total" then some (.int tot tt) else mr z) → News h₀ L h' ((L + 8, oK') :: (D, W.listOf #[.int (1 + tot.fmod 3) t0, .int (1 + (tot.fdiv 3).fmod 3) t1] 0) :: news) → Q .next { s with heap := h', toks := tk' }) :
    wpAny (model PP w) (ktrTop dp un gd lawN lawSc L 204 (.ref 203) (lawCl L) []) (exec (q26.1.2.1[8]?.getD (.Pass default)) (envX lawN lawSc L 204 (.ref 203) (lawCl L))) Q E s := by
  show wpAny _ _ (exec (Stmt.Assign _ _ _) _) _ _ _
  (try k_fold)
  k_steps
  rename Fr _ _ _ _ => Fz
  rename News _ _ _ _ => Nz
  rename _ ∧ AllLt _ _ => lt
  have hD := Nat.ne_of_gt lt.1
  refine store_cell (c := L + 8) (rest := _ :: news) Fz Nz rfl (.tail _ (.head _)) hoK (hs_cons (.head _) hD fun p hp => ⟨.tail _ (.tail _ hp), hfar p hp⟩) ?_ rfl rfl
  intro h1 o1 ho1 F1 N1
  exact hret _ o1 _ _ h1 _ ho1 F1 N1
theorem times_use {oT : Obj} {voT : Option Value} {tot : Int} {tt : Tok} (hoT : oT.data = .cell voT) (hfar : ∀ p ∈ news, p.1 ≠ L + 9)
    (B : Below A₀ base [] h₀) (X : (KK w.params).In h₀) (T : Top VV (looseW VV LO) mean mg mb h₀) (F : Fr h₀ L s.heap (fun z => if z = Str.ofString "total" then some (.int tot tt) else mr z))
    (N : News h₀ L s.heap ((L + 9, oT) :: news)) (hd : dp + 3 < recursionLimit) (hu : un + 30 < cLine)
    (hret : ∀ D oT' t0 t1 h' tk', oT'.data = .cell (some (.ref D)) → Fr h₀ L h' (fun z => if z = Str.ofString "total" then some (.int tot tt) else mr z) → News h₀ L h' ((L + 9, oT') :: (D, W.listOf #[.int (1 + (tot.fdiv 9).fmod 2) t0, .int (1 + (tot.fdiv 18).fmod 2) t1] 0) :: news) → Q .next { s with heap := h', toks := tk' }) :
    wpAny (model PP w) (ktrTop dp un gd lawN lawSc L 204 (.ref 203) (lawCl L) []) (exec (q26.1.2.1[9]?.getD (.Pass default)) (envX lawN lawSc L 204 (.ref 203) (lawCl L))) Q E s := by
  show wpAny _ _ (exec (Stmt.Assign _ _ _) _) _ _ _
  (try k_fold)
  k_steps
  rename Fr _ _ _ _ => Fz
  rename News _ _ _ _ => Nz
  rename _ ∧ AllLt _ _ => lt
  have hD := Nat.ne_of_gt lt.1
  refine store_cell (c := L + 9) (rest := _ :: news) Fz Nz rfl (.tail _ (.head _)) hoT (hs_cons (.head _) hD fun p hp => ⟨.tail _ (.tail _ hp), hfar p hp⟩) ?_ rfl rfl
  intro h1 o1 ho1 F1 N1
  exact hret _ o1 _ _ h1 _ ho1 F1 N1
theorem told_use (B : Below A₀ base [] h₀) (X : (KK w.params).In h₀) (T : Top VV (looseW VV LO) mean mg mb h₀) (F : Fr h₀ L s.heap mr)
    (N : News h₀ L s.heap news) (hd : dp + 3 < recursionLimit) (hu : un + 30 < cLine)
    (hret : ∀ t h' tk', Fr h₀ L h' (fun z => if z = Str.ofString "told" then some (.int 0 t) else mr z) → News h₀ L h' news → Q .next { s with heap := h', toks := tk' }) :
    wpAny (model PP w) (ktrTop dp un gd lawN lawSc L 204 (.ref 203) (lawCl L) []) (exec (q26.1.2.1[11]?.getD (.Pass default)) (envX lawN lawSc L 204 (.ref 203) (lawCl L))) Q E s := by
  show wpAny _ _ (exec (Stmt.Assign _ _ _) _) _ _ _
  (try k_fold)
  k_steps
  exact hret _ _ _ (by k_asm) (by assumption)
end
end MyLaw
end
end
section
open PySem PySem.Spec PySem.Calls PySem.W PySem.W.X PyProof.Rows
noncomputable section
namespace MyLaw
theorem det_nat (x0 x1 x2 : Int) (p0 p1 p2 : Nat) : detV x0 x1 x2 p0 p1 p2 =
    x0 ^ p0 * x1 ^ p1 * x2 ^ p2 + x0 ^ p1 * x1 ^ p2 * x2 ^ p0 + x0 ^ p2 * x1 ^ p0 * x2 ^ p1
    - (x0 ^ p0 * x1 ^ p2 * x2 ^ p1 + x0 ^ p1 * x1 ^ p0 * x2 ^ p2 + x0 ^ p2 * x1 ^ p1 * x2 ^ p0) := by
  unfold detV
  simp only [Int.toNat_natCast, Int.zero_add]
theorem due_det (x0 x1 x2 : Int) (p0 p1 p2 : Nat) : dueV x0 x1 x2 p0 p1 p2 = detV x0 x1 x2 p0 p1 p2 := by
  rw [det_nat]
  unfold dueV
  simp only [Int.toNat_natCast]
  generalize x0 ^ p0 = a0
  generalize x0 ^ p1 = a1
  generalize x0 ^ p2 = a2
  generalize x1 ^ p0 = b0
  generalize x1 ^ p1 = b1
  generalize x1 ^ p2 = b2
  generalize x2 ^ p0 = c0
  generalize x2 ^ p1 = c1
  generalize x2 ^ p2 = c2
  grind
theorem muir1 (x0 x1 x2 : Int) (p0 p1 p2 z : Nat) : detV x0 x1 x2 (p0 + z : Nat) p1 p2 + detV x0 x1 x2 p0 (p1 + z : Nat) p2 + detV x0 x1 x2 p0 p1 (p2 + z : Nat) = detV x0 x1 x2 p0 p1 p2 * facC x0 x1 x2 1 z := by
  simp only [det_nat, Int.pow_add, facC, Int.toNat_natCast, if_true]
  generalize x0 ^ p0 = a0
  generalize x0 ^ p1 = a1
  generalize x0 ^ p2 = a2
  generalize x1 ^ p0 = b0
  generalize x1 ^ p1 = b1
  generalize x1 ^ p2 = b2
  generalize x2 ^ p0 = c0
  generalize x2 ^ p1 = c1
  generalize x2 ^ p2 = c2
  generalize x0 ^ z = u
  generalize x1 ^ z = v
  generalize x2 ^ z = w
  grind
theorem muir2 (x0 x1 x2 : Int) (p0 p1 p2 z : Nat) : detV x0 x1 x2 (p0 + z : Nat) (p1 + z : Nat) p2 + detV x0 x1 x2 (p0 + z : Nat) p1 (p2 + z : Nat) + detV x0 x1 x2 p0 (p1 + z : Nat) (p2 + z : Nat) = detV x0 x1 x2 p0 p1 p2 * facC x0 x1 x2 2 z := by
  simp only [det_nat, Int.pow_add, facC, Int.toNat_natCast, if_true]
  rw [if_neg (by decide)]
  generalize x0 ^ p0 = a0
  generalize x0 ^ p1 = a1
  generalize x0 ^ p2 = a2
  generalize x1 ^ p0 = b0
  generalize x1 ^ p1 = b1
  generalize x1 ^ p2 = b2
  generalize x2 ^ p0 = c0
  generalize x2 ^ p1 = c1
  generalize x2 ^ p2 = c2
  generalize x0 ^ z = u
  generalize x1 ^ z = v
  generalize x2 ^ z = w
  grind
theorem muir3 (x0 x1 x2 : Int) (p0 p1 p2 z : Nat) : detV x0 x1 x2 (p0 + z : Nat) (p1 + z : Nat) (p2 + z : Nat) = detV x0 x1 x2 p0 p1 p2 * facC x0 x1 x2 3 z := by
  simp only [det_nat, Int.pow_add, facC, Int.toNat_natCast]
  rw [if_neg (by decide), if_neg (by decide)]
  generalize x0 ^ p0 = a0
  generalize x0 ^ p1 = a1
  generalize x0 ^ p2 = a2
  generalize x1 ^ p0 = b0
  generalize x1 ^ p1 = b1
  generalize x1 ^ p2 = b2
  generalize x2 ^ p0 = c0
  generalize x2 ^ p1 = c1
  generalize x2 ^ p2 = c2
  generalize x0 ^ z = u
  generalize x1 ^ z = v
  generalize x2 ^ z = w
  grind
def Chs8 (chs : List CH) : Prop := ∃ q0 q1 q2 q3 q4 q5 q6 q7 : CH, chs = [q0, q1, q2, q3, q4, q5, q6, q7] ∧
  (q0.bs = [] ∧ q1.bs = [0] ∧ q2.bs = [1] ∧ q3.bs = [0, 1] ∧ q4.bs = [2] ∧ q5.bs = [0, 2] ∧ q6.bs = [1, 2] ∧ q7.bs = [0, 1, 2]) ∧
  (q0.vs.length = 0 ∧ q1.vs.length = 1 ∧ q2.vs.length = 1 ∧ q3.vs.length = 2 ∧ q4.vs.length = 1 ∧ q5.vs.length = 2 ∧ q6.vs.length = 2 ∧ q7.vs.length = 3)
theorem sel_sum {chs : List CH} (h : Chs8 chs) {c : Int} (hc : 1 ≤ c ∧ c ≤ 3) (f : List Int → Int) (g : CH → Int) (hg : ∀ q ∈ chs, g q = f q.bs) :
    ((selC chs c).map g).sum = if c = 1 then f [0] + f [1] + f [2] else if c = 2 then f [0, 1] + f [0, 2] + f [1, 2] else f [0, 1, 2] := by
  obtain ⟨q0, q1, q2, q3, q4, q5, q6, q7, rfl, ⟨b0, b1, b2, b3, b4, b5, b6, b7⟩, l0, l1, l2, l3, l4, l5, l6, l7⟩ := h
  have g1 := hg q1 (by simp)
  have g2 := hg q2 (by simp)
  have g3 := hg q3 (by simp)
  have g4 := hg q4 (by simp)
  have g5 := hg q5 (by simp)
  have g6 := hg q6 (by simp)
  have g7 := hg q7 (by simp)
  rw [b1] at g1
  rw [b2] at g2
  rw [b3] at g3
  rw [b4] at g4
  rw [b5] at g5
  rw [b6] at g6
  rw [b7] at g7
  have hc3 : c = 1 ∨ c = 2 ∨ c = 3 := by omega
  rcases hc3 with rfl | rfl | rfl
  · simp only [selC, List.filter_cons, List.filter_nil, l0, l1, l2, l3, l4, l5, l6, l7]
    simp [g1, g2, g4]
    omega
  · simp only [selC, List.filter_cons, List.filter_nil, l0, l1, l2, l3, l4, l5, l6, l7]
    simp [g3, g5, g6]
    omega
  · simp only [selC, List.filter_cons, List.filter_nil, l0, l1, l2, l3, l4, l5, l6, l7]
    simp [g7]
theorem det_step {chs : List CH} (h : Chs8 chs) {c : Int} (hc : 1 ≤ c ∧ c ≤ 3) (x0 x1 x2 : Int) (p0 p1 p2 z : Nat) :
    ((selC chs c).map (detQ x0 x1 x2 p0 p1 p2 z)).sum = detV x0 x1 x2 p0 p1 p2 * facC x0 x1 x2 c z := by
  refine (sel_sum h hc (fun bs => detV x0 x1 x2 (((p0 : Int) + if (bs.any fun x => x == 0) then (z : Int) else 0).toNat : Nat) (((p1 : Int) + if (bs.any fun x => x == 1) then (z : Int) else 0).toNat : Nat) (((p2 : Int) + if (bs.any fun x => x == 2) then (z : Int) else 0).toNat : Nat)) _ (fun q _ => rfl)).trans ?_
  have e : ∀ p z : Nat, ((p : Int) + (z : Int)).toNat = p + z := fun p z => by omega
  have hc3 : c = 1 ∨ c = 2 ∨ c = 3 := by omega
  rcases hc3 with rfl | rfl | rfl
  · simp [e]
    simpa using muir1 x0 x1 x2 p0 p1 p2 z
  · simp [e]
    simpa using muir2 x0 x1 x2 p0 p1 p2 z
  · simp [e]
    simpa using muir3 x0 x1 x2 p0 p1 p2 z
theorem sum_mul (l : List CH) (f g : CH → Int) (k : Int) (h : ∀ q, f q = g q * k) : (l.map f).sum = (l.map g).sum * k := by
  induction l with
  | nil => simp
  | cons a l ih => rw [List.map_cons, List.map_cons, List.sum_cons, List.sum_cons, ih, h, Int.add_mul]
theorem det_all {chs : List CH} (h : Chs8 chs) {c0 c1 : Int} (hc0 : 1 ≤ c0 ∧ c0 ≤ 3) (hc1 : 1 ≤ c1 ∧ c1 ≤ 3) {x0 x1 x2 d0 d1 d2 : Int} (hd0 : 1 ≤ d0) (hd1 : 1 ≤ d1) (hd2 : 1 ≤ d2) (z0 z1 : Nat) :
    0 + ((selC chs c0).map (detO x0 x1 x2 d0 d1 d2 z0 z1 chs c1)).sum = dueV x0 x1 x2 d0 d1 d2 * facC x0 x1 x2 c0 z0 * facC x0 x1 x2 c1 z1 := by
  obtain ⟨p0, rfl⟩ := Int.eq_ofNat_of_zero_le (show 0 ≤ d0 by omega)
  obtain ⟨p1, rfl⟩ := Int.eq_ofNat_of_zero_le (show 0 ≤ d1 by omega)
  obtain ⟨p2, rfl⟩ := Int.eq_ofNat_of_zero_le (show 0 ≤ d2 by omega)
  rw [Int.zero_add, due_det, ← det_step h hc0]
  refine sum_mul _ _ _ _ fun q => ?_
  unfold detO
  have e : ∀ (p z : Nat) (b : Bool), ((p : Int) + if b = true then (z : Int) else 0) = (((p + if b = true then z else 0 : Nat)) : Int) := fun p z b => by cases b <;> simp
  rw [e, e, e]
  refine (det_step h hc1 _ _ _ _ _ _ _).trans ?_
  unfold detQ
  rw [e, e, e]
  simp only [Int.toNat_natCast]
end MyLaw
end
end
section
open PySem PySem.W PySem.Calls PyProof.Rows
noncomputable section
namespace MyLaw
open Builtin Builtin.Str StrLaws
theorem occ_walk (s sub : Str) (hi lim : Nat) (h1 : 1 ≤ sub.length) : ∀ (n a free : Nat) (found : Array Nat) (cs : List Nat),
    (∀ i, a ≤ i → i < a + n → ((i + sub.length ≤ hi ∧ subAt s sub i = true) ↔ i ∈ cs)) → (∀ c ∈ cs, a ≤ c ∧ c < a + n ∧ free ≤ c) → cs.Pairwise (fun c d => c + sub.length ≤ d) → found.size + cs.length ≤ lim →
    (forIn (List.range' a n) (found, free) (occBody s sub hi lim)).run.fst = found ++ cs.toArray
  | 0, a, free, found, cs, _, hc, _, _ => by
    cases cs with
    | nil => simp
    | cons c r => have := hc c (.head _); omega
  | n + 1, a, free, found, cs, hm, hc, hp, hl => by
    rw [List.range'_succ, List.forIn_cons]
    unfold occBody
    by_cases ha : a ∈ cs
    · obtain ⟨q1, q2⟩ := (hm a (Nat.le_refl _) (by omega)).mpr ha
      cases cs with
      | nil => cases ha
      | cons c r =>
        have hca : c = a := by
          rcases List.mem_cons.mp ha with e | e
          · exact e.symm
          · have := (List.pairwise_cons.mp hp).1 a e
            have := hc c (.head _)
            omega
        subst hca
        have hf := (hc c (.head _)).2.2
        rw [if_pos ⟨⟨⟨by simp at hl ⊢; omega, hf⟩, q1⟩, q2⟩]
        have ih := occ_walk s sub hi lim h1 n (c + 1) (c + sub.length) (found.push c) r ?_ ?_ (List.pairwise_cons.mp hp).2 (by simp at hl ⊢; omega)
        · show (forIn (List.range' (c + 1) n) (found.push c, c + sub.length) (occBody s sub hi lim)).run.fst = _
          rw [ih]
          apply Array.toList_inj.mp
          simp
        · intro i i1 i2
          rw [hm i (by omega) (by omega)]
          constructor
          · intro e
            rcases List.mem_cons.mp e with rfl | e
            · omega
            · exact e
          · exact fun e => .tail _ e
        · intro d hd
          have := (List.pairwise_cons.mp hp).1 d hd
          have := hc d (.tail _ hd)
          exact ⟨by omega, by omega, by omega⟩
    · have hn : ¬ (((found.size < lim ∧ free ≤ a) ∧ a + sub.length ≤ hi) ∧ subAt s sub a = true) := fun q => ha ((hm a (Nat.le_refl _) (by omega)).mp ⟨q.1.2, q.2⟩)
      rw [if_neg hn]
      refine occ_walk s sub hi lim h1 n (a + 1) free found cs (fun i i1 i2 => hm i (by omega) (by omega)) (fun c hc' => ?_) hp hl
      have := hc c hc'
      have : c ≠ a := fun e => ha (e ▸ hc')
      exact ⟨by omega, by omega, by omega⟩
theorem at_skip {l r : List Nat} (h : 13 ∉ l) (i : Nat) : (l ++ r)[i]? = some 13 ↔ l.length ≤ i ∧ r[i - l.length]? = some 13 := by
  rw [List.getElem?_append]
  split
  · constructor
    · intro e
      exact absurd (List.mem_of_getElem? e) h
    · intro e; omega
  · constructor
    · exact fun e => ⟨by omega, e⟩
    · exact fun e => e.2
theorem at_two (r : List Nat) (i : Nat) : (13 :: 10 :: r)[i]? = some 13 ↔ i = 0 ∨ (2 ≤ i ∧ r[i - 2]? = some 13) := by
  match i with
  | 0 => simp
  | 1 => simp
  | n + 2 => simp
theorem at_last {l : List Nat} (h : 13 ∉ l) (i : Nat) : l[i]? = some 13 ↔ False := ⟨fun e => h (List.mem_of_getElem? e), False.elim⟩
def L3 (A B C : List Nat) : List Nat := A ++ 13 :: 10 :: (B ++ 13 :: 10 :: 13 :: 10 :: C)
theorem l3_at {A B C : List Nat} (hA : 13 ∉ A) (hB : 13 ∉ B) (hC : 13 ∉ C) (i : Nat) (h : (L3 A B C)[i]? = some 13) : i = A.length ∨ i = A.length + 2 + B.length ∨ i = A.length + 2 + B.length + 2 := by
  unfold L3 at h
  obtain ⟨h1, h2⟩ := (at_skip hA i).mp h
  obtain ⟨j, rfl⟩ := Nat.exists_eq_add_of_le h1
  rw [Nat.add_sub_cancel_left, at_two] at h2
  rcases h2 with rfl | ⟨h3, h4⟩
  · exact .inl rfl
  obtain ⟨k, rfl⟩ := Nat.exists_eq_add_of_le h3
  rw [Nat.add_sub_cancel_left] at h4
  obtain ⟨h5, h6⟩ := (at_skip hB k).mp h4
  obtain ⟨l, rfl⟩ := Nat.exists_eq_add_of_le h5
  rw [Nat.add_sub_cancel_left, at_two] at h6
  rcases h6 with rfl | ⟨h7, h8⟩
  · exact .inr (.inl (Nat.add_assoc _ _ _).symm)
  obtain ⟨n, rfl⟩ := Nat.exists_eq_add_of_le h7
  rw [Nat.add_sub_cancel_left, at_two] at h8
  rcases h8 with rfl | ⟨_, h9⟩
  · exact .inr (.inr (by rw [Nat.add_assoc, Nat.add_assoc]))
  · exact absurd (List.mem_of_getElem? h9) hC
theorem take_two {l : List Nat} {i : Nat} (h : (l.drop i).take 2 = [13, 10]) : l[i]? = some 13 := by
  have e : l[i]? = (l.drop i)[0]? := by rw [List.getElem?_drop]; rfl
  rw [e]
  cases hd : l.drop i with
  | nil => rw [hd] at h; cases h
  | cons a r =>
    rw [hd] at h
    simp at h
    simp [h.1]
theorem split_l3 {A B C : List Nat} (hA : 13 ∉ A) (hB : 13 ∉ B) (hC : 13 ∉ C) : Txt.split ⟨(L3 A B C).toArray⟩ (Str.ofString "\r\n") = [⟨A.toArray⟩, ⟨B.toArray⟩, Str.empty, ⟨C.toArray⟩] := by
  have hy : (Str.ofString "\r\n") = ⟨#[13, 10]⟩ := by decide +kernel
  rw [hy]
  have hlen : (⟨(L3 A B C).toArray⟩ : Str).length = A.length + 2 + B.length + 4 + C.length := by
    simp [Str.length, L3]; omega
  have d1 : (L3 A B C).drop A.length = 13 :: 10 :: (B ++ 13 :: 10 :: 13 :: 10 :: C) := by simp [L3]
  have d1' : (L3 A B C).drop (A.length + 2) = B ++ 13 :: 10 :: 13 :: 10 :: C := by rw [← List.drop_drop, d1]; rfl
  have d2 : (L3 A B C).drop (A.length + 2 + B.length) = 13 :: 10 :: 13 :: 10 :: C := by rw [← List.drop_drop, d1']; simp
  have d3 : (L3 A B C).drop (A.length + 2 + B.length + 2) = 13 :: 10 :: C := by rw [← List.drop_drop, d2]; rfl
  have d4 : (L3 A B C).drop (A.length + 2 + B.length + 4) = C := by rw [show A.length + 2 + B.length + 4 = (A.length + 2 + B.length) + 4 by omega, ← List.drop_drop, d2]; rfl
  have hocc : occurrences ⟨(L3 A B C).toArray⟩ ⟨#[13, 10]⟩ 0 (⟨(L3 A B C).toArray⟩ : Str).length ((⟨(L3 A B C).toArray⟩ : Str).length + 1) = [A.length, A.length + 2 + B.length, A.length + 2 + B.length + 2] := by
    rw [occ_eq, occ_walk _ _ _ _ (by decide) _ 0 0 #[] [A.length, A.length + 2 + B.length, A.length + 2 + B.length + 2]]
    · simp
    · intro i _ _
      rw [subAt_eq]
      show (i + 2 ≤ _ ∧ (((L3 A B C).drop i).take 2 == [13, 10]) = true) ↔ _
      rw [beq_iff_eq]
      constructor
      · rintro ⟨_, q⟩
        have := l3_at hA hB hC i (take_two q)
        simpa using this
      · intro q
        simp only [List.mem_cons, List.not_mem_nil, or_false] at q
        rw [hlen]
        rcases q with rfl | rfl | rfl
        · exact ⟨by omega, by rw [d1]; rfl⟩
        · exact ⟨by omega, by rw [d2]; rfl⟩
        · exact ⟨by omega, by rw [d3]; rfl⟩
    · rw [hlen]
      intro c hc
      simp only [List.mem_cons, List.not_mem_nil, or_false] at hc
      rcases hc with rfl | rfl | rfl <;> exact ⟨by omega, by omega, by omega⟩
    · show [A.length, A.length + 2 + B.length, A.length + 2 + B.length + 2].Pairwise (fun c d => c + 2 ≤ d)
      simp
      omega
    · rw [hlen]; simp; omega
  unfold Txt.split
  rw [if_neg, hocc, if_neg (by simp)]
  · show [strSub _ 0 A.length, strSub _ (A.length + 2) (A.length + 2 + B.length), strSub _ (A.length + 2 + B.length + 2) (A.length + 2 + B.length + 2), strSub _ (A.length + 2 + B.length + 2 + 2) (⟨(L3 A B C).toArray⟩ : Str).length] = _
    have e1 : strSub ⟨(L3 A B C).toArray⟩ 0 A.length = ⟨A.toArray⟩ := by
      apply Str.ext'; apply Array.toList_inj.mp
      rw [strSub_toList]
      show ((L3 A B C).drop 0).take (A.length - 0) = A
      simp [L3]
    have e2 : strSub ⟨(L3 A B C).toArray⟩ (A.length + 2) (A.length + 2 + B.length) = ⟨B.toArray⟩ := by
      apply Str.ext'; apply Array.toList_inj.mp
      rw [strSub_toList]
      show ((L3 A B C).drop (A.length + 2)).take (A.length + 2 + B.length - (A.length + 2)) = B
      rw [d1', show A.length + 2 + B.length - (A.length + 2) = B.length by omega]
      simp
    have e3 : strSub ⟨(L3 A B C).toArray⟩ (A.length + 2 + B.length + 2) (A.length + 2 + B.length + 2) = Str.empty := by
      apply Str.ext'; apply Array.toList_inj.mp
      rw [strSub_toList, Nat.sub_self]
      simp [Str.empty]
    have e4 : strSub ⟨(L3 A B C).toArray⟩ (A.length + 2 + B.length + 2 + 2) (⟨(L3 A B C).toArray⟩ : Str).length = ⟨C.toArray⟩ := by
      apply Str.ext'; apply Array.toList_inj.mp
      rw [strSub_toList, hlen]
      show ((L3 A B C).drop (A.length + 2 + B.length + 4)).take _ = C
      rw [d4, show A.length + 2 + B.length + 4 + C.length - (A.length + 2 + B.length + 2 + 2) = C.length by omega]
      simp
    rw [e1, e2, e3, e4]
  · have hk : (1 : Nat) ≤ Builtin.Str.strKind ⟨(L3 A B C).toArray⟩ := by unfold Builtin.Str.strKind; split <;> (try split) <;> decide
    have hk2 : Builtin.Str.strKind ⟨#[13, 10]⟩ = 1 := by decide +kernel
    rw [hk2, hlen]
    simp only [Bool.or_eq_true, decide_eq_true_eq]
    show ¬ (_ < 2 ∨ _)
    omega
theorem crlf_none {A : List Nat} (h : ∀ c ∈ A, c ≠ 10 ∧ c ≠ 13) : crlfL A = A := by
  have := crlfL_skip A [] h
  simpa [crlfL] using this
theorem crlf_l3 {A B C : List Nat} (hA : ∀ c ∈ A, c ≠ 10 ∧ c ≠ 13) (hB : ∀ c ∈ B, c ≠ 10 ∧ c ≠ 13) (hC : ∀ c ∈ C, c ≠ 10 ∧ c ≠ 13) : crlfL (L3 A B C) = L3 A B C := by
  unfold L3
  rw [crlfL_skip A _ hA, crlfL_crlf, crlfL_skip B _ hB, crlfL_crlf, crlfL_crlf, crlf_none hC]
theorem head_no {B r : List Nat} (hB : ∀ c ∈ B, c ≠ 10 ∧ c ≠ 13) (hn : B ≠ []) : (B ++ r).head? ≠ some 10 := by
  cases B with
  | nil => exact absurd rfl hn
  | cons b B => intro e; have e : b = 10 := by simpa using e
                exact (hB b (.head _)).1 e
def end1 (k : Nat) : List Nat := ([[10], [13], [13, 10]] : List (List Nat)).getD k []
def end2 (k : Nat) : List Nat := ([[10, 13], [13, 13, 10], [10, 10]] : List (List Nat)).getD k []
theorem crlf_mail {A B C : List Nat} (hA : ∀ c ∈ A, c ≠ 10 ∧ c ≠ 13) (hB : ∀ c ∈ B, c ≠ 10 ∧ c ≠ 13) (hC : ∀ c ∈ C, c ≠ 10 ∧ c ≠ 13) (hBn : B ≠ []) (hCn : C ≠ []) {k1 k2 : Nat} (h1 : k1 < 3) (h2 : k2 < 3) :
    crlfL (A ++ end1 k1 ++ B ++ end2 k2 ++ C) = L3 A B C := by
  have e : A ++ end1 k1 ++ B ++ end2 k2 ++ C = A ++ (end1 k1 ++ (B ++ (end2 k2 ++ C))) := by simp
  rw [e, crlfL_skip A _ hA]
  unfold L3
  congr 1
  have hc := head_no (r := []) hC hCn
  rw [List.append_nil] at hc
  have s2 : crlfL (B ++ (end2 k2 ++ C)) = B ++ 13 :: 10 :: 13 :: 10 :: C := by
    rw [crlfL_skip B _ hB]
    congr 1
    have : k2 = 0 ∨ k2 = 1 ∨ k2 = 2 := by omega
    rcases this with rfl | rfl | rfl
    · show crlfL (10 :: 13 :: C) = _
      rw [crlfL_lf, crlfL_cr hc, crlf_none hC]
    · show crlfL (13 :: 13 :: 10 :: C) = _
      rw [crlfL_cr (by simp), crlfL_crlf, crlf_none hC]
    · show crlfL (10 :: 10 :: C) = _
      rw [crlfL_lf, crlfL_lf, crlf_none hC]
  have hb := head_no (r := end2 k2 ++ C) hB hBn
  have : k1 = 0 ∨ k1 = 1 ∨ k1 = 2 := by omega
  rcases this with rfl | rfl | rfl
  · show crlfL (10 :: (B ++ (end2 k2 ++ C))) = _
    rw [crlfL_lf, s2]
  · show crlfL (13 :: (B ++ (end2 k2 ++ C))) = _
    rw [crlfL_cr hb, s2]
  · show crlfL (13 :: 10 :: (B ++ (end2 k2 ++ C))) = _
    rw [crlfL_crlf, s2]
def dl : List Nat → List Nat
  | 46 :: r => 46 :: 46 :: r
  | l => l
theorem dl_dot (r : List Nat) : dl (46 :: r) = 46 :: 46 :: r := rfl
theorem dl_other {c : Nat} {r : List Nat} (h : c ≠ 46) : dl (c :: r) = c :: r := by
  unfold dl
  split
  · rename_i e
    exact absurd (List.cons.inj e).1 h
  · rfl
theorem dotL_rest {r : List Nat} (b : Bool) (h : r = [] ∨ ∃ r', r = 13 :: r') : dotL b r = dotL false r := by
  rcases h with rfl | ⟨r', rfl⟩
  · rfl
  · simp [dotL]
theorem dotL_skip : ∀ (A r : List Nat), (∀ c ∈ A, c ≠ 10 ∧ c ≠ 13) → dotL false (A ++ r) = A ++ dotL false r
  | [], _, _ => rfl
  | c :: A, r, h => by
    have hc := h c (.head _)
    have e : (c == 10) = false := by simp [hc.1]
    rw [List.cons_append, dotL, e, dotL_skip A r fun d hd => h d (.tail _ hd)]
    simp
theorem dotL_line {A r : List Nat} (hA : ∀ c ∈ A, c ≠ 10 ∧ c ≠ 13) (h : r = [] ∨ ∃ r', r = 13 :: r') : dotL true (A ++ r) = dl A ++ dotL false r := by
  cases A with
  | nil => exact dotL_rest true h
  | cons c A =>
    have hc := hA c (.head _)
    have e : (c == 10) = false := by simp [hc.1]
    rw [List.cons_append, dotL, e, dotL_skip A r fun d hd => hA d (.tail _ hd)]
    by_cases h46 : c = 46
    · subst h46
      rw [dl_dot]
      simp
    · rw [dl_other h46]
      simp [h46]
theorem dotL_end (r : List Nat) : dotL false (13 :: 10 :: r) = 13 :: 10 :: dotL true r := by simp [dotL]
theorem dot_l3 {A B C : List Nat} (hA : ∀ c ∈ A, c ≠ 10 ∧ c ≠ 13) (hB : ∀ c ∈ B, c ≠ 10 ∧ c ≠ 13) (hC : ∀ c ∈ C, c ≠ 10 ∧ c ≠ 13) : dotL true (L3 A B C) = L3 (dl A) (dl B) (dl C) := by
  unfold L3
  rw [dotL_line hA (.inr ⟨_, rfl⟩), dotL_end, dotL_line hB (.inr ⟨_, rfl⟩), dotL_end]
  have e := dotL_line (r := []) hC (.inl rfl)
  rw [List.append_nil] at e
  rw [dotL_rest true (.inr ⟨_, rfl⟩), dotL_end, e]
  simp [dotL]
theorem dl_no {A : List Nat} (hA : ∀ c ∈ A, c ≠ 10 ∧ c ≠ 13) : ∀ c ∈ dl A, c ≠ 10 ∧ c ≠ 13 := by
  cases A with
  | nil => exact hA
  | cons a A =>
    by_cases h46 : a = 46
    · subst h46
      rw [dl_dot]
      intro c hc
      rcases List.mem_cons.mp hc with rfl | hc
      · decide
      · exact hA c hc
    · rw [dl_other h46]; exact hA
noncomputable def dlN : Nat → List Nat → List Nat
  | 0, l => l
  | n + 1, l => dlN n (dl l)
theorem quote_l3 : ∀ (n : Nat) {A B C : List Nat}, (∀ c ∈ A, c ≠ 10 ∧ c ≠ 13) → (∀ c ∈ B, c ≠ 10 ∧ c ≠ 13) → (∀ c ∈ C, c ≠ 10 ∧ c ≠ 13) → quoteN n ⟨(L3 A B C).toArray⟩ = ⟨(L3 (dlN n A) (dlN n B) (dlN n C)).toArray⟩
  | 0, _, _, _, _, _, _ => rfl
  | n + 1, A, B, C, hA, hB, hC => by
    have e : quoteS ⟨(L3 A B C).toArray⟩ = ⟨(L3 (dl A) (dl B) (dl C)).toArray⟩ := by
      show (⟨(dotL true (crlfL (L3 A B C))).toArray⟩ : Str) = _
      rw [crlf_l3 hA hB hC, dot_l3 hA hB hC]
    rw [quoteN, e, quote_l3 n (dl_no hA) (dl_no hB) (dl_no hC)]
    rfl
theorem quote_mail {A B C : List Nat} (hA : ∀ c ∈ A, c ≠ 10 ∧ c ≠ 13) (hB : ∀ c ∈ B, c ≠ 10 ∧ c ≠ 13) (hC : ∀ c ∈ C, c ≠ 10 ∧ c ≠ 13) (hBn : B ≠ []) (hCn : C ≠ []) {k1 k2 : Nat} (h1 : k1 < 3) (h2 : k2 < 3) {z : Nat} (hz : z = 1 ∨ z = 2) :
    quoteN z ⟨(A ++ end1 k1 ++ B ++ end2 k2 ++ C).toArray⟩ = ⟨(L3 (dlN z A) (dlN z B) (dlN z C)).toArray⟩ := by
  have e : quoteS ⟨(A ++ end1 k1 ++ B ++ end2 k2 ++ C).toArray⟩ = ⟨(L3 (dl A) (dl B) (dl C)).toArray⟩ := by
    show (⟨(dotL true (crlfL (A ++ end1 k1 ++ B ++ end2 k2 ++ C))).toArray⟩ : Str) = _
    rw [crlf_mail hA hB hC hBn hCn h1 h2, dot_l3 hA hB hC]
  cases z with
  | zero => omega
  | succ n =>
    rw [quoteN, e, quote_l3 n (dl_no hA) (dl_no hB) (dl_no hC)]
    rfl
end MyLaw
end
end
section
open PySem PySem.W PySem.Calls PyProof.Rows
noncomputable section
namespace MyLaw
theorem find_laid (c : Int) : ∀ (l : List (Int × Str)) (t : Nat), match l.find? (fun e => e.1 == c), (((b3Laid t l).find? fun e => Value.isInt c e.key).map (fun e : DictEntry => e.val) : Option Value) with
    | some (_, x), some (Value.str y _) => x = y
    | none, none => True
    | _, _ => False
  | [], _ => trivial
  | (k, x) :: r, t => by
    have ih := find_laid c r (t + if t < 2289 then 3 else 2)
    unfold b3Laid
    simp only [List.find?_cons]
    have e : Value.isInt c (.int k t) = (k == c) := by simp [Value.isInt]
    rw [e]
    cases k == c
    · exact ih
    · rfl
theorem fold_tab (c : Nat) : foldC c = match b3Tab.find? (fun e => e.1 == (c : Int)) with | some (_, x) => x | none => Txt.lower ⟨#[c]⟩ := by
  have h := find_laid c b3Tab 351
  have e : b3At c = ((b3Laid 351 b3Tab).find? fun e => Value.isInt c e.key).map (fun e : DictEntry => e.val) := by
    unfold b3At findBy b3Es
    rw [List.find?_toArray]
  unfold foldC
  rw [e]
  revert h
  cases b3Tab.find? (fun e => e.1 == (c : Int)) with
  | none =>
    cases ((b3Laid 351 b3Tab).find? fun e => Value.isInt c e.key).map (fun e : DictEntry => e.val) with
    | none => exact fun _ => rfl
    | some v => cases v <;> exact fun h => h.elim
  | some p =>
    cases ((b3Laid 351 b3Tab).find? fun e => Value.isInt c e.key).map (fun e : DictEntry => e.val) with
    | none => exact fun h => h.elim
    | some v => cases v <;> first | exact fun h => h.elim | exact fun h => h.symm
def tens : List Nat := [0, 1, 2, 4, 7, 8, 9, 10, 11, 12]
def isMath (c : Nat) : Bool := Nat.ble 119808 c && Nat.blt c 120484 && Nat.blt ((c - 119808) % 52) 26 && tens.contains ((c - 119808) / 52)
def litKeys : List Nat := [13255, 64256, 64257, 64258, 64259, 64260, 64261, 64262]
def foldWant (c : Nat) : List Nat := if c = 13255 then [99, 111, 46] else if c < 70000 then (ligTab.getD (c - 64256) Str.empty).cps.toList else [97 + (c - 119808) % 52]
def wantKeys : List Nat := litKeys ++ tens.flatMap fun i => List.range' (119808 + 52 * i) 26
theorem tab_keys : (b3Tab.filter fun e => litKeys.contains e.1.toNat || isMath e.1.toNat).map (fun e => e.1) = wantKeys.map fun c : Nat => (c : Int) := by decide +kernel
theorem tab_vals : (b3Tab.all fun e => !(litKeys.contains e.1.toNat || isMath e.1.toNat) || e.2.cps.toList == foldWant e.1.toNat) = true := by decide +kernel
theorem find_some {l : List (Int × Str)} {c : Int} {P : Str → Prop} (hm : c ∈ l.map (·.1)) (hp : ∀ e ∈ l, e.1 = c → P e.2) : ∃ e, l.find? (fun e => e.1 == c) = some e ∧ P e.2 := by
  obtain ⟨e, he, rfl⟩ := List.mem_map.mp hm
  cases hf : l.find? (fun e' => e'.1 == e.1) with
  | none =>
    have := List.find?_eq_none.mp hf e he
    simp at this
  | some e' =>
    refine ⟨e', rfl, hp e' (List.mem_of_find?_eq_some hf) ?_⟩
    have := List.find?_some hf
    simpa using this
theorem fold_want {c : Nat} (hc : c ∈ wantKeys) (hi : (litKeys.contains c || isMath c) = true) : (foldC c).cps.toList = foldWant c := by
  rw [fold_tab]
  have hm : (c : Int) ∈ b3Tab.map (·.1) := by
    have h1 : (c : Int) ∈ wantKeys.map fun c : Nat => (c : Int) := List.mem_map.mpr ⟨c, hc, rfl⟩
    rw [← tab_keys] at h1
    obtain ⟨e, he, h2⟩ := List.mem_map.mp h1
    exact List.mem_map.mpr ⟨e, (List.mem_filter.mp he).1, h2⟩
  obtain ⟨e, he, hP⟩ := find_some (P := fun x => x.cps.toList = foldWant c) hm (fun e he hec => by
    have h3 := List.all_eq_true.mp tab_vals e he
    rw [hec, Int.toNat_natCast, hi] at h3
    simpa using h3)
  rw [he]
  exact hP
def oddSigns : List Nat := stayTab.map Int.toNat ++ unseenTab.map Int.toNat
theorem tab_plain : (b3Tab.all fun e => Nat.blt 130 e.1.toNat && !oddSigns.contains e.1.toNat) = true := by decide +kernel
theorem fold_lower {c : Nat} (h : c < 131 ∨ c ∈ oddSigns) : foldC c = Txt.lower ⟨#[c]⟩ := by
  rw [fold_tab]
  have e : b3Tab.find? (fun e => e.1 == (c : Int)) = none := by
    refine List.find?_eq_none.mpr fun e he hc => ?_
    have h3 := List.all_eq_true.mp tab_plain e he
    have hec : e.1 = (c : Int) := by simpa using hc
    rw [hec, Int.toNat_natCast, Bool.and_eq_true, Bool.not_eq_true'] at h3
    rcases h with h | h
    · have := Nat.le_of_ble_eq_true h3.1
      omega
    · have := List.contains_iff_mem.mpr h
      rw [h3.2] at this
      cases this
  rw [e]
theorem low_upper : ∀ k < 26, (Txt.lower ⟨#[65 + k]⟩).cps.toList = [97 + k] := by decide +kernel
theorem low_lower : ∀ k < 26, (Txt.lower ⟨#[97 + k]⟩).cps.toList = [97 + k] := by decide +kernel
theorem low_few : ∀ c ∈ [10, 13, 46], (Txt.lower ⟨#[c]⟩).cps.toList = [c] := by decide +kernel
theorem low_stay : ∀ c ∈ stayTab.map Int.toNat, (Txt.lower ⟨#[c]⟩).cps.toList = [c] := by decide +kernel
theorem low_unseen : ∀ c ∈ unseenTab.map Int.toNat, (Txt.lower ⟨#[c]⟩).cps.toList.length ≤ 4 := by decide +kernel
end MyLaw
end
end
section
open PySem PySem.W PySem.Calls PyProof.Rows
noncomputable section
namespace MyLaw
def SignOk (c : Nat) (f : List Nat) : Prop := (c ≠ 10 ∧ c ≠ 13) ∧ b1 c = false ∧ (foldC c).cps.toList = f ∧ f.length ≤ 4
theorem sign_upper {k : Nat} (h : k < 26) : SignOk (65 + k) [97 + k] :=
  ⟨⟨by omega, by omega⟩, (by decide +kernel : ∀ k < 26, b1 (65 + k) = false) k h, by rw [fold_lower (.inl (by omega))]; exact low_upper k h, by simp⟩
theorem sign_lower {k : Nat} (h : k < 26) : SignOk (97 + k) [97 + k] :=
  ⟨⟨by omega, by omega⟩, (by decide +kernel : ∀ k < 26, b1 (97 + k) = false) k h, by rw [fold_lower (.inl (by omega))]; exact low_lower k h, by simp⟩
theorem sign_dot : SignOk 46 [46] := ⟨⟨by decide, by decide⟩, by decide +kernel, by rw [fold_lower (.inl (by omega))]; exact low_few 46 (by decide), by decide⟩
theorem sign_co : SignOk 13255 [99, 111, 46] := ⟨⟨by decide, by decide⟩, by decide +kernel, fold_want (by decide +kernel) (by decide +kernel), by decide⟩
theorem sign_lig {k : Nat} (h : k < 7) : SignOk (64256 + k) (ligTab.getD k Str.empty).cps.toList := by
  refine ⟨⟨by omega, by omega⟩, (by decide +kernel : ∀ k < 7, b1 (64256 + k) = false) k h, ?_, (by decide +kernel : ∀ k < 7, (ligTab.getD k Str.empty).cps.toList.length ≤ 4) k h⟩
  rw [fold_want ((by decide +kernel : ∀ k < 7, (64256 + k) ∈ wantKeys) k h) ((by decide +kernel : ∀ k < 7, (litKeys.contains (64256 + k) || isMath (64256 + k)) = true) k h)]
  exact (by decide +kernel : ∀ k < 7, foldWant (64256 + k) = (ligTab.getD k Str.empty).cps.toList) k h
theorem math_facts : ∀ i < 10, ∀ k < 26, (isMath (119808 + 52 * tens.getD i 0 + k) && decide (foldWant (119808 + 52 * tens.getD i 0 + k) = [97 + k]) && !b1 (119808 + 52 * tens.getD i 0 + k)) = true := by decide +kernel
theorem sign_math {i k : Nat} (hi : i < 10) (h : k < 26) : SignOk (119808 + 52 * tens.getD i 0 + k) [97 + k] := by
  have hf := math_facts i hi k h
  simp only [Bool.and_eq_true, decide_eq_true_eq, Bool.not_eq_true'] at hf
  refine ⟨⟨by omega, by omega⟩, hf.2, ?_, by simp⟩
  rw [fold_want ?_ (by rw [hf.1.1, Bool.or_true]), hf.1.2]
  refine List.mem_append_right _ (List.mem_flatMap.mpr ⟨tens.getD i 0, ?_, List.mem_range'.mpr ⟨k, h, by omega⟩⟩)
  exact (by decide +kernel : ∀ i < 10, tens.getD i 0 ∈ tens) i hi
theorem stay_facts : ∀ c ∈ stayTab.map Int.toNat, (c ≠ 10 ∧ c ≠ 13 ∧ c ≠ 46 ∧ (c < 97 ∨ 122 < c) ∧ c < 0x110000) ∧ b1 c = false := by decide +kernel
theorem sign_stay {c : Nat} (h : c ∈ stayTab.map Int.toNat) : SignOk c [c] := by
  have hf := stay_facts c h
  exact ⟨⟨hf.1.1, hf.1.2.1⟩, hf.2, by rw [fold_lower (.inr (List.mem_append_left _ h))]; exact low_stay c h, by simp⟩
def stC (n : Int) : Nat := (stayTab.getD ((n.fdiv 2).fmod 24).toNat 0).toNat
theorem stC_mem (n : Int) : stC n ∈ stayTab.map Int.toNat := by
  have h0 := Int.fmod_nonneg_of_pos (n.fdiv 2) (show (0 : Int) < 24 by decide)
  have h1 := Int.fmod_lt_of_pos (n.fdiv 2) (show (0 : Int) < 24 by decide)
  refine List.mem_map.mpr ⟨_, ?_, rfl⟩
  rw [List.getD_eq_getElem?_getD, List.getElem?_eq_getElem (show _ < stayTab.length by show _ < 24; omega)]
  exact List.getElem_mem _
structure FoldOk (b : Str) : Prop where
  ex : ∃ g st, b.cps.toList = g ++ [st] ∧ g ≠ [] ∧ g.length ≤ 3 ∧ (∀ c ∈ g, (97 ≤ c ∧ c ≤ 122) ∨ c = 46) ∧ (∃ c0, g[0]? = some c0 ∧ c0 ≠ 46) ∧ st ∈ stayTab.map Int.toNat
inductive NameL : List Nat → List Nat → Prop
  | nil : NameL [] []
  | cons {c : Nat} {f m g : List Nat} : SignOk c f → NameL m g → NameL (c :: m) (f ++ g)
theorem name_two {h st : Nat} {f : List Nat} (h1 : SignOk h f) (h2 : SignOk st [st]) : NameL [h, st] (f ++ [st]) := .cons h1 (.cons h2 .nil)
theorem name_self : ∀ {l : List Nat}, (∀ c ∈ l, SignOk c [c]) → NameL l l
  | [], _ => .nil
  | c :: r, h => .cons (f := [c]) (h c (.head _)) (name_self fun d hd => h d (.tail _ hd))
theorem fold_self {b : Str} (h : FoldOk b) : NameL b.cps.toList b.cps.toList := by
  obtain ⟨g, st, e, _, _, hg, _, hst⟩ := h.ex
  rw [e]
  refine name_self fun c hc => ?_
  rcases List.mem_append.mp hc with hc | hc
  · rcases hg c hc with h | rfl
    · obtain ⟨k, rfl⟩ := Nat.exists_eq_add_of_le h.1
      exact sign_lower (by omega)
    · exact sign_dot
  · rw [List.mem_singleton.mp hc]
    exact sign_stay hst
theorem name_facts (n : Int) : NameL (nRw n).cps.toList (nFo n).cps.toList ∧ FoldOk (nFo n) := by
  have l0 : 0 ≤ letterN n := Int.fmod_nonneg_of_pos _ (by decide)
  have l1 : letterN n < 26 := Int.fmod_lt_of_pos _ (by decide)
  obtain ⟨k, hk⟩ := Int.eq_ofNat_of_zero_le l0
  have hk26 : k < 26 := by omega
  have m0 : 0 ≤ n.fmod 13 := Int.fmod_nonneg_of_pos _ (by decide)
  have m1 : n.fmod 13 < 13 := Int.fmod_lt_of_pos _ (by decide)
  have st := sign_stay (stC_mem n)
  have es : stayS n = ⟨#[stC n]⟩ := rfl
  unfold nRw nFo
  rw [es, hk]
  have one : FoldOk (⟨#[(97 + (k : Int)).toNat]⟩ ++ ⟨#[stC n]⟩) := ⟨[97 + k], stC n, by rw [show (97 + (k : Int)).toNat = 97 + k by omega]; rfl, by simp, by simp, fun c hc => by
    rw [List.mem_singleton.mp hc]; left; omega, ⟨97 + k, rfl, by omega⟩, stC_mem n⟩
  by_cases h12 : n.fmod 13 = 12
  · rw [if_pos h12, if_pos h12]
    refine ⟨?_, one⟩
    rw [show (65 + (k : Int)).toNat = 65 + k by omega, show (97 + (k : Int)).toNat = 97 + k by omega]
    exact name_two (sign_upper hk26) st
  rw [if_neg h12, if_neg h12]
  by_cases h11 : n.fmod 13 = 11
  · rw [if_pos h11, if_pos h11]
    have e : Str.ofString "co." = ⟨#[99, 111, 46]⟩ := by decide +kernel
    rw [e]
    exact ⟨name_two sign_co st, ⟨[99, 111, 46], stC n, rfl, by simp, by simp, by decide, ⟨99, rfl, by decide⟩, stC_mem n⟩⟩
  rw [if_neg h11, if_neg h11]
  by_cases h10 : n.fmod 13 = 10
  · rw [if_pos h10, if_pos h10]
    obtain ⟨j, hj⟩ := Int.eq_ofNat_of_zero_le (Int.fmod_nonneg_of_pos (k : Int) (show (0 : Int) < 7 by decide))
    have hj7 : (k : Int).fmod 7 < 7 := Int.fmod_lt_of_pos _ (by decide)
    rw [hj, show (64256 + (j : Int)).toNat = 64256 + j by omega, Int.toNat_natCast]
    have hj7 : j < 7 := by omega
    refine ⟨?_, ?_⟩
    · show NameL [64256 + j, stC n] ((ligTab.getD j Str.empty).cps ++ #[stC n]).toList
      rw [Array.toList_append]
      exact name_two (sign_lig hj7) st
    · refine ⟨(ligTab.getD j Str.empty).cps.toList, stC n, ?_, ?_⟩
      · show ((ligTab.getD j Str.empty).cps ++ #[stC n]).toList = _
        rw [Array.toList_append]
      · have : ∀ j < 7, (ligTab.getD j Str.empty).cps.toList ≠ [] ∧ (ligTab.getD j Str.empty).cps.toList.length ≤ 3 ∧ (∀ c ∈ (ligTab.getD j Str.empty).cps.toList, (97 ≤ c ∧ c ≤ 122) ∨ c = 46) ∧ (((ligTab.getD j Str.empty).cps.toList.getD 0 46) ≠ 46) := by decide +kernel
        obtain ⟨q1, q2, q3, q4⟩ := this j hj7
        refine ⟨q1, q2, q3, ?_, stC_mem n⟩
        revert q1 q4
        cases (ligTab.getD j Str.empty).cps.toList with
        | nil => exact fun h => absurd rfl h
        | cons a r => exact fun _ h => ⟨a, rfl, h⟩
  rw [if_neg h10, if_neg h10]
  refine ⟨?_, one⟩
  obtain ⟨i, hi⟩ := Int.eq_ofNat_of_zero_le m0
  rw [hi]
  have hi10 : i < 10 := by omega
  have e : ∀ i < 10, ([0, 1, 2, 4, 7, 8, 9, 10, 11, 12] : List Int).getD ((i : Nat) : Int).toNat 0 = ((tens.getD i 0 : Nat) : Int) := by decide +kernel
  rw [e i hi10, show (119808 + 52 * ((tens.getD i 0 : Nat) : Int) + (k : Int)).toNat = 119808 + 52 * tens.getD i 0 + k by omega, show (97 + (k : Int)).toNat = 97 + k by omega]
  exact name_two (sign_math hi10 hk26) st
def prepN (l : List Nat) : List Nat := l.flatMap fun c => if b1 c then [] else (foldC c).cps.toList
theorem prep_eq (l : List Nat) : prepS ⟨l.toArray⟩ = ⟨(prepN l).toArray⟩ := by
  have e : ∀ l : List Nat, catL (prepL (l.map fun (c : Nat) => (c : Int))) = prepN l := by
    intro l
    induction l with
    | nil => rfl
    | cons c r ih =>
      unfold prepL catL prepN at ih ⊢
      rw [List.map_cons, List.filterMap_cons, List.flatMap_cons, Int.toNat_natCast]
      cases hb : b1 c
      · simp only [Bool.false_eq_true, if_false]
        rw [List.flatMap_cons, ih]
      · simp only [if_true]
        rw [ih]; rfl
  unfold prepS KStt.codes
  rw [e]
theorem prepN_app (a b : List Nat) : prepN (a ++ b) = prepN a ++ prepN b := by unfold prepN; rw [List.flatMap_append]
theorem prepN_sign {c : Nat} {f r : List Nat} (h : SignOk c f) : prepN (c :: r) = f ++ prepN r := by
  unfold prepN; rw [List.flatMap_cons, h.2.1, h.2.2.1]; rfl
theorem prepN_name {m f : List Nat} (h : NameL m f) : prepN m = f := by
  induction h with
  | nil => rfl
  | cons h _ ih => rw [prepN_sign h, ih]
theorem prepN_dots : ∀ d, prepN (List.replicate d 46) = List.replicate d 46
  | 0 => rfl
  | d + 1 => by rw [List.replicate_succ, prepN_sign sign_dot, prepN_dots d]; rfl
theorem prepN_end (r : List Nat) : prepN (13 :: 10 :: r) = 13 :: 10 :: prepN r := by
  have e1 : (if b1 13 then [] else (foldC 13).cps.toList) = [13] := by rw [fold_lower (.inl (by omega)), low_few 13 (by decide)]; decide +kernel
  have e2 : (if b1 10 then [] else (foldC 10).cps.toList) = [10] := by rw [fold_lower (.inl (by omega)), low_few 10 (by decide)]; decide +kernel
  unfold prepN
  rw [List.flatMap_cons, List.flatMap_cons, e1, e2]; rfl
theorem prepN_l3 (A B C : List Nat) : prepN (L3 A B C) = L3 (prepN A) (prepN B) (prepN C) := by
  unfold L3
  rw [prepN_app, prepN_end, prepN_app, prepN_end, prepN_end]
theorem unseen_facts : ∀ c ∈ unseenTab.map Int.toNat, (c ≠ 10 ∧ c ≠ 13 ∧ c ≠ 46) ∧ b1 c = true := by decide +kernel
theorem unseenC_mem (n : Int) : unseenC n ∈ unseenTab.map Int.toNat := by
  have h0 := Int.emod_nonneg n (show (27 : Int) ≠ 0 by decide)
  have h1 := Int.emod_lt_of_pos n (show (0 : Int) < 27 by decide)
  refine List.mem_map.mpr ⟨_, ?_, rfl⟩
  have hl : unseenTab.length = 27 := by decide +kernel
  rw [List.getD_eq_getElem?_getD, List.getElem?_eq_getElem (show _ < unseenTab.length by rw [hl]; omega)]
  exact List.getElem_mem _
def lineL (bare : Bool) (c d : Nat) (m : List Nat) : List Nat := (if bare then [] else [c]) ++ (List.replicate d 46 ++ m)
theorem dlN_dots : ∀ (z d : Nat) (m : List Nat), dlN z (List.replicate (d + 1) 46 ++ m) = List.replicate (d + 1 + z) 46 ++ m
  | 0, _, _ => rfl
  | z + 1, d, m => by
    have e : dl (List.replicate (d + 1) 46 ++ m) = List.replicate (d + 1 + 1) 46 ++ m := by
      rw [List.replicate_succ, List.cons_append, dl_dot, ← List.cons_append, ← List.cons_append]; rfl
    rw [dlN, e, dlN_dots z (d + 1) m, show d + 1 + 1 + z = d + 1 + (z + 1) by omega]
theorem dlN_other : ∀ (z : Nat) {c : Nat} {r : List Nat}, c ≠ 46 → dlN z (c :: r) = c :: r
  | 0, _, _, _ => rfl
  | z + 1, c, r, h => by rw [dlN, dl_other h, dlN_other z h]
theorem dlN_line (z : Nat) (bare : Bool) {c d : Nat} {m : List Nat} (hc : c ≠ 46) (hd : 1 ≤ d) : dlN z (lineL bare c d m) = lineL bare c (d + if bare then z else 0) m := by
  obtain ⟨e, rfl⟩ : ∃ e, d = e + 1 := ⟨d - 1, by omega⟩
  unfold lineL
  cases bare with
  | true => exact dlN_dots z e m
  | false => exact dlN_other z hc
theorem name_no {m f : List Nat} (h : NameL m f) : ∀ c ∈ m, (c ≠ 10 ∧ c ≠ 13) ∧ (foldC c).length ≤ 4 := by
  induction h with
  | nil => exact fun c hc => nomatch hc
  | cons h _ ih =>
    intro c hc
    rcases List.mem_cons.mp hc with rfl | hc
    · refine ⟨h.1, ?_⟩
      have := h.2.2.2
      rw [← h.2.2.1] at this
      simpa [Str.length] using this
    · exact ih c hc
theorem fold4 {c : Nat} (h : c = 10 ∨ c = 13 ∨ c = 46 ∨ c ∈ unseenTab.map Int.toNat) : (foldC c).length ≤ 4 := by
  have e : ∀ c ∈ [10, 13, 46], (foldC c).length ≤ 4 := fun c hc => by
    have h1 := low_few c hc
    rw [fold_lower (.inl (by simp at hc; omega))]
    show (Txt.lower ⟨#[c]⟩).cps.size ≤ 4
    rw [← Array.length_toList, h1]; simp
  rcases h with rfl | rfl | rfl | h
  · exact e _ (by decide)
  · exact e _ (by decide)
  · exact e _ (by decide)
  · rw [fold_lower (.inr (List.mem_append_right _ h))]
    have := low_unseen c h
    simpa [Str.length] using this
theorem line_mem {bare : Bool} {c d x : Nat} {m : List Nat} (h : x ∈ lineL bare c d m) : x = c ∨ x = 46 ∨ x ∈ m := by
  unfold lineL at h
  rcases List.mem_append.mp h with h | h
  · cases bare
    · exact .inl (List.mem_singleton.mp h)
    · cases h
  · rcases List.mem_append.mp h with h | h
    · exact .inr (.inl (List.mem_replicate.mp h).2)
    · exact .inr (.inr h)
theorem line_no {bare : Bool} {c d : Nat} {m f : List Nat} (hc : c ∈ unseenTab.map Int.toNat) (h : NameL m f) : ∀ x ∈ lineL bare c d m, x ≠ 10 ∧ x ≠ 13 := fun x hx => by
  rcases line_mem hx with rfl | rfl | hx
  · exact ⟨(unseen_facts _ hc).1.1, (unseen_facts _ hc).1.2.1⟩
  · decide
  · exact (name_no h x hx).1
theorem line_4 {bare : Bool} {c d : Nat} {m f : List Nat} (hc : c ∈ unseenTab.map Int.toNat) (h : NameL m f) : ∀ x ∈ lineL bare c d m, (foldC x).length ≤ 4 := fun x hx => by
  rcases line_mem hx with rfl | rfl | hx
  · exact fold4 (.inr (.inr (.inr hc)))
  · exact fold4 (.inr (.inr (.inl rfl)))
  · exact (name_no h x hx).2
theorem line_ne {bare : Bool} {c d : Nat} {m : List Nat} (hd : 1 ≤ d) : lineL bare c d m ≠ [] := by
  obtain ⟨e, rfl⟩ : ∃ e, d = e + 1 := ⟨d - 1, by omega⟩
  unfold lineL
  cases bare <;> simp
theorem prepN_line {bare : Bool} {c d : Nat} {m f : List Nat} (hc : c ∈ unseenTab.map Int.toNat) (h : NameL m f) : prepN (lineL bare c d m) = List.replicate d 46 ++ f := by
  unfold lineL
  rw [prepN_app, prepN_app, prepN_dots, prepN_name h]
  cases bare
  · have : prepN [c] = [] := by unfold prepN; rw [List.flatMap_cons, (unseen_facts c hc).2]; rfl
    simp [this]
  · rfl
theorem l3_mem {A B C : List Nat} {x : Nat} (h : x ∈ L3 A B C) : x ∈ A ∨ x ∈ B ∨ x ∈ C ∨ x = 13 ∨ x = 10 := by
  unfold L3 at h
  simp only [List.mem_append, List.mem_cons] at h
  grind
end MyLaw
end
end
section
open PySem PySem.W PySem.Calls PyProof.Rows
noncomputable section
namespace MyLaw
theorem end_k (n t : Int) : ((n.fdiv 3 + t).fmod 3).toNat < 3 := by
  have h0 := Int.fmod_nonneg_of_pos (n.fdiv 3 + t) (show (0 : Int) < 3 by decide)
  have h1 := Int.fmod_lt_of_pos (n.fdiv 3 + t) (show (0 : Int) < 3 by decide)
  omega
theorem end_0 (n t : Int) : endS 0 n t = ⟨#[]⟩ := (by decide +kernel : ∀ k < 3, (endTab 0).getD k Str.empty = ⟨#[]⟩) _ (end_k n t)
theorem end_1 (n t : Int) : endS 1 n t = ⟨(end1 ((n.fdiv 3 + t).fmod 3).toNat).toArray⟩ := (by decide +kernel : ∀ k < 3, (endTab 1).getD k Str.empty = ⟨(end1 k).toArray⟩) _ (end_k n t)
theorem end_2 (n t : Int) : endS 2 n t = ⟨(end2 ((n.fdiv 3 + t).fmod 3).toNat).toArray⟩ := (by decide +kernel : ∀ k < 3, (endTab 2).getD k Str.empty = ⟨(end2 k).toArray⟩) _ (end_k n t)
theorem piece_list (j : Nat) (mail : Str) (n t : Int) (bare : Bool) (d : Int) (a : Str) : (pieceS j mail n t bare (dotsS d ++ a)).cps.toList = mail.cps.toList ++ (endS j n t).cps.toList ++ lineL bare (unseenC (n + 13 * t)) d.toNat a.cps.toList := by
  unfold pieceS lineL dotsS
  rw [unseen_eq]
  cases bare <;> simp [Str.cps_append, Str.empty]
theorem mail_list (a0 a1 a2 : Str) (d0 d1 d2 n0 n1 n2 t : Int) (bs : List Int) : mailS (dotsS d0 ++ a0) (dotsS d1 ++ a1) (dotsS d2 ++ a2) n0 n1 n2 t bs =
    ⟨(lineL (bs.any fun x => x == 0) (unseenC (n0 + 13 * t)) d0.toNat a0.cps.toList ++ end1 ((n1.fdiv 3 + t).fmod 3).toNat ++ lineL (bs.any fun x => x == 1) (unseenC (n1 + 13 * t)) d1.toNat a1.cps.toList ++ end2 ((n2.fdiv 3 + t).fmod 3).toNat ++ lineL (bs.any fun x => x == 2) (unseenC (n2 + 13 * t)) d2.toNat a2.cps.toList).toArray⟩ := by
  apply Str.ext'; apply Array.toList_inj.mp
  unfold mailS
  rw [piece_list, piece_list, piece_list, end_0, end_1, end_2]
  simp [Str.empty]
theorem mail_ok {a0 a1 a2 b0 b1 b2 : Str} (h0 : NameL a0.cps.toList b0.cps.toList) (h1 : NameL a1.cps.toList b1.cps.toList) (h2 : NameL a2.cps.toList b2.cps.toList) (g0 : FoldOk b0) (g1 : FoldOk b1) (g2 : FoldOk b2)
    {d0 d1 d2 n0 n1 n2 t : Int} (e0 : 1 ≤ d0) (e1 : 1 ≤ d1) (e2 : 1 ≤ d2) {z : Nat} (hz : z = 1 ∨ z = 2) (bs : List Int) :
    (∀ c ∈ KStt.codes (quoteN z (mailS (dotsS d0 ++ a0) (dotsS d1 ++ a1) (dotsS d2 ++ a2) n0 n1 n2 t bs)), (foldC c.toNat).length ≤ 4) ∧
    Txt.split (prepS (quoteN z (mailS (dotsS d0 ++ a0) (dotsS d1 ++ a1) (dotsS d2 ++ a2) n0 n1 n2 t bs))) (Str.ofString "\r\n") =
      [dotsS (d0 + if (bs.any fun x => x == 0) then (z : Int) else 0) ++ b0, dotsS (d1 + if (bs.any fun x => x == 1) then (z : Int) else 0) ++ b1, Str.empty, dotsS (d2 + if (bs.any fun x => x == 2) then (z : Int) else 0) ++ b2] := by
  have u0 := unseenC_mem (n0 + 13 * t)
  have u1 := unseenC_mem (n1 + 13 * t)
  have u2 := unseenC_mem (n2 + 13 * t)
  have q0 : 1 ≤ d0.toNat := by omega
  have q1 : 1 ≤ d1.toNat := by omega
  have q2 : 1 ≤ d2.toNat := by omega
  rw [mail_list, quote_mail (line_no u0 h0) (line_no u1 h1) (line_no u2 h2) (line_ne q1) (line_ne q2) (end_k _ _) (end_k _ _) hz,
    dlN_line z _ (unseen_facts _ u0).1.2.2 q0, dlN_line z _ (unseen_facts _ u1).1.2.2 q1, dlN_line z _ (unseen_facts _ u2).1.2.2 q2]
  constructor
  · intro c hc
    obtain ⟨x, hx, rfl⟩ := List.mem_map.mp hc
    rw [Int.toNat_natCast]
    rcases l3_mem hx with hx | hx | hx | rfl | rfl
    · exact line_4 u0 h0 x hx
    · exact line_4 u1 h1 x hx
    · exact line_4 u2 h2 x hx
    · exact fold4 (.inr (.inl rfl))
    · exact fold4 (.inl rfl)
  · rw [prep_eq, prepN_l3, prepN_line u0 h0, prepN_line u1 h1, prepN_line u2 h2]
    have no : ∀ {b : Str} (d : Nat), FoldOk b → 13 ∉ List.replicate d 46 ++ b.cps.toList := fun {b} d g hm => by
      rcases List.mem_append.mp hm with hm | hm
      · have := (List.mem_replicate.mp hm).2
        cases this
      · exact (name_no (fold_self g) 13 hm).1.2 rfl
    rw [split_l3 (no _ g0) (no _ g1) (no _ g2)]
    have e : ∀ (d : Int) (c : Bool) (b : Str), 1 ≤ d → (⟨(List.replicate (d.toNat + if c = true then z else 0) 46 ++ b.cps.toList).toArray⟩ : Str) = dotsS (d + if c = true then (z : Int) else 0) ++ b := fun d c b hd => by
      apply Str.ext'; apply Array.toList_inj.mp
      have : (d + if c = true then (z : Int) else 0).toNat = d.toNat + if c = true then z else 0 := by cases c <;> simp <;> omega
      simp [dotsS, Str.cps_append, this]
    rw [e _ _ _ e0, e _ _ _ e1, e _ _ _ e2]
theorem row_ok {b : Str} (g : FoldOk b) (p : Int) : PyData.strOk (dotsS p ++ b) = true := by
  obtain ⟨l, st, e, _, _, hg, _, hst⟩ := g.ex
  unfold PyData.strOk
  rw [Str.cps_append, Array.all_append, Bool.and_eq_true]
  constructor
  · rw [Array.all_eq_true']
    intro x hx
    have : x = 46 := by unfold dotsS at hx; simpa using (Array.mem_replicate.mp hx).2
    subst this; decide
  · rw [Array.all_eq_true']
    intro x hx
    have hx : x ∈ l ++ [st] := by rw [← e]; exact Array.mem_toList_iff.mpr hx
    rw [decide_eq_true_eq]
    rcases List.mem_append.mp hx with hx | hx
    · have := hg x hx; omega
    · rw [List.mem_singleton.mp hx]; exact (stay_facts st hst).1.2.2.2.2
theorem fold_len {b : Str} (g : FoldOk b) : b.length ≤ 8 := by
  obtain ⟨l, st, e, _, h3, _⟩ := g.ex
  show b.cps.size ≤ 8
  rw [← Array.length_toList, e]
  simp; omega
theorem place_ok {b : Str} (g : FoldOk b) (n p : Int) (h1 : p ≤ 1000) : PlaceOk (dotsS p ++ b) b (unseenC n) p.toNat := by
  obtain ⟨l, st, e, hn, h3, hg, ⟨c0, hc0, hc46⟩, hst⟩ := g.ex
  have hb : b.cps = (l ++ [st]).toArray := by rw [← e]
  have hs := stay_facts st hst
  have hx : (dotsS p ++ b).cps = (List.replicate p.toNat 46 ++ (l ++ [st])).toArray := by
    rw [Str.cps_append, hb]; simp [dotsS]
  have hpos : 0 < l.length := List.length_pos_iff.mpr hn
  have hmem : ∀ x ∈ List.replicate p.toNat 46 ++ (l ++ [st]), x = 46 ∨ x ∈ l ∨ x = st := fun x hx => by
    simp only [List.mem_append, List.mem_singleton] at hx
    rcases hx with h | h | h
    · exact .inl (List.mem_replicate.mp h).2
    · exact .inr (.inl h)
    · exact .inr (.inr h)
  refine ⟨?_, ⟨c0, ?_, ?_, ?_⟩, ⟨st, ?_, ?_, ?_⟩, ?_, by omega⟩
  · rw [hb]; simp; omega
  · rw [hb, List.getElem?_toArray, List.getElem?_append_left hpos, hc0]
  · rw [hx, List.getElem?_toArray, List.getElem?_append_right (by simp), List.getElem?_append_left (by simpa using hpos)]
    simpa using hc0
  · intro q hq he
    rw [hx, List.getElem?_toArray, List.getElem?_append_left (by simpa using hq)] at he
    have := List.mem_of_getElem? he
    exact hc46 (List.mem_replicate.mp this).2
  · rw [hb]; simp
  · rw [hx, hb, List.getElem?_toArray, List.getElem?_append_right (by simp)]
    rw [List.getElem?_append_right (by simp)]
    simp
  · intro q hq he
    rw [hx, List.getElem?_toArray, ← List.append_assoc, List.getElem?_append_left (by rw [hb] at hq; simp at hq ⊢; omega)] at he
    have hm := List.mem_of_getElem? he
    rcases List.mem_append.mp hm with hm | hm
    · exact hs.1.2.2.1 (List.mem_replicate.mp hm).2
    · have := hg st hm
      have := hs.1
      omega
  · intro q he
    rw [hx, List.getElem?_toArray] at he
    have hu := (unseen_facts _ (unseenC_mem n))
    rcases hmem _ (List.mem_of_getElem? he) with h | h | h
    · exact hu.1.2.2 h
    · have h2 : b1 (unseenC n) = false := by
        rcases hg _ h with h4 | h4
        · obtain ⟨k, hk⟩ := Nat.exists_eq_add_of_le h4.1
          rw [hk]; exact (sign_lower (by omega)).2.1
        · rw [h4]; exact sign_dot.2.1
      rw [hu.2] at h2; cases h2
    · have h2 := hs.2
      rw [← h, hu.2] at h2; cases h2
theorem inner_ok {b0 b1 b2 : Str} (g0 : FoldOk b0) (g1 : FoldOk b1) (g2 : FoldOk b2) {n0 n1 n2 p0 p1 p2 : Int} (e0 : 1 ≤ p0 ∧ p0 ≤ 10) (e1 : 1 ≤ p1 ∧ p1 ≤ 10) (e2 : 1 ≤ p2 ∧ p2 ≤ 10) {z : Nat} (hz : z = 1 ∨ z = 2) {q : CH} (hq : IntsAre q.vs q.bs) :
    InnerOk (dotsS p0 ++ b0) (dotsS p1 ++ b1) (dotsS p2 ++ b2) b0 b1 b2 n0 n1 n2 p0 p1 p2 z q := by
  have m := mail_ok (n0 := n0) (n1 := n1) (n2 := n2) (t := 1) (fold_self g0) (fold_self g1) (fold_self g2) g0 g1 g2 e0.1 e1.1 e2.1 hz q.bs
  have l : ∀ (p : Int) (c : Bool), 1 ≤ p ∧ p ≤ 10 → (p + if c = true then (z : Int) else 0) ≤ 1000 := fun p c h => by cases c <;> simp <;> omega
  exact ⟨hq, m.1, m.2, row_ok g0 _, row_ok g1 _, row_ok g2 _, place_ok g0 _ _ (l _ _ e0), place_ok g1 _ _ (l _ _ e1), place_ok g2 _ _ (l _ _ e2)⟩
theorem outer_ok {chs : List CH} {c1 : Int} {n0 n1 n2 d0 d1 d2 : Int} (e0 : 1 ≤ d0 ∧ d0 ≤ 5) (e1 : 1 ≤ d1 ∧ d1 ≤ 5) (e2 : 1 ≤ d2 ∧ d2 ≤ 5) {z0 z1 : Nat} (hz0 : z0 = 1 ∨ z0 = 2) (hz1 : z1 = 1 ∨ z1 = 2) {fvs : List Value} {fs : List Int} (hf : IntsAre fvs fs) (hc : ∀ q ∈ chs, IntsAre q.vs q.bs) :
    OuterOk (nRw n0) (nRw n1) (nRw n2) (nFo n0) (nFo n1) (nFo n2) n0 n1 n2 d0 d1 d2 z0 z1 chs c1 fvs fs := by
  have m := mail_ok (n0 := n0) (n1 := n1) (n2 := n2) (t := 0) (name_facts n0).1 (name_facts n1).1 (name_facts n2).1 (name_facts n0).2 (name_facts n1).2 (name_facts n2).2 e0.1 e1.1 e2.1 hz0 fs
  have l : ∀ (p : Int) (c : Bool), 1 ≤ p ∧ p ≤ 5 → 1 ≤ (p + if c = true then (z0 : Int) else 0) ∧ (p + if c = true then (z0 : Int) else 0) ≤ 10 := fun p c h => by cases c <;> simp <;> omega
  exact ⟨hf, m.1, m.2, row_ok (name_facts n0).2 _, row_ok (name_facts n1).2 _, row_ok (name_facts n2).2 _, fun q hq => inner_ok (name_facts n0).2 (name_facts n1).2 (name_facts n2).2 (l _ _ e0) (l _ _ e1) (l _ _ e2) hz1 (hc q (List.mem_filter.mp hq).1)⟩
end MyLaw
end
end
section
open PySem PySem.Spec PySem.Calls PySem.W PySem.W.X PyProof.Rows
noncomputable section
namespace MyLaw
open LCg
theorem fO {g h : Heap} {L c : Addr} {all : List (Addr × Obj)} {o : Obj} {v : Option Value} {p : Addr × Obj} (N : News g L h all) (hp : p ∈ all) (hc : (c, o) ∈ all) (hd : o.data = .cell v) (hn : ∀ v, p.2.data ≠ .cell v) : p.1 ≠ c := by
  rintro rfl
  have e := (N p hp).1
  rw [(N _ hc).1] at e
  exact hn v (Option.some.inj e ▸ hd)
theorem off_of {g h : Heap} {L a : Addr} {all : List (Addr × Obj)} {o : Obj} {p : Addr × Obj} (N : News g L h all) (hp : p ∈ all) (ha : (a, o) ∈ all) (hne : p.2 ≠ o) : p.1 ≠ a := by
  rintro rfl
  have e := (N p hp).1
  rw [(N _ ha).1] at e
  exact hne (Option.some.inj e).symm
theorem ne_cell {o o' : Obj} {v : Option Value} (hd : o.data = .cell v) (hn : ∀ v, o'.data ≠ .cell v) : o ≠ o' := fun e => hn v (e ▸ hd)
theorem aC {P : Addr × Obj → Prop} {q : Addr × Obj} {rest : List (Addr × Obj)} (h : P q) (hr : ∀ p ∈ rest, P p) : ∀ p ∈ q :: rest, P p := fun p hp => by
  rcases List.mem_cons.mp hp with rfl | hp
  · exact h
  · exact hr p hp
theorem all_nil {P : Addr × Obj → Prop} : ∀ p ∈ ([] : List (Addr × Obj)), P p := fun p hp => nomatch hp
def small5 (y : Value) : Prop := ∃ (d : Int) (t : Tok), y = .int d t ∧ 1 ≤ d ∧ d ≤ 5
theorem small5_get {l : List Value} {i : Nat} {y : Value} (h : ∀ y ∈ l, small5 y) (e : l[i]? = some y) : small5 y := h y (List.mem_of_getElem? e)
theorem small5_erase {l : List Value} {i : Nat} (h : ∀ y ∈ l, small5 y) : ∀ y ∈ l.eraseIdx i, small5 y := fun y hy => h y (List.mem_of_mem_eraseIdx hy)
theorem len_cons {n : Nat} {ys : List Value} (h : ys.length = n + 1) : ∃ y r, ys = y :: r ∧ r.length = n := by
  cases ys with
  | nil => cases h
  | cons y r => exact ⟨y, r, rfl, by simpa using h⟩
theorem cells_six {ys : List Value} (hl : ys.length = 6) (hy : ∀ j y, ys[j]? = some y → ∃ v t, y = .int v t ∧ baseTab.getD j 0 ≤ v ∧ v ≤ baseTab.getD j 0 + 63000000) :
    ∃ c0 c1 c2 c3 c4 c5 u0 u1 u2 u3 u4 u5, ys = [.int c0 u0, .int c1 u1, .int c2 u2, .int c3 u3, .int c4 u4, .int c5 u5] ∧ (305 ≤ c0 ∧ c0 ≤ 305 + 63000000) ∧ (560 ≤ c1 ∧ c1 ≤ 560 + 63000000) ∧ (258 ≤ c2 ∧ c2 ≤ 258 + 63000000) ∧ (51 ≤ c3 ∧ c3 ≤ 51 + 63000000) ∧ (48 ≤ c4 ∧ c4 ≤ 48 + 63000000) ∧ (50 ≤ c5 ∧ c5 ≤ 50 + 63000000) := by
  obtain ⟨y0, r0, rfl, h0⟩ := len_cons hl
  obtain ⟨y1, r1, rfl, h1⟩ := len_cons h0
  obtain ⟨y2, r2, rfl, h2⟩ := len_cons h1
  obtain ⟨y3, r3, rfl, h3⟩ := len_cons h2
  obtain ⟨y4, r4, rfl, h4⟩ := len_cons h3
  obtain ⟨y5, r5, rfl, h5⟩ := len_cons h4
  obtain rfl := List.eq_nil_of_length_eq_zero h5
  obtain ⟨c0, u0, rfl, a0, b0⟩ := hy 0 y0 rfl
  obtain ⟨c1, u1, rfl, a1, b1⟩ := hy 1 y1 rfl
  obtain ⟨c2, u2, rfl, a2, b2⟩ := hy 2 y2 rfl
  obtain ⟨c3, u3, rfl, a3, b3⟩ := hy 3 y3 rfl
  obtain ⟨c4, u4, rfl, a4, b4⟩ := hy 4 y4 rfl
  obtain ⟨c5, u5, rfl, a5, b5⟩ := hy 5 y5 rfl
  exact ⟨c0, c1, c2, c3, c4, c5, u0, u1, u2, u3, u4, u5, rfl, ⟨a0, b0⟩, ⟨a1, b1⟩, ⟨a2, b2⟩, ⟨a3, b3⟩, ⟨a4, b4⟩, ⟨a5, b5⟩⟩
section
variable {w : World} {mean : ExcName → Option Value} {mg mb : Str → Option Value} {news : List (Addr × Obj)} {dp un : Nat} {gd : Option (List Code)} {A₀ : Around} {base h₀ : Heap} {L : Addr} {mr : Str → Option Value} {s : Shared} {Q : Flow → Shared → Prop} {E : Value → Shared → Prop}
theorem pre1 {la : Addr} {oA : Obj} {oB oC oE oD oR oN oK oT oF oP oS oL oH : Obj} {vB vC vE vD vR vN vK vT vF vP vS vL vH : Option Value} {vs : List Value} {ns : List Int} (hl : h₀.IsList la vs.toArray) (hi : IntsAre vs ns) (hlen : ns.length ≤ 63)
    (hoA : oA.data = .cell (some (.ref la))) (hoB : oB.data = .cell vB) (hoC : oC.data = .cell vC) (hoE : oE.data = .cell vE) (hoD : oD.data = .cell vD) (hoR : oR.data = .cell vR) (hoN : oN.data = .cell vN) (hoK : oK.data = .cell vK) (hoT : oT.data = .cell vT) (hoF : oF.data = .cell vF) (hoP : oP.data = .cell vP) (hoS : oS.data = .cell vS) (hoL : oL.data = .cell vL) (hoH : oH.data = .cell vH)
    (B : Below A₀ base [] h₀) (X : (KK w.params).In h₀) (T : Top VV (looseW VV LO) mean mg mb h₀) (F : Fr h₀ L s.heap mr)
    (N : News h₀ L s.heap ((L + 1, oA) :: (L + 2, oB) :: (L + 3, oC) :: (L + 4, oE) :: (L + 5, oD) :: (L + 6, oR) :: (L + 7, oN) :: (L + 8, oK) :: (L + 9, oT) :: (L + 10, oF) :: (L + 11, oP) :: (L + 12, oS) :: (L + 13, oL) :: (L + 14, oH) :: [] : List (Addr × Obj))) (hd : dp + 3 < recursionLimit) (hu : un + 30 < cLine)
    (hret : ∀ (oC1 oD1 : Obj) (lc ld : Addr) (c0 c1 c2 c3 c4 c5 d0 d1 d2 : Int) (u0 u1 u2 u3 u4 u5 ud0 ud1 ud2 : Tok) h' tk', (305 ≤ c0 ∧ c0 ≤ 305 + 63000000) → (560 ≤ c1 ∧ c1 ≤ 560 + 63000000) → (258 ≤ c2 ∧ c2 ≤ 258 + 63000000) → (51 ≤ c3 ∧ c3 ≤ 51 + 63000000) → (48 ≤ c4 ∧ c4 ≤ 48 + 63000000) → (50 ≤ c5 ∧ c5 ≤ 50 + 63000000) → (1 ≤ d0 ∧ d0 ≤ 5) → (1 ≤ d1 ∧ d1 ≤ 5) → (1 ≤ d2 ∧ d2 ≤ 5) → oC1.data = .cell (some (.ref lc)) → oD1.data = .cell (some (.ref ld)) → Fr h₀ L h' mr → News h₀ L h' ((L + 3, oC1) :: (L + 5, oD1) :: (lc, W.listOf #[.int c0 u0, .int c1 u1, .int c2 u2, .int c3 u3, .int c4 u4, .int c5 u5] 6) :: (ld, W.listOf #[.int d0 ud0, .int d1 ud1, .int d2 ud2] 3) :: (L + 6, oR) :: (L + 7, oN) :: (L + 8, oK) :: (L + 9, oT) :: (L + 10, oF) :: (L + 11, oP) :: (L + 12, oS) :: (L + 13, oL) :: (L + 14, oH) :: [] : List (Addr × Obj)) → wpAny (model PP w) (ktrTop dp un gd lawN lawSc L 204 (.ref 203) (lawCl L) []) (execs (q26.1.2.1.drop 4) (envX lawN lawSc L 204 (.ref 203) (lawCl L))) Q E { s with heap := h', toks := tk' }) :
    wpAny (model PP w) (ktrTop dp un gd lawN lawSc L 204 (.ref 203) (lawCl L) []) (execs q26.1.2.1 (envX lawN lawSc L 204 (.ref 203) (lawCl L))) Q E s := by
  show wpAny _ _ (execs (_ :: _) _) _ _ _
  refine wpAny_execs_cons ?_
  show wpAny (model PP w) (ktrTop dp un gd lawN lawSc L 204 (.ref 203) (lawCl L) []) (exec (q26.1.2.1[0]?.getD (.Pass default)) (envX lawN lawSc L 204 (.ref 203) (lawCl L))) _ _ _
  have N0 : News h₀ L s.heap ((L + 2, oB) :: ((L + 1, oA) :: (L + 3, oC) :: (L + 4, oE) :: (L + 5, oD) :: (L + 6, oR) :: (L + 7, oN) :: (L + 8, oK) :: (L + 9, oT) :: (L + 10, oF) :: (L + 11, oP) :: (L + 12, oS) :: (L + 13, oL) :: (L + 14, oH) :: [] : List (Addr × Obj))) := (nM (p := (L + 2, oB)) N (by k_mem) (nM (p := (L + 1, oA)) N (by k_mem) (nM (p := (L + 3, oC)) N (by k_mem) (nM (p := (L + 4, oE)) N (by k_mem) (nM (p := (L + 5, oD)) N (by k_mem) (nM (p := (L + 6, oR)) N (by k_mem) (nM (p := (L + 7, oN)) N (by k_mem) (nM (p := (L + 8, oK)) N (by k_mem) (nM (p := (L + 9, oT)) N (by k_mem) (nM (p := (L + 10, oF)) N (by k_mem) (nM (p := (L + 11, oP)) N (by k_mem) (nM (p := (L + 12, oS)) N (by k_mem) (nM (p := (L + 13, oL)) N (by k_mem) (nM (p := (L + 14, oH)) N (by k_mem) all_nil))))))))))))))
  with_reducible refine' base_use hoB ?far B X T F N0 hd hu ?_
  case far => exact (aC (P := fun p => p.1 ≠ L + 2) (nAd (by decide)) (aC (P := fun p => p.1 ≠ L + 2) (nAd (by decide)) (aC (P := fun p => p.1 ≠ L + 2) (nAd (by decide)) (aC (P := fun p => p.1 ≠ L + 2) (nAd (by decide)) (aC (P := fun p => p.1 ≠ L + 2) (nAd (by decide)) (aC (P := fun p => p.1 ≠ L + 2) (nAd (by decide)) (aC (P := fun p => p.1 ≠ L + 2) (nAd (by decide)) (aC (P := fun p => p.1 ≠ L + 2) (nAd (by decide)) (aC (P := fun p => p.1 ≠ L + 2) (nAd (by decide)) (aC (P := fun p => p.1 ≠ L + 2) (nAd (by decide)) (aC (P := fun p => p.1 ≠ L + 2) (nAd (by decide)) (aC (P := fun p => p.1 ≠ L + 2) (nAd (by decide)) (aC (P := fun p => p.1 ≠ L + 2) (nAd (by decide)) all_nil)))))))))))))
  intro lb oB1 b0 b1 b2 b3 b4 b5 h1 tk1 hoB1 F1 N1
  clear N0 N F
  dsimp only
  refine wpAny_execs_cons ?_
  refine wpAny_Assign_Name ?_
  show wpAny (model PP w) (ktrTop dp un gd lawN lawSc L 204 (.ref 203) (lawCl L) []) (eval lawCells (envX lawN lawSc L 204 (.ref 203) (lawCl L))) _ _ _
  have N2 : News h₀ L h1 ((L + 1, oA) :: (L + 2, oB1) :: (lb, W.listOf #[.int 305 b0, .int 560 b1, .int 258 b2, .int 51 b3, .int 48 b4, .int 50 b5] 0) :: ((L + 3, oC) :: (L + 4, oE) :: (L + 5, oD) :: (L + 6, oR) :: (L + 7, oN) :: (L + 8, oK) :: (L + 9, oT) :: (L + 10, oF) :: (L + 11, oP) :: (L + 12, oS) :: (L + 13, oL) :: (L + 14, oH) :: [] : List (Addr × Obj))) := (nM (p := (L + 1, oA)) N1 (by k_mem) (nM (p := (L + 2, oB1)) N1 (by k_mem) (nM (p := (lb, W.listOf #[.int 305 b0, .int 560 b1, .int 258 b2, .int 51 b3, .int 48 b4, .int 50 b5] 0)) N1 (by k_mem) (nM (p := (L + 3, oC)) N1 (by k_mem) (nM (p := (L + 4, oE)) N1 (by k_mem) (nM (p := (L + 5, oD)) N1 (by k_mem) (nM (p := (L + 6, oR)) N1 (by k_mem) (nM (p := (L + 7, oN)) N1 (by k_mem) (nM (p := (L + 8, oK)) N1 (by k_mem) (nM (p := (L + 9, oT)) N1 (by k_mem) (nM (p := (L + 10, oF)) N1 (by k_mem) (nM (p := (L + 11, oP)) N1 (by k_mem) (nM (p := (L + 12, oS)) N1 (by k_mem) (nM (p := (L + 13, oL)) N1 (by k_mem) (nM (p := (L + 14, oH)) N1 (by k_mem) all_nil)))))))))))))))
  clear N1
  with_reducible refine' cells_use hl hi hlen hoA hoB1 B X T F1 N2 hd hu ?_
  intro lc ys h2 tk2 hl6 hys F2 N3 _
  obtain ⟨c0, c1, c2, c3, c4, c5, u0, u1, u2, u3, u4, u5, rfl, q0, q1, q2, q3, q4, q5⟩ := cells_six hl6 hys
  clear hys N2 F1 hl6
  have N4 : News h₀ L h2 ((lc, W.listOf #[.int c0 u0, .int c1 u1, .int c2 u2, .int c3 u3, .int c4 u4, .int c5 u5] 6) :: (L + 3, oC) :: (L + 4, oE) :: (L + 5, oD) :: (L + 6, oR) :: (L + 7, oN) :: (L + 8, oK) :: (L + 9, oT) :: (L + 10, oF) :: (L + 11, oP) :: (L + 12, oS) :: (L + 13, oL) :: (L + 14, oH) :: [] : List (Addr × Obj)) := (nM (p := (lc, W.listOf #[.int c0 u0, .int c1 u1, .int c2 u2, .int c3 u3, .int c4 u4, .int c5 u5] 6)) N3 (by k_mem) (nM (p := (L + 3, oC)) N3 (by k_mem) (nM (p := (L + 4, oE)) N3 (by k_mem) (nM (p := (L + 5, oD)) N3 (by k_mem) (nM (p := (L + 6, oR)) N3 (by k_mem) (nM (p := (L + 7, oN)) N3 (by k_mem) (nM (p := (L + 8, oK)) N3 (by k_mem) (nM (p := (L + 9, oT)) N3 (by k_mem) (nM (p := (L + 10, oF)) N3 (by k_mem) (nM (p := (L + 11, oP)) N3 (by k_mem) (nM (p := (L + 12, oS)) N3 (by k_mem) (nM (p := (L + 13, oL)) N3 (by k_mem) (nM (p := (L + 14, oH)) N3 (by k_mem) all_nil)))))))))))))
  clear N3
  refine store_cell (c := L + 3) (rest := ((lc, W.listOf #[.int c0 u0, .int c1 u1, .int c2 u2, .int c3 u3, .int c4 u4, .int c5 u5] 6) :: (L + 4, oE) :: (L + 5, oD) :: (L + 6, oR) :: (L + 7, oN) :: (L + 8, oK) :: (L + 9, oT) :: (L + 10, oF) :: (L + 11, oP) :: (L + 12, oS) :: (L + 13, oL) :: (L + 14, oH) :: [] : List (Addr × Obj))) F2 N4 rfl (by k_mem) hoC (aC (P := fun p => p ∈ _ ∧ p.1 ≠ L + 3) ⟨by k_mem, (fO (p := (lc, W.listOf #[.int c0 u0, .int c1 u1, .int c2 u2, .int c3 u3, .int c4 u4, .int c5 u5] 6)) N4 (by k_mem) (c := L + 3) (by k_mem) hoC (fun v h => nomatch h))⟩ (aC (P := fun p => p ∈ _ ∧ p.1 ≠ L + 3) ⟨by k_mem, (nAd (by decide))⟩ (aC (P := fun p => p ∈ _ ∧ p.1 ≠ L + 3) ⟨by k_mem, (nAd (by decide))⟩ (aC (P := fun p => p ∈ _ ∧ p.1 ≠ L + 3) ⟨by k_mem, (nAd (by decide))⟩ (aC (P := fun p => p ∈ _ ∧ p.1 ≠ L + 3) ⟨by k_mem, (nAd (by decide))⟩ (aC (P := fun p => p ∈ _ ∧ p.1 ≠ L + 3) ⟨by k_mem, (nAd (by decide))⟩ (aC (P := fun p => p ∈ _ ∧ p.1 ≠ L + 3) ⟨by k_mem, (nAd (by decide))⟩ (aC (P := fun p => p ∈ _ ∧ p.1 ≠ L + 3) ⟨by k_mem, (nAd (by decide))⟩ (aC (P := fun p => p ∈ _ ∧ p.1 ≠ L + 3) ⟨by k_mem, (nAd (by decide))⟩ (aC (P := fun p => p ∈ _ ∧ p.1 ≠ L + 3) ⟨by k_mem, (nAd (by decide))⟩ (aC (P := fun p => p ∈ _ ∧ p.1 ≠ L + 3) ⟨by k_mem, (nAd (by decide))⟩ (aC (P := fun p => p ∈ _ ∧ p.1 ≠ L + 3) ⟨by k_mem, (nAd (by decide))⟩ all_nil)))))))))))) ?_ rfl rfl
  intro h3 oC1 hoC1 F3 N5
  clear N4 F2
  dsimp only
  refine wpAny_execs_cons ?_
  show wpAny (model PP w) (ktrTop dp un gd lawN lawSc L 204 (.ref 203) (lawCl L) []) (exec (q26.1.2.1[2]?.getD (.Pass default)) (envX lawN lawSc L 204 (.ref 203) (lawCl L))) _ _ _
  have N6 : News h₀ L h3 ((L + 4, oE) :: ((lc, W.listOf #[.int c0 u0, .int c1 u1, .int c2 u2, .int c3 u3, .int c4 u4, .int c5 u5] 6) :: (L + 3, oC1) :: (L + 5, oD) :: (L + 6, oR) :: (L + 7, oN) :: (L + 8, oK) :: (L + 9, oT) :: (L + 10, oF) :: (L + 11, oP) :: (L + 12, oS) :: (L + 13, oL) :: (L + 14, oH) :: [] : List (Addr × Obj))) := (nM (p := (L + 4, oE)) N5 (by k_mem) (nM (p := (lc, W.listOf #[.int c0 u0, .int c1 u1, .int c2 u2, .int c3 u3, .int c4 u4, .int c5 u5] 6)) N5 (by k_mem) (nM (p := (L + 3, oC1)) N5 (by k_mem) (nM (p := (L + 5, oD)) N5 (by k_mem) (nM (p := (L + 6, oR)) N5 (by k_mem) (nM (p := (L + 7, oN)) N5 (by k_mem) (nM (p := (L + 8, oK)) N5 (by k_mem) (nM (p := (L + 9, oT)) N5 (by k_mem) (nM (p := (L + 10, oF)) N5 (by k_mem) (nM (p := (L + 11, oP)) N5 (by k_mem) (nM (p := (L + 12, oS)) N5 (by k_mem) (nM (p := (L + 13, oL)) N5 (by k_mem) (nM (p := (L + 14, oH)) N5 (by k_mem) all_nil)))))))))))))
  clear N5
  with_reducible refine' left_use hoE ?far B X T F3 N6 hd hu ?_
  case far => exact (aC (P := fun p => p.1 ≠ L + 4) (fO (p := (lc, W.listOf #[.int c0 u0, .int c1 u1, .int c2 u2, .int c3 u3, .int c4 u4, .int c5 u5] 6)) N6 (by k_mem) (c := L + 4) (by k_mem) hoE (fun v h => nomatch h)) (aC (P := fun p => p.1 ≠ L + 4) (nAd (by decide)) (aC (P := fun p => p.1 ≠ L + 4) (nAd (by decide)) (aC (P := fun p => p.1 ≠ L + 4) (nAd (by decide)) (aC (P := fun p => p.1 ≠ L + 4) (nAd (by decide)) (aC (P := fun p => p.1 ≠ L + 4) (nAd (by decide)) (aC (P := fun p => p.1 ≠ L + 4) (nAd (by decide)) (aC (P := fun p => p.1 ≠ L + 4) (nAd (by decide)) (aC (P := fun p => p.1 ≠ L + 4) (nAd (by decide)) (aC (P := fun p => p.1 ≠ L + 4) (nAd (by decide)) (aC (P := fun p => p.1 ≠ L + 4) (nAd (by decide)) (aC (P := fun p => p.1 ≠ L + 4) (nAd (by decide)) all_nil))))))))))))
  intro ll oE1 f0 f1 f2 f3 h4 tk4 hoE1 F4 N7
  clear N6 F3
  dsimp only
  refine wpAny_execs_cons ?_
  refine wpAny_Assign_Name ?_
  show wpAny (model PP w) (ktrTop dp un gd lawN lawSc L 204 (.ref 203) (lawCl L) []) (eval lawDots (envX lawN lawSc L 204 (.ref 203) (lawCl L))) _ _ _
  have N8 : News h₀ L h4 ((ll, W.listOf [.int 1 f0, .int 2 f1, .int 3 f2, .int 5 f3].toArray 0) :: (L + 3, oC1) :: (L + 4, oE1) :: (lc, W.listOf #[.int c0 u0, .int c1 u1, .int c2 u2, .int c3 u3, .int c4 u4, .int c5 u5] 6) :: ((L + 5, oD) :: (L + 6, oR) :: (L + 7, oN) :: (L + 8, oK) :: (L + 9, oT) :: (L + 10, oF) :: (L + 11, oP) :: (L + 12, oS) :: (L + 13, oL) :: (L + 14, oH) :: [] : List (Addr × Obj))) := (nM (p := (ll, W.listOf [.int 1 f0, .int 2 f1, .int 3 f2, .int 5 f3].toArray 0)) N7 (by k_mem) (nM (p := (L + 3, oC1)) N7 (by k_mem) (nM (p := (L + 4, oE1)) N7 (by k_mem) (nM (p := (lc, W.listOf #[.int c0 u0, .int c1 u1, .int c2 u2, .int c3 u3, .int c4 u4, .int c5 u5] 6)) N7 (by k_mem) (nM (p := (L + 5, oD)) N7 (by k_mem) (nM (p := (L + 6, oR)) N7 (by k_mem) (nM (p := (L + 7, oN)) N7 (by k_mem) (nM (p := (L + 8, oK)) N7 (by k_mem) (nM (p := (L + 9, oT)) N7 (by k_mem) (nM (p := (L + 10, oF)) N7 (by k_mem) (nM (p := (L + 11, oP)) N7 (by k_mem) (nM (p := (L + 12, oS)) N7 (by k_mem) (nM (p := (L + 13, oL)) N7 (by k_mem) (nM (p := (L + 14, oH)) N7 (by k_mem) all_nil))))))))))))))
  clear N7
  with_reducible refine' dots_use (lv := [.int 1 f0, .int 2 f1, .int 3 f2, .int 5 f3]) rfl hoC1 hoE1 ?off B X T F4 N8 hd hu ?_
  case off => exact (aC (P := fun p => p.1 ≠ ll) (off_of (p := (L + 3, oC1)) N8 (by k_mem) (.head _) (ne_cell (by assumption) (fun v h => nomatch h))) (aC (P := fun p => p.1 ≠ ll) (off_of (p := (L + 4, oE1)) N8 (by k_mem) (.head _) (ne_cell (by assumption) (fun v h => nomatch h))) (aC (P := fun p => p.1 ≠ ll) (off_of (p := (lc, W.listOf #[.int c0 u0, .int c1 u1, .int c2 u2, .int c3 u3, .int c4 u4, .int c5 u5] 6)) N8 (by k_mem) (.head _) (fun h => nomatch h)) (aC (P := fun p => p.1 ≠ ll) (off_of (p := (L + 5, oD)) N8 (by k_mem) (.head _) (ne_cell (by assumption) (fun v h => nomatch h))) (aC (P := fun p => p.1 ≠ ll) (off_of (p := (L + 6, oR)) N8 (by k_mem) (.head _) (ne_cell (by assumption) (fun v h => nomatch h))) (aC (P := fun p => p.1 ≠ ll) (off_of (p := (L + 7, oN)) N8 (by k_mem) (.head _) (ne_cell (by assumption) (fun v h => nomatch h))) (aC (P := fun p => p.1 ≠ ll) (off_of (p := (L + 8, oK)) N8 (by k_mem) (.head _) (ne_cell (by assumption) (fun v h => nomatch h))) (aC (P := fun p => p.1 ≠ ll) (off_of (p := (L + 9, oT)) N8 (by k_mem) (.head _) (ne_cell (by assumption) (fun v h => nomatch h))) (aC (P := fun p => p.1 ≠ ll) (off_of (p := (L + 10, oF)) N8 (by k_mem) (.head _) (ne_cell (by assumption) (fun v h => nomatch h))) (aC (P := fun p => p.1 ≠ ll) (off_of (p := (L + 11, oP)) N8 (by k_mem) (.head _) (ne_cell (by assumption) (fun v h => nomatch h))) (aC (P := fun p => p.1 ≠ ll) (off_of (p := (L + 12, oS)) N8 (by k_mem) (.head _) (ne_cell (by assumption) (fun v h => nomatch h))) (aC (P := fun p => p.1 ≠ ll) (off_of (p := (L + 13, oL)) N8 (by k_mem) (.head _) (ne_cell (by assumption) (fun v h => nomatch h))) (aC (P := fun p => p.1 ≠ ll) (off_of (p := (L + 14, oH)) N8 (by k_mem) (.head _) (ne_cell (by assumption) (fun v h => nomatch h))) all_nil)))))))))))))
  intro ld y0 y1 y2 lv' n' h5 tk5 z0 z1 z2 F5 N9 _
  have s5 : ∀ y ∈ ([.int 1 f0, .int 2 f1, .int 3 f2, .int 5 f3] : List Value), small5 y := fun y hy => by
    simp only [List.mem_cons, List.not_mem_nil, or_false] at hy
    rcases hy with rfl | rfl | rfl | rfl <;> exact ⟨_, _, rfl, by decide, by decide⟩
  obtain ⟨d0, ud0, rfl, w0⟩ := small5_get s5 z0
  obtain ⟨d1, ud1, rfl, w1⟩ := small5_get (small5_erase s5) z1
  obtain ⟨d2, ud2, rfl, w2⟩ := small5_get (small5_erase (small5_erase s5)) z2
  clear s5 z0 z1 z2 N8 F4
  have NA : News h₀ L h5 ((ld, W.listOf #[.int d0 ud0, .int d1 ud1, .int d2 ud2] 3) :: (lc, W.listOf #[.int c0 u0, .int c1 u1, .int c2 u2, .int c3 u3, .int c4 u4, .int c5 u5] 6) :: (L + 3, oC1) :: (L + 5, oD) :: (L + 6, oR) :: (L + 7, oN) :: (L + 8, oK) :: (L + 9, oT) :: (L + 10, oF) :: (L + 11, oP) :: (L + 12, oS) :: (L + 13, oL) :: (L + 14, oH) :: [] : List (Addr × Obj)) := (nM (p := (ld, W.listOf #[.int d0 ud0, .int d1 ud1, .int d2 ud2] 3)) N9 (by k_mem) (nM (p := (lc, W.listOf #[.int c0 u0, .int c1 u1, .int c2 u2, .int c3 u3, .int c4 u4, .int c5 u5] 6)) N9 (by k_mem) (nM (p := (L + 3, oC1)) N9 (by k_mem) (nM (p := (L + 5, oD)) N9 (by k_mem) (nM (p := (L + 6, oR)) N9 (by k_mem) (nM (p := (L + 7, oN)) N9 (by k_mem) (nM (p := (L + 8, oK)) N9 (by k_mem) (nM (p := (L + 9, oT)) N9 (by k_mem) (nM (p := (L + 10, oF)) N9 (by k_mem) (nM (p := (L + 11, oP)) N9 (by k_mem) (nM (p := (L + 12, oS)) N9 (by k_mem) (nM (p := (L + 13, oL)) N9 (by k_mem) (nM (p := (L + 14, oH)) N9 (by k_mem) all_nil)))))))))))))
  clear N9
  refine store_cell (c := L + 5) (rest := ((ld, W.listOf #[.int d0 ud0, .int d1 ud1, .int d2 ud2] 3) :: (lc, W.listOf #[.int c0 u0, .int c1 u1, .int c2 u2, .int c3 u3, .int c4 u4, .int c5 u5] 6) :: (L + 3, oC1) :: (L + 6, oR) :: (L + 7, oN) :: (L + 8, oK) :: (L + 9, oT) :: (L + 10, oF) :: (L + 11, oP) :: (L + 12, oS) :: (L + 13, oL) :: (L + 14, oH) :: [] : List (Addr × Obj))) F5 NA rfl (by k_mem) hoD (aC (P := fun p => p ∈ _ ∧ p.1 ≠ L + 5) ⟨by k_mem, (fO (p := (ld, W.listOf #[.int d0 ud0, .int d1 ud1, .int d2 ud2] 3)) NA (by k_mem) (c := L + 5) (by k_mem) hoD (fun v h => nomatch h))⟩ (aC (P := fun p => p ∈ _ ∧ p.1 ≠ L + 5) ⟨by k_mem, (fO (p := (lc, W.listOf #[.int c0 u0, .int c1 u1, .int c2 u2, .int c3 u3, .int c4 u4, .int c5 u5] 6)) NA (by k_mem) (c := L + 5) (by k_mem) hoD (fun v h => nomatch h))⟩ (aC (P := fun p => p ∈ _ ∧ p.1 ≠ L + 5) ⟨by k_mem, (nAd (by decide))⟩ (aC (P := fun p => p ∈ _ ∧ p.1 ≠ L + 5) ⟨by k_mem, (nAd (by decide))⟩ (aC (P := fun p => p ∈ _ ∧ p.1 ≠ L + 5) ⟨by k_mem, (nAd (by decide))⟩ (aC (P := fun p => p ∈ _ ∧ p.1 ≠ L + 5) ⟨by k_mem, (nAd (by decide))⟩ (aC (P := fun p => p ∈ _ ∧ p.1 ≠ L + 5) ⟨by k_mem, (nAd (by decide))⟩ (aC (P := fun p => p ∈ _ ∧ p.1 ≠ L + 5) ⟨by k_mem, (nAd (by decide))⟩ (aC (P := fun p => p ∈ _ ∧ p.1 ≠ L + 5) ⟨by k_mem, (nAd (by decide))⟩ (aC (P := fun p => p ∈ _ ∧ p.1 ≠ L + 5) ⟨by k_mem, (nAd (by decide))⟩ (aC (P := fun p => p ∈ _ ∧ p.1 ≠ L + 5) ⟨by k_mem, (nAd (by decide))⟩ (aC (P := fun p => p ∈ _ ∧ p.1 ≠ L + 5) ⟨by k_mem, (nAd (by decide))⟩ all_nil)))))))))))) ?_ rfl rfl
  intro h6 oD1 hoD1 F6 NB
  exact hret oC1 oD1 lc ld c0 c1 c2 c3 c4 c5 d0 d1 d2 u0 u1 u2 u3 u4 u5 ud0 ud1 ud2 h6 _ q0 q1 q2 q3 q4 q5 w0 w1 w2 hoC1 hoD1 F6 (nM (p := (L + 3, oC1)) NB (by k_mem) (nM (p := (L + 5, oD1)) NB (by k_mem) (nM (p := (lc, W.listOf #[.int c0 u0, .int c1 u1, .int c2 u2, .int c3 u3, .int c4 u4, .int c5 u5] 6)) NB (by k_mem) (nM (p := (ld, W.listOf #[.int d0 ud0, .int d1 ud1, .int d2 ud2] 3)) NB (by k_mem) (nM (p := (L + 6, oR)) NB (by k_mem) (nM (p := (L + 7, oN)) NB (by k_mem) (nM (p := (L + 8, oK)) NB (by k_mem) (nM (p := (L + 9, oT)) NB (by k_mem) (nM (p := (L + 10, oF)) NB (by k_mem) (nM (p := (L + 11, oP)) NB (by k_mem) (nM (p := (L + 12, oS)) NB (by k_mem) (nM (p := (L + 13, oL)) NB (by k_mem) (nM (p := (L + 14, oH)) NB (by k_mem) all_nil)))))))))))))
end
end MyLaw
end
end
section
open PySem PySem.Spec PySem.Calls PySem.W PySem.W.X PyProof.Rows
noncomputable section
namespace MyLaw
open LCg
theorem quarter {c : Int} (h0 : 0 ≤ c) (h1 : c ≤ 70000000) : 0 ≤ c.fdiv 4 ∧ c.fdiv 4 < 2 ^ 60 := by
  rw [Int.fdiv_eq_ediv_of_nonneg _ (by decide)]
  omega
theorem number_bound (c k : Int) (h : 0 ≤ k ∧ k ≤ 2) : -1000 ≤ 4 * (c.fmod 101 - 50) + k + 1 ∧ 4 * (c.fmod 101 - 50) + k + 1 ≤ 1000 := by
  have h0 := Int.fmod_nonneg_of_pos c (show (0 : Int) < 101 by decide)
  have h1 := Int.fmod_lt_of_pos c (show (0 : Int) < 101 by decide)
  omega
theorem count_bound (c : Int) : 1 ≤ 1 + c.fmod 3 ∧ 1 + c.fmod 3 ≤ 3 := by
  have h0 := Int.fmod_nonneg_of_pos c (show (0 : Int) < 3 by decide)
  have h1 := Int.fmod_lt_of_pos c (show (0 : Int) < 3 by decide)
  omega
theorem times_nat (c : Int) : ∃ z : Nat, 1 + c.fmod 2 = (z : Int) ∧ (z = 1 ∨ z = 2) := by
  have h0 := Int.fmod_nonneg_of_pos c (show (0 : Int) < 2 by decide)
  have h1 := Int.fmod_lt_of_pos c (show (0 : Int) < 2 by decide)
  exact ⟨(1 + c.fmod 2).toNat, by omega, by omega⟩
section
variable {w : World} {mean : ExcName → Option Value} {mg mb : Str → Option Value} {news : List (Addr × Obj)} {dp un : Nat} {gd : Option (List Code)} {A₀ : Around} {base h₀ : Heap} {L : Addr} {mr : Str → Option Value} {s : Shared} {Q : Flow → Shared → Prop} {E : Value → Shared → Prop}
theorem pre2 {lc ld : Addr} {oC oD oR oN oK oT oF oP oS oL oH : Obj} {vR vN vK vT vF vP vS vL vH : Option Value} {c0 c1 c2 c3 c4 c5 d0 d1 d2 : Int} {u0 u1 u2 u3 u4 u5 ud0 ud1 ud2 : Tok} (q0 : 0 ≤ c0 ∧ c0 ≤ 70000000) (q1 : 0 ≤ c1 ∧ c1 ≤ 70000000) (q2 : 0 ≤ c2 ∧ c2 ≤ 70000000)
    (hoC : oC.data = .cell (some (.ref lc))) (hoD : oD.data = .cell (some (.ref ld))) (hoR : oR.data = .cell vR) (hoN : oN.data = .cell vN) (hoK : oK.data = .cell vK) (hoT : oT.data = .cell vT) (hoF : oF.data = .cell vF) (hoP : oP.data = .cell vP) (hoS : oS.data = .cell vS) (hoL : oL.data = .cell vL) (hoH : oH.data = .cell vH)
    (B : Below A₀ base [] h₀) (X : (KK w.params).In h₀) (T : Top VV (looseW VV LO) mean mg mb h₀) (F : Fr h₀ L s.heap mr)
    (N : News h₀ L s.heap ((L + 3, oC) :: (L + 5, oD) :: (lc, W.listOf #[.int c0 u0, .int c1 u1, .int c2 u2, .int c3 u3, .int c4 u4, .int c5 u5] 6) :: (ld, W.listOf #[.int d0 ud0, .int d1 ud1, .int d2 ud2] 3) :: (L + 6, oR) :: (L + 7, oN) :: (L + 8, oK) :: (L + 9, oT) :: (L + 10, oF) :: (L + 11, oP) :: (L + 12, oS) :: (L + 13, oL) :: (L + 14, oH) :: [] : List (Addr × Obj))) (hd : dp + 3 < recursionLimit) (hu : un + 30 < cLine)
    (hret : ∀ (oR1 oN1 : Obj) (ls ln m0 m1 m2 lx : Addr) (n0 n1 n2 x0 x1 x2 : Int) (un0 un1 un2 ta0 tb0 ta1 tb1 ta2 tb2 ux0 ux1 ux2 : Tok) h' tk', 0 ≤ n0 → 0 ≤ n1 → 0 ≤ n2 → (-1000 ≤ x0 ∧ x0 ≤ 1000) → (-1000 ≤ x1 ∧ x1 ≤ 1000) → (-1000 ≤ x2 ∧ x2 ≤ 1000) → oR1.data = .cell (some (.ref ls)) → oN1.data = .cell (some (.ref ln)) → Fr h₀ L h' (fun z => if z = Str.ofString "numbers" then some (.ref lx) else mr z) → News h₀ L h' ((lx, W.listOf #[.int x0 ux0, .int x1 ux1, .int x2 ux2] 3) :: (lc, W.listOf #[.int c0 u0, .int c1 u1, .int c2 u2, .int c3 u3, .int c4 u4, .int c5 u5] 6) :: (L + 3, oC) :: (L + 5, oD) :: (L + 6, oR1) :: (L + 7, oN1) :: (ls, W.listOf #[.int n0 un0, .int n1 un1, .int n2 un2] 3) :: (ln, W.listOf #[.ref m0, .ref m1, .ref m2] 3) :: (m0, { cls := .type "tuple", data := .seq #[.str (nRw n0) ta0, .str (nFo n0) tb0] }) :: (m1, { cls := .type "tuple", data := .seq #[.str (nRw n1) ta1, .str (nFo n1) tb1] }) :: (m2, { cls := .type "tuple", data := .seq #[.str (nRw n2) ta2, .str (nFo n2) tb2] }) :: (ld, W.listOf #[.int d0 ud0, .int d1 ud1, .int d2 ud2] 3) :: (L + 8, oK) :: (L + 9, oT) :: (L + 10, oF) :: (L + 11, oP) :: (L + 12, oS) :: (L + 13, oL) :: (L + 14, oH) :: [] : List (Addr × Obj)) → wpAny (model PP w) (ktrTop dp un gd lawN lawSc L 204 (.ref 203) (lawCl L) []) (execs (q26.1.2.1.drop 7) (envX lawN lawSc L 204 (.ref 203) (lawCl L))) Q E { s with heap := h', toks := tk' }) :
    wpAny (model PP w) (ktrTop dp un gd lawN lawSc L 204 (.ref 203) (lawCl L) []) (execs (q26.1.2.1.drop 4) (envX lawN lawSc L 204 (.ref 203) (lawCl L))) Q E s := by
  show wpAny _ _ (execs (_ :: _) _) _ _ _
  refine wpAny_execs_cons ?_
  refine wpAny_Assign_Name ?_
  show wpAny (model PP w) (ktrTop dp un gd lawN lawSc L 204 (.ref 203) (lawCl L) []) (eval lawRests (envX lawN lawSc L 204 (.ref 203) (lawCl L))) _ _ _
  have N0 : News h₀ L s.heap ((L + 3, oC) :: (lc, W.listOf #[.int c0 u0, .int c1 u1, .int c2 u2, .int c3 u3, .int c4 u4, .int c5 u5] 6) :: ((L + 5, oD) :: (ld, W.listOf #[.int d0 ud0, .int d1 ud1, .int d2 ud2] 3) :: (L + 6, oR) :: (L + 7, oN) :: (L + 8, oK) :: (L + 9, oT) :: (L + 10, oF) :: (L + 11, oP) :: (L + 12, oS) :: (L + 13, oL) :: (L + 14, oH) :: [] : List (Addr × Obj))) := (nM (p := (L + 3, oC)) N (by k_mem) (nM (p := (lc, W.listOf #[.int c0 u0, .int c1 u1, .int c2 u2, .int c3 u3, .int c4 u4, .int c5 u5] 6)) N (by k_mem) (nM (p := (L + 5, oD)) N (by k_mem) (nM (p := (ld, W.listOf #[.int d0 ud0, .int d1 ud1, .int d2 ud2] 3)) N (by k_mem) (nM (p := (L + 6, oR)) N (by k_mem) (nM (p := (L + 7, oN)) N (by k_mem) (nM (p := (L + 8, oK)) N (by k_mem) (nM (p := (L + 9, oT)) N (by k_mem) (nM (p := (L + 10, oF)) N (by k_mem) (nM (p := (L + 11, oP)) N (by k_mem) (nM (p := (L + 12, oS)) N (by k_mem) (nM (p := (L + 13, oL)) N (by k_mem) (nM (p := (L + 14, oH)) N (by k_mem) all_nil)))))))))))))
  with_reducible refine' rests_use hoC B X T F N0 hd hu ?_
  rintro ls y0 y1 y2 h1 tk1 ⟨un0, rfl⟩ ⟨un1, rfl⟩ ⟨un2, rfl⟩ F1 N1 _
  clear N0 N F
  refine store_cell (c := L + 6) (rest := ((ls, W.listOf #[.int (c0.fdiv 4) un0, .int (c1.fdiv 4) un1, .int (c2.fdiv 4) un2] 3) :: (L + 3, oC) :: (lc, W.listOf #[.int c0 u0, .int c1 u1, .int c2 u2, .int c3 u3, .int c4 u4, .int c5 u5] 6) :: (L + 5, oD) :: (ld, W.listOf #[.int d0 ud0, .int d1 ud1, .int d2 ud2] 3) :: (L + 7, oN) :: (L + 8, oK) :: (L + 9, oT) :: (L + 10, oF) :: (L + 11, oP) :: (L + 12, oS) :: (L + 13, oL) :: (L + 14, oH) :: [] : List (Addr × Obj))) F1 N1 rfl (by k_mem) hoR (aC (P := fun p => p ∈ _ ∧ p.1 ≠ L + 6) ⟨by k_mem, (fO (p := (ls, W.listOf #[.int (c0.fdiv 4) un0, .int (c1.fdiv 4) un1, .int (c2.fdiv 4) un2] 3)) N1 (by k_mem) (c := L + 6) (by k_mem) hoR (fun v h => nomatch h))⟩ (aC (P := fun p => p ∈ _ ∧ p.1 ≠ L + 6) ⟨by k_mem, (nAd (by decide))⟩ (aC (P := fun p => p ∈ _ ∧ p.1 ≠ L + 6) ⟨by k_mem, (fO (p := (lc, W.listOf #[.int c0 u0, .int c1 u1, .int c2 u2, .int c3 u3, .int c4 u4, .int c5 u5] 6)) N1 (by k_mem) (c := L + 6) (by k_mem) hoR (fun v h => nomatch h))⟩ (aC (P := fun p => p ∈ _ ∧ p.1 ≠ L + 6) ⟨by k_mem, (nAd (by decide))⟩ (aC (P := fun p => p ∈ _ ∧ p.1 ≠ L + 6) ⟨by k_mem, (fO (p := (ld, W.listOf #[.int d0 ud0, .int d1 ud1, .int d2 ud2] 3)) N1 (by k_mem) (c := L + 6) (by k_mem) hoR (fun v h => nomatch h))⟩ (aC (P := fun p => p ∈ _ ∧ p.1 ≠ L + 6) ⟨by k_mem, (nAd (by decide))⟩ (aC (P := fun p => p ∈ _ ∧ p.1 ≠ L + 6) ⟨by k_mem, (nAd (by decide))⟩ (aC (P := fun p => p ∈ _ ∧ p.1 ≠ L + 6) ⟨by k_mem, (nAd (by decide))⟩ (aC (P := fun p => p ∈ _ ∧ p.1 ≠ L + 6) ⟨by k_mem, (nAd (by decide))⟩ (aC (P := fun p => p ∈ _ ∧ p.1 ≠ L + 6) ⟨by k_mem, (nAd (by decide))⟩ (aC (P := fun p => p ∈ _ ∧ p.1 ≠ L + 6) ⟨by k_mem, (nAd (by decide))⟩ (aC (P := fun p => p ∈ _ ∧ p.1 ≠ L + 6) ⟨by k_mem, (nAd (by decide))⟩ (aC (P := fun p => p ∈ _ ∧ p.1 ≠ L + 6) ⟨by k_mem, (nAd (by decide))⟩ all_nil))))))))))))) ?_ rfl rfl
  intro h2 oR1 hoR1 F2 N2
  clear N1 F1
  dsimp only
  refine wpAny_execs_cons ?_
  refine wpAny_Assign_Name ?_
  show wpAny (model PP w) (ktrTop dp un gd lawN lawSc L 204 (.ref 203) (lawCl L) []) (eval lawNames (envX lawN lawSc L 204 (.ref 203) (lawCl L))) _ _ _
  with_reducible refine' names_use (quarter q0.1 q0.2) (quarter q1.1 q1.2) (quarter q2.1 q2.2) hoR1 B X T F2 N2 hd hu ?_
  intro ln m0 m1 m2 ta0 tb0 ta1 tb1 ta2 tb2 h3 tk3 F3 N3 _
  clear N2 F2
  have N4 : News h₀ L h3 ((ln, W.listOf #[.ref m0, .ref m1, .ref m2] 3) :: (m2, { cls := .type "tuple", data := .seq #[.str (nRw (c2.fdiv 4)) ta2, .str (nFo (c2.fdiv 4)) tb2] }) :: (m1, { cls := .type "tuple", data := .seq #[.str (nRw (c1.fdiv 4)) ta1, .str (nFo (c1.fdiv 4)) tb1] }) :: (m0, { cls := .type "tuple", data := .seq #[.str (nRw (c0.fdiv 4)) ta0, .str (nFo (c0.fdiv 4)) tb0] }) :: (L + 6, oR1) :: (ls, W.listOf #[.int (c0.fdiv 4) un0, .int (c1.fdiv 4) un1, .int (c2.fdiv 4) un2] 3) :: (L + 3, oC) :: (lc, W.listOf #[.int c0 u0, .int c1 u1, .int c2 u2, .int c3 u3, .int c4 u4, .int c5 u5] 6) :: (L + 5, oD) :: (ld, W.listOf #[.int d0 ud0, .int d1 ud1, .int d2 ud2] 3) :: (L + 7, oN) :: (L + 8, oK) :: (L + 9, oT) :: (L + 10, oF) :: (L + 11, oP) :: (L + 12, oS) :: (L + 13, oL) :: (L + 14, oH) :: [] : List (Addr × Obj)) := N3
  clear N3
  refine store_cell (c := L + 7) (rest := ((ln, W.listOf #[.ref m0, .ref m1, .ref m2] 3) :: (m2, { cls := .type "tuple", data := .seq #[.str (nRw (c2.fdiv 4)) ta2, .str (nFo (c2.fdiv 4)) tb2] }) :: (m1, { cls := .type "tuple", data := .seq #[.str (nRw (c1.fdiv 4)) ta1, .str (nFo (c1.fdiv 4)) tb1] }) :: (m0, { cls := .type "tuple", data := .seq #[.str (nRw (c0.fdiv 4)) ta0, .str (nFo (c0.fdiv 4)) tb0] }) :: (L + 6, oR1) :: (ls, W.listOf #[.int (c0.fdiv 4) un0, .int (c1.fdiv 4) un1, .int (c2.fdiv 4) un2] 3) :: (L + 3, oC) :: (lc, W.listOf #[.int c0 u0, .int c1 u1, .int c2 u2, .int c3 u3, .int c4 u4, .int c5 u5] 6) :: (L + 5, oD) :: (ld, W.listOf #[.int d0 ud0, .int d1 ud1, .int d2 ud2] 3) :: (L + 8, oK) :: (L + 9, oT) :: (L + 10, oF) :: (L + 11, oP) :: (L + 12, oS) :: (L + 13, oL) :: (L + 14, oH) :: [] : List (Addr × Obj))) F3 N4 rfl (by k_mem) hoN (aC (P := fun p => p ∈ _ ∧ p.1 ≠ L + 7) ⟨by k_mem, (fO (p := (ln, W.listOf #[.ref m0, .ref m1, .ref m2] 3)) N4 (by k_mem) (c := L + 7) (by k_mem) hoN (fun v h => nomatch h))⟩ (aC (P := fun p => p ∈ _ ∧ p.1 ≠ L + 7) ⟨by k_mem, (fO (p := (m2, { cls := .type "tuple", data := .seq #[.str (nRw (c2.fdiv 4)) ta2, .str (nFo (c2.fdiv 4)) tb2] })) N4 (by k_mem) (c := L + 7) (by k_mem) hoN (fun v h => nomatch h))⟩ (aC (P := fun p => p ∈ _ ∧ p.1 ≠ L + 7) ⟨by k_mem, (fO (p := (m1, { cls := .type "tuple", data := .seq #[.str (nRw (c1.fdiv 4)) ta1, .str (nFo (c1.fdiv 4)) tb1] })) N4 (by k_mem) (c := L + 7) (by k_mem) hoN (fun v h => nomatch h))⟩ (aC (P := fun p => p ∈ _ ∧ p.1 ≠ L + 7) ⟨by k_mem, (fO (p := (m0, { cls := .type "tuple", data := .seq #[.str (nRw (c0.fdiv 4)) ta0, .str (nFo (c0.fdiv 4)) tb0] })) N4 (by k_mem) (c := L + 7) (by k_mem) hoN (fun v h => nomatch h))⟩ (aC (P := fun p => p ∈ _ ∧ p.1 ≠ L + 7) ⟨by k_mem, (nAd (by decide))⟩ (aC (P := fun p => p ∈ _ ∧ p.1 ≠ L + 7) ⟨by k_mem, (fO (p := (ls, W.listOf #[.int (c0.fdiv 4) un0, .int (c1.fdiv 4) un1, .int (c2.fdiv 4) un2] 3)) N4 (by k_mem) (c := L + 7) (by k_mem) hoN (fun v h => nomatch h))⟩ (aC (P := fun p => p ∈ _ ∧ p.1 ≠ L + 7) ⟨by k_mem, (nAd (by decide))⟩ (aC (P := fun p => p ∈ _ ∧ p.1 ≠ L + 7) ⟨by k_mem, (fO (p := (lc, W.listOf #[.int c0 u0, .int c1 u1, .int c2 u2, .int c3 u3, .int c4 u4, .int c5 u5] 6)) N4 (by k_mem) (c := L + 7) (by k_mem) hoN (fun v h => nomatch h))⟩ (aC (P := fun p => p ∈ _ ∧ p.1 ≠ L + 7) ⟨by k_mem, (nAd (by decide))⟩ (aC (P := fun p => p ∈ _ ∧ p.1 ≠ L + 7) ⟨by k_mem, (fO (p := (ld, W.listOf #[.int d0 ud0, .int d1 ud1, .int d2 ud2] 3)) N4 (by k_mem) (c := L + 7) (by k_mem) hoN (fun v h => nomatch h))⟩ (aC (P := fun p => p ∈ _ ∧ p.1 ≠ L + 7) ⟨by k_mem, (nAd (by decide))⟩ (aC (P := fun p => p ∈ _ ∧ p.1 ≠ L + 7) ⟨by k_mem, (nAd (by decide))⟩ (aC (P := fun p => p ∈ _ ∧ p.1 ≠ L + 7) ⟨by k_mem, (nAd (by decide))⟩ (aC (P := fun p => p ∈ _ ∧ p.1 ≠ L + 7) ⟨by k_mem, (nAd (by decide))⟩ (aC (P := fun p => p ∈ _ ∧ p.1 ≠ L + 7) ⟨by k_mem, (nAd (by decide))⟩ (aC (P := fun p => p ∈ _ ∧ p.1 ≠ L + 7) ⟨by k_mem, (nAd (by decide))⟩ (aC (P := fun p => p ∈ _ ∧ p.1 ≠ L + 7) ⟨by k_mem, (nAd (by decide))⟩ all_nil))))))))))))))))) ?_ rfl rfl
  intro h4 oN1 hoN1 F4 N5
  clear N4 F3
  dsimp only
  refine wpAny_execs_cons ?_
  show wpAny (model PP w) (ktrTop dp un gd lawN lawSc L 204 (.ref 203) (lawCl L) []) (exec (q26.1.2.1[6]?.getD (.Pass default)) (envX lawN lawSc L 204 (.ref 203) (lawCl L))) _ _ _
  have N6 : News h₀ L h4 ((L + 3, oC) :: (lc, W.listOf #[.int c0 u0, .int c1 u1, .int c2 u2, .int c3 u3, .int c4 u4, .int c5 u5] 6) :: ((L + 5, oD) :: (L + 6, oR1) :: (L + 7, oN1) :: (ls, W.listOf #[.int (c0.fdiv 4) un0, .int (c1.fdiv 4) un1, .int (c2.fdiv 4) un2] 3) :: (ln, W.listOf #[.ref m0, .ref m1, .ref m2] 3) :: (m0, { cls := .type "tuple", data := .seq #[.str (nRw (c0.fdiv 4)) ta0, .str (nFo (c0.fdiv 4)) tb0] }) :: (m1, { cls := .type "tuple", data := .seq #[.str (nRw (c1.fdiv 4)) ta1, .str (nFo (c1.fdiv 4)) tb1] }) :: (m2, { cls := .type "tuple", data := .seq #[.str (nRw (c2.fdiv 4)) ta2, .str (nFo (c2.fdiv 4)) tb2] }) :: (ld, W.listOf #[.int d0 ud0, .int d1 ud1, .int d2 ud2] 3) :: (L + 8, oK) :: (L + 9, oT) :: (L + 10, oF) :: (L + 11, oP) :: (L + 12, oS) :: (L + 13, oL) :: (L + 14, oH) :: [] : List (Addr × Obj))) := (nM (p := (L + 3, oC)) N5 (by k_mem) (nM (p := (lc, W.listOf #[.int c0 u0, .int c1 u1, .int c2 u2, .int c3 u3, .int c4 u4, .int c5 u5] 6)) N5 (by k_mem) (nM (p := (L + 5, oD)) N5 (by k_mem) (nM (p := (L + 6, oR1)) N5 (by k_mem) (nM (p := (L + 7, oN1)) N5 (by k_mem) (nM (p := (ls, W.listOf #[.int (c0.fdiv 4) un0, .int (c1.fdiv 4) un1, .int (c2.fdiv 4) un2] 3)) N5 (by k_mem) (nM (p := (ln, W.listOf #[.ref m0, .ref m1, .ref m2] 3)) N5 (by k_mem) (nM (p := (m0, { cls := .type "tuple", data := .seq #[.str (nRw (c0.fdiv 4)) ta0, .str (nFo (c0.fdiv 4)) tb0] })) N5 (by k_mem) (nM (p := (m1, { cls := .type "tuple", data := .seq #[.str (nRw (c1.fdiv 4)) ta1, .str (nFo (c1.fdiv 4)) tb1] })) N5 (by k_mem) (nM (p := (m2, { cls := .type "tuple", data := .seq #[.str (nRw (c2.fdiv 4)) ta2, .str (nFo (c2.fdiv 4)) tb2] })) N5 (by k_mem) (nM (p := (ld, W.listOf #[.int d0 ud0, .int d1 ud1, .int d2 ud2] 3)) N5 (by k_mem) (nM (p := (L + 8, oK)) N5 (by k_mem) (nM (p := (L + 9, oT)) N5 (by k_mem) (nM (p := (L + 10, oF)) N5 (by k_mem) (nM (p := (L + 11, oP)) N5 (by k_mem) (nM (p := (L + 12, oS)) N5 (by k_mem) (nM (p := (L + 13, oL)) N5 (by k_mem) (nM (p := (L + 14, oH)) N5 (by k_mem) all_nil))))))))))))))))))
  clear N5
  with_reducible refine' numbers_use hoC B X T F4 N6 hd hu ?_
  rintro lx y0 y1 y2 h5 tk5 ⟨ux0, rfl⟩ ⟨ux1, rfl⟩ ⟨ux2, rfl⟩ F5 N7 _
  clear N6 F4
  dsimp only
  have N8 : News h₀ L h5 ((lx, W.listOf #[.int (4 * (c3.fmod 101 - 50) + 0 + 1) ux0, .int (4 * (c4.fmod 101 - 50) + 1 + 1) ux1, .int (4 * (c5.fmod 101 - 50) + 2 + 1) ux2] 3) :: (lc, W.listOf #[.int c0 u0, .int c1 u1, .int c2 u2, .int c3 u3, .int c4 u4, .int c5 u5] 6) :: (L + 3, oC) :: (L + 5, oD) :: (L + 6, oR1) :: (L + 7, oN1) :: (ls, W.listOf #[.int (c0.fdiv 4) un0, .int (c1.fdiv 4) un1, .int (c2.fdiv 4) un2] 3) :: (ln, W.listOf #[.ref m0, .ref m1, .ref m2] 3) :: (m0, { cls := .type "tuple", data := .seq #[.str (nRw (c0.fdiv 4)) ta0, .str (nFo (c0.fdiv 4)) tb0] }) :: (m1, { cls := .type "tuple", data := .seq #[.str (nRw (c1.fdiv 4)) ta1, .str (nFo (c1.fdiv 4)) tb1] }) :: (m2, { cls := .type "tuple", data := .seq #[.str (nRw (c2.fdiv 4)) ta2, .str (nFo (c2.fdiv 4)) tb2] }) :: (ld, W.listOf #[.int d0 ud0, .int d1 ud1, .int d2 ud2] 3) :: (L + 8, oK) :: (L + 9, oT) :: (L + 10, oF) :: (L + 11, oP) :: (L + 12, oS) :: (L + 13, oL) :: (L + 14, oH) :: [] : List (Addr × Obj)) := (nM (p := (lx, W.listOf #[.int (4 * (c3.fmod 101 - 50) + 0 + 1) ux0, .int (4 * (c4.fmod 101 - 50) + 1 + 1) ux1, .int (4 * (c5.fmod 101 - 50) + 2 + 1) ux2] 3)) N7 (by k_mem) (nM (p := (lc, W.listOf #[.int c0 u0, .int c1 u1, .int c2 u2, .int c3 u3, .int c4 u4, .int c5 u5] 6)) N7 (by k_mem) (nM (p := (L + 3, oC)) N7 (by k_mem) (nM (p := (L + 5, oD)) N7 (by k_mem) (nM (p := (L + 6, oR1)) N7 (by k_mem) (nM (p := (L + 7, oN1)) N7 (by k_mem) (nM (p := (ls, W.listOf #[.int (c0.fdiv 4) un0, .int (c1.fdiv 4) un1, .int (c2.fdiv 4) un2] 3)) N7 (by k_mem) (nM (p := (ln, W.listOf #[.ref m0, .ref m1, .ref m2] 3)) N7 (by k_mem) (nM (p := (m0, { cls := .type "tuple", data := .seq #[.str (nRw (c0.fdiv 4)) ta0, .str (nFo (c0.fdiv 4)) tb0] })) N7 (by k_mem) (nM (p := (m1, { cls := .type "tuple", data := .seq #[.str (nRw (c1.fdiv 4)) ta1, .str (nFo (c1.fdiv 4)) tb1] })) N7 (by k_mem) (nM (p := (m2, { cls := .type "tuple", data := .seq #[.str (nRw (c2.fdiv 4)) ta2, .str (nFo (c2.fdiv 4)) tb2] })) N7 (by k_mem) (nM (p := (ld, W.listOf #[.int d0 ud0, .int d1 ud1, .int d2 ud2] 3)) N7 (by k_mem) (nM (p := (L + 8, oK)) N7 (by k_mem) (nM (p := (L + 9, oT)) N7 (by k_mem) (nM (p := (L + 10, oF)) N7 (by k_mem) (nM (p := (L + 11, oP)) N7 (by k_mem) (nM (p := (L + 12, oS)) N7 (by k_mem) (nM (p := (L + 13, oL)) N7 (by k_mem) (nM (p := (L + 14, oH)) N7 (by k_mem) all_nil)))))))))))))))))))
  exact hret oR1 oN1 ls ln m0 m1 m2 lx _ _ _ _ _ _ un0 un1 un2 ta0 tb0 ta1 tb1 ta2 tb2 ux0 ux1 ux2 h5 _ (quarter q0.1 q0.2).1 (quarter q1.1 q1.2).1 (quarter q2.1 q2.2).1 (number_bound _ 0 (by decide)) (number_bound _ 1 (by decide)) (number_bound _ 2 (by decide)) hoR1 hoN1 F5 N8
end
end MyLaw
end
end
section
open PySem PySem.Spec PySem.Calls PySem.W PySem.W.X PyProof.Rows
noncomputable section
namespace MyLaw
open LCg LCt
theorem raw_len (n : Int) : (nRw n).length ≤ 8 := by
  have e : (stayS n).length = 1 := rfl
  unfold nRw
  split
  · rw [Str.length_append, e]; exact (by decide : 1 + 1 ≤ 8)
  split
  · rw [Str.length_append, e]; exact (by decide : 1 + 1 ≤ 8)
  split
  · rw [Str.length_append, e]; exact (by decide : 1 + 1 ≤ 8)
  · rw [Str.length_append, e]; exact (by decide : 1 + 1 ≤ 8)
theorem bitsOf_eq : bitsOf 0 = [] ∧ bitsOf 1 = [0] ∧ bitsOf 2 = [1] ∧ bitsOf 3 = [0, 1] ∧ bitsOf 4 = [2] ∧ bitsOf 5 = [0, 2] ∧ bitsOf 6 = [1, 2] ∧ bitsOf 7 = [0, 1, 2] := by decide
section
variable {w : World} {mean : ExcName → Option Value} {mg mb : Str → Option Value} {news : List (Addr × Obj)} {dp un : Nat} {gd : Option (List Code)} {A₀ : Around} {base h₀ : Heap} {L : Addr} {mr : Str → Option Value} {s : Shared} {Q : Flow → Shared → Prop} {E : Value → Shared → Prop}
theorem pre3 {lc ld ls ln m0 m1 m2 lx : Addr} {oC oD oR oN oK oT oF oP oS oL oH : Obj} {vK vT vF vP vS vL vH : Option Value} {c0 c1 c2 c3 c4 c5 d0 d1 d2 n0 n1 n2 x0 x1 x2 : Int} {u0 u1 u2 u3 u4 u5 ud0 ud1 ud2 un0 un1 un2 ta0 tb0 ta1 tb1 ta2 tb2 ux0 ux1 ux2 : Tok}
    (hn0 : 0 ≤ n0) (hn1 : 0 ≤ n1) (hn2 : 0 ≤ n2) (hd0 : 1 ≤ d0 ∧ d0 ≤ 5) (hd1 : 1 ≤ d1 ∧ d1 ≤ 5) (hd2 : 1 ≤ d2 ∧ d2 ≤ 5) (hx0 : -1000 ≤ x0 ∧ x0 ≤ 1000) (hx1 : -1000 ≤ x1 ∧ x1 ≤ 1000) (hx2 : -1000 ≤ x2 ∧ x2 ≤ 1000)
    (hoC : oC.data = .cell (some (.ref lc))) (hoD : oD.data = .cell (some (.ref ld))) (hoR : oR.data = .cell (some (.ref ls))) (hoN : oN.data = .cell (some (.ref ln))) (hoK : oK.data = .cell vK) (hoT : oT.data = .cell vT) (hoF : oF.data = .cell vF) (hoP : oP.data = .cell vP) (hoS : oS.data = .cell vS) (hoL : oL.data = .cell vL) (hoH : oH.data = .cell vH)
    (C : NoneBooked h₀) (XB : (KK w.params).In base) (TB : Top VV (looseW VV LO) mean mg mb base)
    (B : Below A₀ base [] h₀) (X : (KK w.params).In h₀) (T : Top VV (looseW VV LO) mean mg mb h₀) (F : Fr h₀ L s.heap (fun z => if z = Str.ofString "numbers" then some (.ref lx) else mr z))
    (N : News h₀ L s.heap ((lx, W.listOf #[.int x0 ux0, .int x1 ux1, .int x2 ux2] 3) :: (lc, W.listOf #[.int c0 u0, .int c1 u1, .int c2 u2, .int c3 u3, .int c4 u4, .int c5 u5] 6) :: (L + 3, oC) :: (L + 5, oD) :: (L + 6, oR) :: (L + 7, oN) :: (ls, W.listOf #[.int n0 un0, .int n1 un1, .int n2 un2] 3) :: (ln, W.listOf #[.ref m0, .ref m1, .ref m2] 3) :: (m0, { cls := .type "tuple", data := .seq #[.str (nRw n0) ta0, .str (nFo n0) tb0] }) :: (m1, { cls := .type "tuple", data := .seq #[.str (nRw n1) ta1, .str (nFo n1) tb1] }) :: (m2, { cls := .type "tuple", data := .seq #[.str (nRw n2) ta2, .str (nFo n2) tb2] }) :: (ld, W.listOf #[.int d0 ud0, .int d1 ud1, .int d2 ud2] 3) :: (L + 8, oK) :: (L + 9, oT) :: (L + 10, oF) :: (L + 11, oP) :: (L + 12, oS) :: (L + 13, oL) :: (L + 14, oH) :: [] : List (Addr × Obj))) (hd : dp + 10 < recursionLimit) (hu : un + 120 < cLine)
    (hE : PassesOwn (model PP w) (ktrTop dp un gd lawN lawSc L 204 (.ref 203) (lawCl L) []) (envX lawN lawSc L 204 (.ref 203) (lawCl L)) E)
    (hret : ∀ m' h' tk', Fr h₀ L h' m' → Q (.ret (.bool true)) { s with heap := h', toks := tk' }) :
    wpAny (model PP w) (ktrTop dp un gd lawN lawSc L 204 (.ref 203) (lawCl L) []) (execs (q26.1.2.1.drop 7) (envX lawN lawSc L 204 (.ref 203) (lawCl L))) Q E s := by
  show wpAny _ _ (execs (_ :: _) _) _ _ _
  refine wpAny_execs_cons ?_
  show wpAny (model PP w) (ktrTop dp un gd lawN lawSc L 204 (.ref 203) (lawCl L) []) (exec (q26.1.2.1[7]?.getD (.Pass default)) (envX lawN lawSc L 204 (.ref 203) (lawCl L))) _ _ _
  have N0 : News h₀ L s.heap ((L + 3, oC) :: (lc, W.listOf #[.int c0 u0, .int c1 u1, .int c2 u2, .int c3 u3, .int c4 u4, .int c5 u5] 6) :: ((lx, W.listOf #[.int x0 ux0, .int x1 ux1, .int x2 ux2] 3) :: (L + 5, oD) :: (L + 6, oR) :: (L + 7, oN) :: (ls, W.listOf #[.int n0 un0, .int n1 un1, .int n2 un2] 3) :: (ln, W.listOf #[.ref m0, .ref m1, .ref m2] 3) :: (m0, { cls := .type "tuple", data := .seq #[.str (nRw n0) ta0, .str (nFo n0) tb0] }) :: (m1, { cls := .type "tuple", data := .seq #[.str (nRw n1) ta1, .str (nFo n1) tb1] }) :: (m2, { cls := .type "tuple", data := .seq #[.str (nRw n2) ta2, .str (nFo n2) tb2] }) :: (ld, W.listOf #[.int d0 ud0, .int d1 ud1, .int d2 ud2] 3) :: (L + 8, oK) :: (L + 9, oT) :: (L + 10, oF) :: (L + 11, oP) :: (L + 12, oS) :: (L + 13, oL) :: (L + 14, oH) :: [] : List (Addr × Obj))) := (nM (p := (L + 3, oC)) N (by k_mem) (nM (p := (lc, W.listOf #[.int c0 u0, .int c1 u1, .int c2 u2, .int c3 u3, .int c4 u4, .int c5 u5] 6)) N (by k_mem) (nM (p := (lx, W.listOf #[.int x0 ux0, .int x1 ux1, .int x2 ux2] 3)) N (by k_mem) (nM (p := (L + 5, oD)) N (by k_mem) (nM (p := (L + 6, oR)) N (by k_mem) (nM (p := (L + 7, oN)) N (by k_mem) (nM (p := (ls, W.listOf #[.int n0 un0, .int n1 un1, .int n2 un2] 3)) N (by k_mem) (nM (p := (ln, W.listOf #[.ref m0, .ref m1, .ref m2] 3)) N (by k_mem) (nM (p := (m0, { cls := .type "tuple", data := .seq #[.str (nRw n0) ta0, .str (nFo n0) tb0] })) N (by k_mem) (nM (p := (m1, { cls := .type "tuple", data := .seq #[.str (nRw n1) ta1, .str (nFo n1) tb1] })) N (by k_mem) (nM (p := (m2, { cls := .type "tuple", data := .seq #[.str (nRw n2) ta2, .str (nFo n2) tb2] })) N (by k_mem) (nM (p := (ld, W.listOf #[.int d0 ud0, .int d1 ud1, .int d2 ud2] 3)) N (by k_mem) (nM (p := (L + 8, oK)) N (by k_mem) (nM (p := (L + 9, oT)) N (by k_mem) (nM (p := (L + 10, oF)) N (by k_mem) (nM (p := (L + 11, oP)) N (by k_mem) (nM (p := (L + 12, oS)) N (by k_mem) (nM (p := (L + 13, oL)) N (by k_mem) (nM (p := (L + 14, oH)) N (by k_mem) all_nil)))))))))))))))))))
  with_reducible refine' total_use hoC B X T F N0 ?hd ?hu ?_
  case hd => exact room_le hd (by decide)
  case hu => exact room_le hu (by decide)
  intro tot tt h1 tk1 F1 N1
  clear N0 N F
  dsimp only
  refine wpAny_execs_cons ?_
  show wpAny (model PP w) (ktrTop dp un gd lawN lawSc L 204 (.ref 203) (lawCl L) []) (exec (q26.1.2.1[8]?.getD (.Pass default)) (envX lawN lawSc L 204 (.ref 203) (lawCl L))) _ _ _
  have N2 : News h₀ L h1 ((L + 8, oK) :: ((lx, W.listOf #[.int x0 ux0, .int x1 ux1, .int x2 ux2] 3) :: (lc, W.listOf #[.int c0 u0, .int c1 u1, .int c2 u2, .int c3 u3, .int c4 u4, .int c5 u5] 6) :: (L + 3, oC) :: (L + 5, oD) :: (L + 6, oR) :: (L + 7, oN) :: (ls, W.listOf #[.int n0 un0, .int n1 un1, .int n2 un2] 3) :: (ln, W.listOf #[.ref m0, .ref m1, .ref m2] 3) :: (m0, { cls := .type "tuple", data := .seq #[.str (nRw n0) ta0, .str (nFo n0) tb0] }) :: (m1, { cls := .type "tuple", data := .seq #[.str (nRw n1) ta1, .str (nFo n1) tb1] }) :: (m2, { cls := .type "tuple", data := .seq #[.str (nRw n2) ta2, .str (nFo n2) tb2] }) :: (ld, W.listOf #[.int d0 ud0, .int d1 ud1, .int d2 ud2] 3) :: (L + 9, oT) :: (L + 10, oF) :: (L + 11, oP) :: (L + 12, oS) :: (L + 13, oL) :: (L + 14, oH) :: [] : List (Addr × Obj))) := (nM (p := (L + 8, oK)) N1 (by k_mem) (nM (p := (lx, W.listOf #[.int x0 ux0, .int x1 ux1, .int x2 ux2] 3)) N1 (by k_mem) (nM (p := (lc, W.listOf #[.int c0 u0, .int c1 u1, .int c2 u2, .int c3 u3, .int c4 u4, .int c5 u5] 6)) N1 (by k_mem) (nM (p := (L + 3, oC)) N1 (by k_mem) (nM (p := (L + 5, oD)) N1 (by k_mem) (nM (p := (L + 6, oR)) N1 (by k_mem) (nM (p := (L + 7, oN)) N1 (by k_mem) (nM (p := (ls, W.listOf #[.int n0 un0, .int n1 un1, .int n2 un2] 3)) N1 (by k_mem) (nM (p := (ln, W.listOf #[.ref m0, .ref m1, .ref m2] 3)) N1 (by k_mem) (nM (p := (m0, { cls := .type "tuple", data := .seq #[.str (nRw n0) ta0, .str (nFo n0) tb0] })) N1 (by k_mem) (nM (p := (m1, { cls := .type "tuple", data := .seq #[.str (nRw n1) ta1, .str (nFo n1) tb1] })) N1 (by k_mem) (nM (p := (m2, { cls := .type "tuple", data := .seq #[.str (nRw n2) ta2, .str (nFo n2) tb2] })) N1 (by k_mem) (nM (p := (ld, W.listOf #[.int d0 ud0, .int d1 ud1, .int d2 ud2] 3)) N1 (by k_mem) (nM (p := (L + 9, oT)) N1 (by k_mem) (nM (p := (L + 10, oF)) N1 (by k_mem) (nM (p := (L + 11, oP)) N1 (by k_mem) (nM (p := (L + 12, oS)) N1 (by k_mem) (nM (p := (L + 13, oL)) N1 (by k_mem) (nM (p := (L + 14, oH)) N1 (by k_mem) all_nil)))))))))))))))))))
  clear N1
  with_reducible refine' counts_use hoK ?far B X T F1 N2 ?hd ?hu ?_
  case far => exact (aC (P := fun p => p.1 ≠ L + 8) (fO (p := (lx, W.listOf #[.int x0 ux0, .int x1 ux1, .int x2 ux2] 3)) N2 (by k_mem) (c := L + 8) (by k_mem) hoK (fun v h => nomatch h)) (aC (P := fun p => p.1 ≠ L + 8) (fO (p := (lc, W.listOf #[.int c0 u0, .int c1 u1, .int c2 u2, .int c3 u3, .int c4 u4, .int c5 u5] 6)) N2 (by k_mem) (c := L + 8) (by k_mem) hoK (fun v h => nomatch h)) (aC (P := fun p => p.1 ≠ L + 8) (nAd (by decide)) (aC (P := fun p => p.1 ≠ L + 8) (nAd (by decide)) (aC (P := fun p => p.1 ≠ L + 8) (nAd (by decide)) (aC (P := fun p => p.1 ≠ L + 8) (nAd (by decide)) (aC (P := fun p => p.1 ≠ L + 8) (fO (p := (ls, W.listOf #[.int n0 un0, .int n1 un1, .int n2 un2] 3)) N2 (by k_mem) (c := L + 8) (by k_mem) hoK (fun v h => nomatch h)) (aC (P := fun p => p.1 ≠ L + 8) (fO (p := (ln, W.listOf #[.ref m0, .ref m1, .ref m2] 3)) N2 (by k_mem) (c := L + 8) (by k_mem) hoK (fun v h => nomatch h)) (aC (P := fun p => p.1 ≠ L + 8) (fO (p := (m0, { cls := .type "tuple", data := .seq #[.str (nRw n0) ta0, .str (nFo n0) tb0] })) N2 (by k_mem) (c := L + 8) (by k_mem) hoK (fun v h => nomatch h)) (aC (P := fun p => p.1 ≠ L + 8) (fO (p := (m1, { cls := .type "tuple", data := .seq #[.str (nRw n1) ta1, .str (nFo n1) tb1] })) N2 (by k_mem) (c := L + 8) (by k_mem) hoK (fun v h => nomatch h)) (aC (P := fun p => p.1 ≠ L + 8) (fO (p := (m2, { cls := .type "tuple", data := .seq #[.str (nRw n2) ta2, .str (nFo n2) tb2] })) N2 (by k_mem) (c := L + 8) (by k_mem) hoK (fun v h => nomatch h)) (aC (P := fun p => p.1 ≠ L + 8) (fO (p := (ld, W.listOf #[.int d0 ud0, .int d1 ud1, .int d2 ud2] 3)) N2 (by k_mem) (c := L + 8) (by k_mem) hoK (fun v h => nomatch h)) (aC (P := fun p => p.1 ≠ L + 8) (nAd (by decide)) (aC (P := fun p => p.1 ≠ L + 8) (nAd (by decide)) (aC (P := fun p => p.1 ≠ L + 8) (nAd (by decide)) (aC (P := fun p => p.1 ≠ L + 8) (nAd (by decide)) (aC (P := fun p => p.1 ≠ L + 8) (nAd (by decide)) (aC (P := fun p => p.1 ≠ L + 8) (nAd (by decide)) all_nil))))))))))))))))))
  case hd => exact room_le hd (by decide)
  case hu => exact room_le hu (by decide)
  intro lk oK1 uk0 uk1 h2 tk2 hoK1 F2 N3
  clear N2 F1
  dsimp only
  refine wpAny_execs_cons ?_
  show wpAny (model PP w) (ktrTop dp un gd lawN lawSc L 204 (.ref 203) (lawCl L) []) (exec (q26.1.2.1[9]?.getD (.Pass default)) (envX lawN lawSc L 204 (.ref 203) (lawCl L))) _ _ _
  have N4 : News h₀ L h2 ((L + 9, oT) :: ((L + 8, oK1) :: (lk, W.listOf #[.int (1 + tot.fmod 3) uk0, .int (1 + (tot.fdiv 3).fmod 3) uk1] 0) :: (lx, W.listOf #[.int x0 ux0, .int x1 ux1, .int x2 ux2] 3) :: (lc, W.listOf #[.int c0 u0, .int c1 u1, .int c2 u2, .int c3 u3, .int c4 u4, .int c5 u5] 6) :: (L + 3, oC) :: (L + 5, oD) :: (L + 6, oR) :: (L + 7, oN) :: (ls, W.listOf #[.int n0 un0, .int n1 un1, .int n2 un2] 3) :: (ln, W.listOf #[.ref m0, .ref m1, .ref m2] 3) :: (m0, { cls := .type "tuple", data := .seq #[.str (nRw n0) ta0, .str (nFo n0) tb0] }) :: (m1, { cls := .type "tuple", data := .seq #[.str (nRw n1) ta1, .str (nFo n1) tb1] }) :: (m2, { cls := .type "tuple", data := .seq #[.str (nRw n2) ta2, .str (nFo n2) tb2] }) :: (ld, W.listOf #[.int d0 ud0, .int d1 ud1, .int d2 ud2] 3) :: (L + 10, oF) :: (L + 11, oP) :: (L + 12, oS) :: (L + 13, oL) :: (L + 14, oH) :: [] : List (Addr × Obj))) := (nM (p := (L + 9, oT)) N3 (by k_mem) (nM (p := (L + 8, oK1)) N3 (by k_mem) (nM (p := (lk, W.listOf #[.int (1 + tot.fmod 3) uk0, .int (1 + (tot.fdiv 3).fmod 3) uk1] 0)) N3 (by k_mem) (nM (p := (lx, W.listOf #[.int x0 ux0, .int x1 ux1, .int x2 ux2] 3)) N3 (by k_mem) (nM (p := (lc, W.listOf #[.int c0 u0, .int c1 u1, .int c2 u2, .int c3 u3, .int c4 u4, .int c5 u5] 6)) N3 (by k_mem) (nM (p := (L + 3, oC)) N3 (by k_mem) (nM (p := (L + 5, oD)) N3 (by k_mem) (nM (p := (L + 6, oR)) N3 (by k_mem) (nM (p := (L + 7, oN)) N3 (by k_mem) (nM (p := (ls, W.listOf #[.int n0 un0, .int n1 un1, .int n2 un2] 3)) N3 (by k_mem) (nM (p := (ln, W.listOf #[.ref m0, .ref m1, .ref m2] 3)) N3 (by k_mem) (nM (p := (m0, { cls := .type "tuple", data := .seq #[.str (nRw n0) ta0, .str (nFo n0) tb0] })) N3 (by k_mem) (nM (p := (m1, { cls := .type "tuple", data := .seq #[.str (nRw n1) ta1, .str (nFo n1) tb1] })) N3 (by k_mem) (nM (p := (m2, { cls := .type "tuple", data := .seq #[.str (nRw n2) ta2, .str (nFo n2) tb2] })) N3 (by k_mem) (nM (p := (ld, W.listOf #[.int d0 ud0, .int d1 ud1, .int d2 ud2] 3)) N3 (by k_mem) (nM (p := (L + 10, oF)) N3 (by k_mem) (nM (p := (L + 11, oP)) N3 (by k_mem) (nM (p := (L + 12, oS)) N3 (by k_mem) (nM (p := (L + 13, oL)) N3 (by k_mem) (nM (p := (L + 14, oH)) N3 (by k_mem) all_nil))))))))))))))))))))
  clear N3
  with_reducible refine' times_use hoT ?far B X T F2 N4 ?hd ?hu ?_
  case far => exact (aC (P := fun p => p.1 ≠ L + 9) (nAd (by decide)) (aC (P := fun p => p.1 ≠ L + 9) (fO (p := (lk, W.listOf #[.int (1 + tot.fmod 3) uk0, .int (1 + (tot.fdiv 3).fmod 3) uk1] 0)) N4 (by k_mem) (c := L + 9) (by k_mem) hoT (fun v h => nomatch h)) (aC (P := fun p => p.1 ≠ L + 9) (fO (p := (lx, W.listOf #[.int x0 ux0, .int x1 ux1, .int x2 ux2] 3)) N4 (by k_mem) (c := L + 9) (by k_mem) hoT (fun v h => nomatch h)) (aC (P := fun p => p.1 ≠ L + 9) (fO (p := (lc, W.listOf #[.int c0 u0, .int c1 u1, .int c2 u2, .int c3 u3, .int c4 u4, .int c5 u5] 6)) N4 (by k_mem) (c := L + 9) (by k_mem) hoT (fun v h => nomatch h)) (aC (P := fun p => p.1 ≠ L + 9) (nAd (by decide)) (aC (P := fun p => p.1 ≠ L + 9) (nAd (by decide)) (aC (P := fun p => p.1 ≠ L + 9) (nAd (by decide)) (aC (P := fun p => p.1 ≠ L + 9) (nAd (by decide)) (aC (P := fun p => p.1 ≠ L + 9) (fO (p := (ls, W.listOf #[.int n0 un0, .int n1 un1, .int n2 un2] 3)) N4 (by k_mem) (c := L + 9) (by k_mem) hoT (fun v h => nomatch h)) (aC (P := fun p => p.1 ≠ L + 9) (fO (p := (ln, W.listOf #[.ref m0, .ref m1, .ref m2] 3)) N4 (by k_mem) (c := L + 9) (by k_mem) hoT (fun v h => nomatch h)) (aC (P := fun p => p.1 ≠ L + 9) (fO (p := (m0, { cls := .type "tuple", data := .seq #[.str (nRw n0) ta0, .str (nFo n0) tb0] })) N4 (by k_mem) (c := L + 9) (by k_mem) hoT (fun v h => nomatch h)) (aC (P := fun p => p.1 ≠ L + 9) (fO (p := (m1, { cls := .type "tuple", data := .seq #[.str (nRw n1) ta1, .str (nFo n1) tb1] })) N4 (by k_mem) (c := L + 9) (by k_mem) hoT (fun v h => nomatch h)) (aC (P := fun p => p.1 ≠ L + 9) (fO (p := (m2, { cls := .type "tuple", data := .seq #[.str (nRw n2) ta2, .str (nFo n2) tb2] })) N4 (by k_mem) (c := L + 9) (by k_mem) hoT (fun v h => nomatch h)) (aC (P := fun p => p.1 ≠ L + 9) (fO (p := (ld, W.listOf #[.int d0 ud0, .int d1 ud1, .int d2 ud2] 3)) N4 (by k_mem) (c := L + 9) (by k_mem) hoT (fun v h => nomatch h)) (aC (P := fun p => p.1 ≠ L + 9) (nAd (by decide)) (aC (P := fun p => p.1 ≠ L + 9) (nAd (by decide)) (aC (P := fun p => p.1 ≠ L + 9) (nAd (by decide)) (aC (P := fun p => p.1 ≠ L + 9) (nAd (by decide)) (aC (P := fun p => p.1 ≠ L + 9) (nAd (by decide)) all_nil)))))))))))))))))))
  case hd => exact room_le hd (by decide)
  case hu => exact room_le hu (by decide)
  intro lt oT1 ut0 ut1 h3 tk3 hoT1 F3 N5
  clear N4 F2
  dsimp only
  refine wpAny_execs_cons ?_
  show wpAny (model PP w) (ktrTop dp un gd lawN lawSc L 204 (.ref 203) (lawCl L) []) (exec (q26.1.2.1[10]?.getD (.Pass default)) (envX lawN lawSc L 204 (.ref 203) (lawCl L))) _ _ _
  with_reducible refine' choices_use B X T F3 N5 ?hd ?hu ?_
  case hd => exact room_le hd (by decide)
  case hu => exact room_le hu (by decide)
  intro lc8 D0 D1 D2 D3 D4 D5 D6 D7 ys0 ys1 ys2 ys3 ys4 ys5 ys6 ys7 h4 tk4 i0 i1 i2 i3 i4 i5 i6 i7 F4 N6
  clear N5 F3
  dsimp only
  refine wpAny_execs_cons ?_
  show wpAny (model PP w) (ktrTop dp un gd lawN lawSc L 204 (.ref 203) (lawCl L) []) (exec (q26.1.2.1[11]?.getD (.Pass default)) (envX lawN lawSc L 204 (.ref 203) (lawCl L))) _ _ _
  with_reducible refine' told_use B X T F4 N6 ?hd ?hu ?_
  case hd => exact room_le hd (by decide)
  case hu => exact room_le hu (by decide)
  intro tW h5 tk5 F5 N7
  clear N6 F4
  dsimp only
  obtain ⟨z0, ez0, hz0⟩ := times_nat (tot.fdiv 9)
  obtain ⟨z1, ez1, hz1⟩ := times_nat (tot.fdiv 18)
  rw [ez0, ez1] at N7
  obtain ⟨chs, ech⟩ : ∃ chs : List CH, chs = [⟨D0, ys0, bitsOf 0, ys0.length⟩, ⟨D1, ys1, bitsOf 1, ys1.length⟩, ⟨D2, ys2, bitsOf 2, ys2.length⟩, ⟨D3, ys3, bitsOf 3, ys3.length⟩, ⟨D4, ys4, bitsOf 4, ys4.length⟩, ⟨D5, ys5, bitsOf 5, ys5.length⟩, ⟨D6, ys6, bitsOf 6, ys6.length⟩, ⟨D7, ys7, bitsOf 7, ys7.length⟩] := ⟨_, rfl⟩
  have N8 : News h₀ L h5 ((L + 5, oD) :: (L + 6, oR) :: (L + 7, oN) :: (L + 8, oK1) :: (L + 9, oT1) :: (L + 10, oF) :: (L + 11, oP) :: (L + 12, oS) :: (L + 13, oL) :: (L + 14, oH) :: (ls, W.listOf #[.int n0 un0, .int n1 un1, .int n2 un2] 3) :: (ln, W.listOf #[.ref m0, .ref m1, .ref m2] 3) :: (m0, { cls := .type "tuple", data := .seq #[.str (nRw n0) ta0, .str (nFo n0) tb0] }) :: (m1, { cls := .type "tuple", data := .seq #[.str (nRw n1) ta1, .str (nFo n1) tb1] }) :: (m2, { cls := .type "tuple", data := .seq #[.str (nRw n2) ta2, .str (nFo n2) tb2] }) :: (lt, W.listOf #[.int (z0 : Int) ut0, .int (z1 : Int) ut1] 0) :: (ld, W.listOf #[.int d0 ud0, .int d1 ud1, .int d2 ud2] 3) :: (lx, W.listOf #[.int x0 ux0, .int x1 ux1, .int x2 ux2] 3) :: (lk, W.listOf #[.int (1 + tot.fmod 3) uk0, .int (1 + (tot.fdiv 3).fmod 3) uk1] 0) :: (lc8, W.listOf (chs.map fun q => Value.ref q.a).toArray 8) :: ((D7, LCg.lst ys7) :: (D6, LCg.lst ys6) :: (D5, LCg.lst ys5) :: (D4, LCg.lst ys4) :: (D3, LCg.lst ys3) :: (D2, LCg.lst ys2) :: (D1, LCg.lst ys1) :: (D0, LCg.lst ys0) :: [] : List (Addr × Obj))) := by
    subst ech
    exact (nM (p := (L + 5, oD)) N7 (by k_mem) (nM (p := (L + 6, oR)) N7 (by k_mem) (nM (p := (L + 7, oN)) N7 (by k_mem) (nM (p := (L + 8, oK1)) N7 (by k_mem) (nM (p := (L + 9, oT1)) N7 (by k_mem) (nM (p := (L + 10, oF)) N7 (by k_mem) (nM (p := (L + 11, oP)) N7 (by k_mem) (nM (p := (L + 12, oS)) N7 (by k_mem) (nM (p := (L + 13, oL)) N7 (by k_mem) (nM (p := (L + 14, oH)) N7 (by k_mem) (nM (p := (ls, W.listOf #[.int n0 un0, .int n1 un1, .int n2 un2] 3)) N7 (by k_mem) (nM (p := (ln, W.listOf #[.ref m0, .ref m1, .ref m2] 3)) N7 (by k_mem) (nM (p := (m0, { cls := .type "tuple", data := .seq #[.str (nRw n0) ta0, .str (nFo n0) tb0] })) N7 (by k_mem) (nM (p := (m1, { cls := .type "tuple", data := .seq #[.str (nRw n1) ta1, .str (nFo n1) tb1] })) N7 (by k_mem) (nM (p := (m2, { cls := .type "tuple", data := .seq #[.str (nRw n2) ta2, .str (nFo n2) tb2] })) N7 (by k_mem) (nM (p := (lt, W.listOf #[.int (z0 : Int) ut0, .int (z1 : Int) ut1] 0)) N7 (by k_mem) (nM (p := (ld, W.listOf #[.int d0 ud0, .int d1 ud1, .int d2 ud2] 3)) N7 (by k_mem) (nM (p := (lx, W.listOf #[.int x0 ux0, .int x1 ux1, .int x2 ux2] 3)) N7 (by k_mem) (nM (p := (lk, W.listOf #[.int (1 + tot.fmod 3) uk0, .int (1 + (tot.fdiv 3).fmod 3) uk1] 0)) N7 (by k_mem) (nM (p := (lc8, LCg.lst [.ref D0, .ref D1, .ref D2, .ref D3, .ref D4, .ref D5, .ref D6, .ref D7])) N7 (by k_mem) (nM (p := (D7, LCg.lst ys7)) N7 (by k_mem) (nM (p := (D6, LCg.lst ys6)) N7 (by k_mem) (nM (p := (D5, LCg.lst ys5)) N7 (by k_mem) (nM (p := (D4, LCg.lst ys4)) N7 (by k_mem) (nM (p := (D3, LCg.lst ys3)) N7 (by k_mem) (nM (p := (D2, LCg.lst ys2)) N7 (by k_mem) (nM (p := (D1, LCg.lst ys1)) N7 (by k_mem) (nM (p := (D0, LCg.lst ys0)) N7 (by k_mem) all_nil))))))))))))))))))))))))))))
  clear N7
  have h8 : Chs8 chs := by
    obtain ⟨e0, e1, e2, e3, e4, e5, e6, e7⟩ := bitsOf_eq
    refine ⟨_, _, _, _, _, _, _, _, ech, ⟨e0, e1, e2, e3, e4, e5, e6, e7⟩, ?_, ?_, ?_, ?_, ?_, ?_, ?_, ?_⟩
    · have := i0.length; rw [e0] at this; exact this
    · have := i1.length; rw [e1] at this; exact this
    · have := i2.length; rw [e2] at this; exact this
    · have := i3.length; rw [e3] at this; exact this
    · have := i4.length; rw [e4] at this; exact this
    · have := i5.length; rw [e5] at this; exact this
    · have := i6.length; rw [e6] at this; exact this
    · have := i7.length; rw [e7] at this; exact this
  have hints : ∀ q ∈ chs, IntsAre q.vs q.bs := by
    subst ech
    intro q hq
    simp only [List.mem_cons, List.not_mem_nil, or_false] at hq
    rcases hq with rfl | rfl | rfl | rfl | rfl | rfl | rfl | rfl
    · exact i0
    · exact i1
    · exact i2
    · exact i3
    · exact i4
    · exact i5
    · exact i6
    · exact i7
  have hl8 : ∀ q ∈ chs, q.vs.length ≤ 8 := by
    obtain ⟨_, _, _, _, _, _, _, _, e, _, l0, l1, l2, l3, l4, l5, l6, l7⟩ := h8
    intro q hq
    rw [e] at hq
    simp only [List.mem_cons, List.not_mem_nil, or_false] at hq
    rcases hq with rfl | rfl | rfl | rfl | rfl | rfl | rfl | rfl <;> omega
  have hcm : ∀ q ∈ chs, (q.a, W.listOf q.vs.toArray q.k) ∈ ((D7, LCg.lst ys7) :: (D6, LCg.lst ys6) :: (D5, LCg.lst ys5) :: (D4, LCg.lst ys4) :: (D3, LCg.lst ys3) :: (D2, LCg.lst ys2) :: (D1, LCg.lst ys1) :: (D0, LCg.lst ys0) :: [] : List (Addr × Obj)) := by
    subst ech
    intro q hq
    simp only [List.mem_cons, List.not_mem_nil, or_false] at hq
    rcases hq with rfl | rfl | rfl | rfl | rfl | rfl | rfl | rfl <;> k_mem
  have hsz : chs.length ≤ 8 := by rw [ech]; exact Nat.le_refl 8
  have F6 := frC (frC (frC F5 (x := Str.ofString "choices") (v := .ref lc8) rfl) (x := Str.ofString "numbers") (v := .ref lx) rfl) (x := Str.ofString "told") (v := .int 0 tW) rfl
  clear F5
  refine wpAny_execs_cons ?_
  show wpAny (model PP w) (ktrTop dp un gd lawN lawSc L 204 (.ref 203) (lawCl L) []) (exec (q26.1.2.1[12]?.getD (.Pass default)) (envX lawN lawSc L 204 (.ref 203) (lawCl L))) _ _ _
  with_reducible refine' outer_loop (z0 := z0) (z1 := z1) hn0 hn1 hn2 hd0 hd1 hd2 hx0 hx1 hx2 hz0 hz1 (raw_len n0) (raw_len n1) (raw_len n2) (fold_len (name_facts n0).2) (fold_len (name_facts n1).2) (fold_len (name_facts n2).2) ?hok hoD hoR hoN hoK1 hoT1 hoF hoP hoS hoL hoH hcm hl8 hsz ?hfar C XB TB B X T F6 N8 hd hu ?_
  case hok => exact fun q hq => outer_ok hd0 hd1 hd2 hz0 hz1 (hints q (List.mem_filter.mp hq).1) hints
  case hfar => exact (aC (P := fun p => p.1 ≠ L + 10 ∧ p.1 ≠ L + 11 ∧ p.1 ≠ L + 12 ∧ p.1 ≠ L + 13 ∧ p.1 ≠ L + 14) ⟨fO (p := (ls, W.listOf #[.int n0 un0, .int n1 un1, .int n2 un2] 3)) N8 (by k_mem) (c := L + 10) (by k_mem) hoF (fun v h => nomatch h), fO (p := (ls, W.listOf #[.int n0 un0, .int n1 un1, .int n2 un2] 3)) N8 (by k_mem) (c := L + 11) (by k_mem) hoP (fun v h => nomatch h), fO (p := (ls, W.listOf #[.int n0 un0, .int n1 un1, .int n2 un2] 3)) N8 (by k_mem) (c := L + 12) (by k_mem) hoS (fun v h => nomatch h), fO (p := (ls, W.listOf #[.int n0 un0, .int n1 un1, .int n2 un2] 3)) N8 (by k_mem) (c := L + 13) (by k_mem) hoL (fun v h => nomatch h), fO (p := (ls, W.listOf #[.int n0 un0, .int n1 un1, .int n2 un2] 3)) N8 (by k_mem) (c := L + 14) (by k_mem) hoH (fun v h => nomatch h)⟩ (aC (P := fun p => p.1 ≠ L + 10 ∧ p.1 ≠ L + 11 ∧ p.1 ≠ L + 12 ∧ p.1 ≠ L + 13 ∧ p.1 ≠ L + 14) ⟨fO (p := (ln, W.listOf #[.ref m0, .ref m1, .ref m2] 3)) N8 (by k_mem) (c := L + 10) (by k_mem) hoF (fun v h => nomatch h), fO (p := (ln, W.listOf #[.ref m0, .ref m1, .ref m2] 3)) N8 (by k_mem) (c := L + 11) (by k_mem) hoP (fun v h => nomatch h), fO (p := (ln, W.listOf #[.ref m0, .ref m1, .ref m2] 3)) N8 (by k_mem) (c := L + 12) (by k_mem) hoS (fun v h => nomatch h), fO (p := (ln, W.listOf #[.ref m0, .ref m1, .ref m2] 3)) N8 (by k_mem) (c := L + 13) (by k_mem) hoL (fun v h => nomatch h), fO (p := (ln, W.listOf #[.ref m0, .ref m1, .ref m2] 3)) N8 (by k_mem) (c := L + 14) (by k_mem) hoH (fun v h => nomatch h)⟩ (aC (P := fun p => p.1 ≠ L + 10 ∧ p.1 ≠ L + 11 ∧ p.1 ≠ L + 12 ∧ p.1 ≠ L + 13 ∧ p.1 ≠ L + 14) ⟨fO (p := (m0, { cls := .type "tuple", data := .seq #[.str (nRw n0) ta0, .str (nFo n0) tb0] })) N8 (by k_mem) (c := L + 10) (by k_mem) hoF (fun v h => nomatch h), fO (p := (m0, { cls := .type "tuple", data := .seq #[.str (nRw n0) ta0, .str (nFo n0) tb0] })) N8 (by k_mem) (c := L + 11) (by k_mem) hoP (fun v h => nomatch h), fO (p := (m0, { cls := .type "tuple", data := .seq #[.str (nRw n0) ta0, .str (nFo n0) tb0] })) N8 (by k_mem) (c := L + 12) (by k_mem) hoS (fun v h => nomatch h), fO (p := (m0, { cls := .type "tuple", data := .seq #[.str (nRw n0) ta0, .str (nFo n0) tb0] })) N8 (by k_mem) (c := L + 13) (by k_mem) hoL (fun v h => nomatch h), fO (p := (m0, { cls := .type "tuple", data := .seq #[.str (nRw n0) ta0, .str (nFo n0) tb0] })) N8 (by k_mem) (c := L + 14) (by k_mem) hoH (fun v h => nomatch h)⟩ (aC (P := fun p => p.1 ≠ L + 10 ∧ p.1 ≠ L + 11 ∧ p.1 ≠ L + 12 ∧ p.1 ≠ L + 13 ∧ p.1 ≠ L + 14) ⟨fO (p := (m1, { cls := .type "tuple", data := .seq #[.str (nRw n1) ta1, .str (nFo n1) tb1] })) N8 (by k_mem) (c := L + 10) (by k_mem) hoF (fun v h => nomatch h), fO (p := (m1, { cls := .type "tuple", data := .seq #[.str (nRw n1) ta1, .str (nFo n1) tb1] })) N8 (by k_mem) (c := L + 11) (by k_mem) hoP (fun v h => nomatch h), fO (p := (m1, { cls := .type "tuple", data := .seq #[.str (nRw n1) ta1, .str (nFo n1) tb1] })) N8 (by k_mem) (c := L + 12) (by k_mem) hoS (fun v h => nomatch h), fO (p := (m1, { cls := .type "tuple", data := .seq #[.str (nRw n1) ta1, .str (nFo n1) tb1] })) N8 (by k_mem) (c := L + 13) (by k_mem) hoL (fun v h => nomatch h), fO (p := (m1, { cls := .type "tuple", data := .seq #[.str (nRw n1) ta1, .str (nFo n1) tb1] })) N8 (by k_mem) (c := L + 14) (by k_mem) hoH (fun v h => nomatch h)⟩ (aC (P := fun p => p.1 ≠ L + 10 ∧ p.1 ≠ L + 11 ∧ p.1 ≠ L + 12 ∧ p.1 ≠ L + 13 ∧ p.1 ≠ L + 14) ⟨fO (p := (m2, { cls := .type "tuple", data := .seq #[.str (nRw n2) ta2, .str (nFo n2) tb2] })) N8 (by k_mem) (c := L + 10) (by k_mem) hoF (fun v h => nomatch h), fO (p := (m2, { cls := .type "tuple", data := .seq #[.str (nRw n2) ta2, .str (nFo n2) tb2] })) N8 (by k_mem) (c := L + 11) (by k_mem) hoP (fun v h => nomatch h), fO (p := (m2, { cls := .type "tuple", data := .seq #[.str (nRw n2) ta2, .str (nFo n2) tb2] })) N8 (by k_mem) (c := L + 12) (by k_mem) hoS (fun v h => nomatch h), fO (p := (m2, { cls := .type "tuple", data := .seq #[.str (nRw n2) ta2, .str (nFo n2) tb2] })) N8 (by k_mem) (c := L + 13) (by k_mem) hoL (fun v h => nomatch h), fO (p := (m2, { cls := .type "tuple", data := .seq #[.str (nRw n2) ta2, .str (nFo n2) tb2] })) N8 (by k_mem) (c := L + 14) (by k_mem) hoH (fun v h => nomatch h)⟩ (aC (P := fun p => p.1 ≠ L + 10 ∧ p.1 ≠ L + 11 ∧ p.1 ≠ L + 12 ∧ p.1 ≠ L + 13 ∧ p.1 ≠ L + 14) ⟨fO (p := (lt, W.listOf #[.int (z0 : Int) ut0, .int (z1 : Int) ut1] 0)) N8 (by k_mem) (c := L + 10) (by k_mem) hoF (fun v h => nomatch h), fO (p := (lt, W.listOf #[.int (z0 : Int) ut0, .int (z1 : Int) ut1] 0)) N8 (by k_mem) (c := L + 11) (by k_mem) hoP (fun v h => nomatch h), fO (p := (lt, W.listOf #[.int (z0 : Int) ut0, .int (z1 : Int) ut1] 0)) N8 (by k_mem) (c := L + 12) (by k_mem) hoS (fun v h => nomatch h), fO (p := (lt, W.listOf #[.int (z0 : Int) ut0, .int (z1 : Int) ut1] 0)) N8 (by k_mem) (c := L + 13) (by k_mem) hoL (fun v h => nomatch h), fO (p := (lt, W.listOf #[.int (z0 : Int) ut0, .int (z1 : Int) ut1] 0)) N8 (by k_mem) (c := L + 14) (by k_mem) hoH (fun v h => nomatch h)⟩ (aC (P := fun p => p.1 ≠ L + 10 ∧ p.1 ≠ L + 11 ∧ p.1 ≠ L + 12 ∧ p.1 ≠ L + 13 ∧ p.1 ≠ L + 14) ⟨fO (p := (ld, W.listOf #[.int d0 ud0, .int d1 ud1, .int d2 ud2] 3)) N8 (by k_mem) (c := L + 10) (by k_mem) hoF (fun v h => nomatch h), fO (p := (ld, W.listOf #[.int d0 ud0, .int d1 ud1, .int d2 ud2] 3)) N8 (by k_mem) (c := L + 11) (by k_mem) hoP (fun v h => nomatch h), fO (p := (ld, W.listOf #[.int d0 ud0, .int d1 ud1, .int d2 ud2] 3)) N8 (by k_mem) (c := L + 12) (by k_mem) hoS (fun v h => nomatch h), fO (p := (ld, W.listOf #[.int d0 ud0, .int d1 ud1, .int d2 ud2] 3)) N8 (by k_mem) (c := L + 13) (by k_mem) hoL (fun v h => nomatch h), fO (p := (ld, W.listOf #[.int d0 ud0, .int d1 ud1, .int d2 ud2] 3)) N8 (by k_mem) (c := L + 14) (by k_mem) hoH (fun v h => nomatch h)⟩ (aC (P := fun p => p.1 ≠ L + 10 ∧ p.1 ≠ L + 11 ∧ p.1 ≠ L + 12 ∧ p.1 ≠ L + 13 ∧ p.1 ≠ L + 14) ⟨fO (p := (lx, W.listOf #[.int x0 ux0, .int x1 ux1, .int x2 ux2] 3)) N8 (by k_mem) (c := L + 10) (by k_mem) hoF (fun v h => nomatch h), fO (p := (lx, W.listOf #[.int x0 ux0, .int x1 ux1, .int x2 ux2] 3)) N8 (by k_mem) (c := L + 11) (by k_mem) hoP (fun v h => nomatch h), fO (p := (lx, W.listOf #[.int x0 ux0, .int x1 ux1, .int x2 ux2] 3)) N8 (by k_mem) (c := L + 12) (by k_mem) hoS (fun v h => nomatch h), fO (p := (lx, W.listOf #[.int x0 ux0, .int x1 ux1, .int x2 ux2] 3)) N8 (by k_mem) (c := L + 13) (by k_mem) hoL (fun v h => nomatch h), fO (p := (lx, W.listOf #[.int x0 ux0, .int x1 ux1, .int x2 ux2] 3)) N8 (by k_mem) (c := L + 14) (by k_mem) hoH (fun v h => nomatch h)⟩ (aC (P := fun p => p.1 ≠ L + 10 ∧ p.1 ≠ L + 11 ∧ p.1 ≠ L + 12 ∧ p.1 ≠ L + 13 ∧ p.1 ≠ L + 14) ⟨fO (p := (lk, W.listOf #[.int (1 + tot.fmod 3) uk0, .int (1 + (tot.fdiv 3).fmod 3) uk1] 0)) N8 (by k_mem) (c := L + 10) (by k_mem) hoF (fun v h => nomatch h), fO (p := (lk, W.listOf #[.int (1 + tot.fmod 3) uk0, .int (1 + (tot.fdiv 3).fmod 3) uk1] 0)) N8 (by k_mem) (c := L + 11) (by k_mem) hoP (fun v h => nomatch h), fO (p := (lk, W.listOf #[.int (1 + tot.fmod 3) uk0, .int (1 + (tot.fdiv 3).fmod 3) uk1] 0)) N8 (by k_mem) (c := L + 12) (by k_mem) hoS (fun v h => nomatch h), fO (p := (lk, W.listOf #[.int (1 + tot.fmod 3) uk0, .int (1 + (tot.fdiv 3).fmod 3) uk1] 0)) N8 (by k_mem) (c := L + 13) (by k_mem) hoL (fun v h => nomatch h), fO (p := (lk, W.listOf #[.int (1 + tot.fmod 3) uk0, .int (1 + (tot.fdiv 3).fmod 3) uk1] 0)) N8 (by k_mem) (c := L + 14) (by k_mem) hoH (fun v h => nomatch h)⟩ (aC (P := fun p => p.1 ≠ L + 10 ∧ p.1 ≠ L + 11 ∧ p.1 ≠ L + 12 ∧ p.1 ≠ L + 13 ∧ p.1 ≠ L + 14) ⟨fO (p := (lc8, W.listOf (chs.map fun q => Value.ref q.a).toArray 8)) N8 (by k_mem) (c := L + 10) (by k_mem) hoF (fun v h => nomatch h), fO (p := (lc8, W.listOf (chs.map fun q => Value.ref q.a).toArray 8)) N8 (by k_mem) (c := L + 11) (by k_mem) hoP (fun v h => nomatch h), fO (p := (lc8, W.listOf (chs.map fun q => Value.ref q.a).toArray 8)) N8 (by k_mem) (c := L + 12) (by k_mem) hoS (fun v h => nomatch h), fO (p := (lc8, W.listOf (chs.map fun q => Value.ref q.a).toArray 8)) N8 (by k_mem) (c := L + 13) (by k_mem) hoL (fun v h => nomatch h), fO (p := (lc8, W.listOf (chs.map fun q => Value.ref q.a).toArray 8)) N8 (by k_mem) (c := L + 14) (by k_mem) hoH (fun v h => nomatch h)⟩ (aC (P := fun p => p.1 ≠ L + 10 ∧ p.1 ≠ L + 11 ∧ p.1 ≠ L + 12 ∧ p.1 ≠ L + 13 ∧ p.1 ≠ L + 14) ⟨fO (p := (D7, LCg.lst ys7)) N8 (by k_mem) (c := L + 10) (by k_mem) hoF (fun v h => nomatch h), fO (p := (D7, LCg.lst ys7)) N8 (by k_mem) (c := L + 11) (by k_mem) hoP (fun v h => nomatch h), fO (p := (D7, LCg.lst ys7)) N8 (by k_mem) (c := L + 12) (by k_mem) hoS (fun v h => nomatch h), fO (p := (D7, LCg.lst ys7)) N8 (by k_mem) (c := L + 13) (by k_mem) hoL (fun v h => nomatch h), fO (p := (D7, LCg.lst ys7)) N8 (by k_mem) (c := L + 14) (by k_mem) hoH (fun v h => nomatch h)⟩ (aC (P := fun p => p.1 ≠ L + 10 ∧ p.1 ≠ L + 11 ∧ p.1 ≠ L + 12 ∧ p.1 ≠ L + 13 ∧ p.1 ≠ L + 14) ⟨fO (p := (D6, LCg.lst ys6)) N8 (by k_mem) (c := L + 10) (by k_mem) hoF (fun v h => nomatch h), fO (p := (D6, LCg.lst ys6)) N8 (by k_mem) (c := L + 11) (by k_mem) hoP (fun v h => nomatch h), fO (p := (D6, LCg.lst ys6)) N8 (by k_mem) (c := L + 12) (by k_mem) hoS (fun v h => nomatch h), fO (p := (D6, LCg.lst ys6)) N8 (by k_mem) (c := L + 13) (by k_mem) hoL (fun v h => nomatch h), fO (p := (D6, LCg.lst ys6)) N8 (by k_mem) (c := L + 14) (by k_mem) hoH (fun v h => nomatch h)⟩ (aC (P := fun p => p.1 ≠ L + 10 ∧ p.1 ≠ L + 11 ∧ p.1 ≠ L + 12 ∧ p.1 ≠ L + 13 ∧ p.1 ≠ L + 14) ⟨fO (p := (D5, LCg.lst ys5)) N8 (by k_mem) (c := L + 10) (by k_mem) hoF (fun v h => nomatch h), fO (p := (D5, LCg.lst ys5)) N8 (by k_mem) (c := L + 11) (by k_mem) hoP (fun v h => nomatch h), fO (p := (D5, LCg.lst ys5)) N8 (by k_mem) (c := L + 12) (by k_mem) hoS (fun v h => nomatch h), fO (p := (D5, LCg.lst ys5)) N8 (by k_mem) (c := L + 13) (by k_mem) hoL (fun v h => nomatch h), fO (p := (D5, LCg.lst ys5)) N8 (by k_mem) (c := L + 14) (by k_mem) hoH (fun v h => nomatch h)⟩ (aC (P := fun p => p.1 ≠ L + 10 ∧ p.1 ≠ L + 11 ∧ p.1 ≠ L + 12 ∧ p.1 ≠ L + 13 ∧ p.1 ≠ L + 14) ⟨fO (p := (D4, LCg.lst ys4)) N8 (by k_mem) (c := L + 10) (by k_mem) hoF (fun v h => nomatch h), fO (p := (D4, LCg.lst ys4)) N8 (by k_mem) (c := L + 11) (by k_mem) hoP (fun v h => nomatch h), fO (p := (D4, LCg.lst ys4)) N8 (by k_mem) (c := L + 12) (by k_mem) hoS (fun v h => nomatch h), fO (p := (D4, LCg.lst ys4)) N8 (by k_mem) (c := L + 13) (by k_mem) hoL (fun v h => nomatch h), fO (p := (D4, LCg.lst ys4)) N8 (by k_mem) (c := L + 14) (by k_mem) hoH (fun v h => nomatch h)⟩ (aC (P := fun p => p.1 ≠ L + 10 ∧ p.1 ≠ L + 11 ∧ p.1 ≠ L + 12 ∧ p.1 ≠ L + 13 ∧ p.1 ≠ L + 14) ⟨fO (p := (D3, LCg.lst ys3)) N8 (by k_mem) (c := L + 10) (by k_mem) hoF (fun v h => nomatch h), fO (p := (D3, LCg.lst ys3)) N8 (by k_mem) (c := L + 11) (by k_mem) hoP (fun v h => nomatch h), fO (p := (D3, LCg.lst ys3)) N8 (by k_mem) (c := L + 12) (by k_mem) hoS (fun v h => nomatch h), fO (p := (D3, LCg.lst ys3)) N8 (by k_mem) (c := L + 13) (by k_mem) hoL (fun v h => nomatch h), fO (p := (D3, LCg.lst ys3)) N8 (by k_mem) (c := L + 14) (by k_mem) hoH (fun v h => nomatch h)⟩ (aC (P := fun p => p.1 ≠ L + 10 ∧ p.1 ≠ L + 11 ∧ p.1 ≠ L + 12 ∧ p.1 ≠ L + 13 ∧ p.1 ≠ L + 14) ⟨fO (p := (D2, LCg.lst ys2)) N8 (by k_mem) (c := L + 10) (by k_mem) hoF (fun v h => nomatch h), fO (p := (D2, LCg.lst ys2)) N8 (by k_mem) (c := L + 11) (by k_mem) hoP (fun v h => nomatch h), fO (p := (D2, LCg.lst ys2)) N8 (by k_mem) (c := L + 12) (by k_mem) hoS (fun v h => nomatch h), fO (p := (D2, LCg.lst ys2)) N8 (by k_mem) (c := L + 13) (by k_mem) hoL (fun v h => nomatch h), fO (p := (D2, LCg.lst ys2)) N8 (by k_mem) (c := L + 14) (by k_mem) hoH (fun v h => nomatch h)⟩ (aC (P := fun p => p.1 ≠ L + 10 ∧ p.1 ≠ L + 11 ∧ p.1 ≠ L + 12 ∧ p.1 ≠ L + 13 ∧ p.1 ≠ L + 14) ⟨fO (p := (D1, LCg.lst ys1)) N8 (by k_mem) (c := L + 10) (by k_mem) hoF (fun v h => nomatch h), fO (p := (D1, LCg.lst ys1)) N8 (by k_mem) (c := L + 11) (by k_mem) hoP (fun v h => nomatch h), fO (p := (D1, LCg.lst ys1)) N8 (by k_mem) (c := L + 12) (by k_mem) hoS (fun v h => nomatch h), fO (p := (D1, LCg.lst ys1)) N8 (by k_mem) (c := L + 13) (by k_mem) hoL (fun v h => nomatch h), fO (p := (D1, LCg.lst ys1)) N8 (by k_mem) (c := L + 14) (by k_mem) hoH (fun v h => nomatch h)⟩ (aC (P := fun p => p.1 ≠ L + 10 ∧ p.1 ≠ L + 11 ∧ p.1 ≠ L + 12 ∧ p.1 ≠ L + 13 ∧ p.1 ≠ L + 14) ⟨fO (p := (D0, LCg.lst ys0)) N8 (by k_mem) (c := L + 10) (by k_mem) hoF (fun v h => nomatch h), fO (p := (D0, LCg.lst ys0)) N8 (by k_mem) (c := L + 11) (by k_mem) hoP (fun v h => nomatch h), fO (p := (D0, LCg.lst ys0)) N8 (by k_mem) (c := L + 12) (by k_mem) hoS (fun v h => nomatch h), fO (p := (D0, LCg.lst ys0)) N8 (by k_mem) (c := L + 13) (by k_mem) hoL (fun v h => nomatch h), fO (p := (D0, LCg.lst ys0)) N8 (by k_mem) (c := L + 14) (by k_mem) hoH (fun v h => nomatch h)⟩ all_nil))))))))))))))))))
  intro oF' oP' oS' oL' oH' vF' vP' vS' vL' vH' tWq mrq h6 tk6 _ _ _ _ _ F7 N9
  clear F6 N8
  dsimp only
  show wpAny (model PP w) (ktrTop dp un gd lawN lawSc L 204 (.ref 203) (lawCl L) []) (execs (q26.1.2.1.drop 13) (envX lawN lawSc L 204 (.ref 203) (lawCl L))) _ _ _
  have NA : News h₀ L h6 ((L + 5, oD) :: (L + 8, oK1) :: (L + 9, oT1) :: (ld, W.listOf #[.int d0 ud0, .int d1 ud1, .int d2 ud2] 3) :: (lx, W.listOf #[.int x0 ux0, .int x1 ux1, .int x2 ux2] 3) :: (lk, W.listOf #[.int (1 + tot.fmod 3) uk0, .int (1 + (tot.fdiv 3).fmod 3) uk1] 0) :: (lt, W.listOf #[.int (z0 : Int) ut0, .int (z1 : Int) ut1] 0) :: []) := (nM (p := (L + 5, oD)) N9 (by k_mem) (nM (p := (L + 8, oK1)) N9 (by k_mem) (nM (p := (L + 9, oT1)) N9 (by k_mem) (nM (p := (ld, W.listOf #[.int d0 ud0, .int d1 ud1, .int d2 ud2] 3)) N9 (by k_mem) (nM (p := (lx, W.listOf #[.int x0 ux0, .int x1 ux1, .int x2 ux2] 3)) N9 (by k_mem) (nM (p := (lk, W.listOf #[.int (1 + tot.fmod 3) uk0, .int (1 + (tot.fdiv 3).fmod 3) uk1] 0)) N9 (by k_mem) (nM (p := (lt, W.listOf #[.int (z0 : Int) ut0, .int (z1 : Int) ut1] 0)) N9 (by k_mem) all_nil)))))))
  clear N9
  with_reducible refine' suffix hd0 hd1 hd2 hx0 hx1 hx2 (count_bound tot) (count_bound (tot.fdiv 3)) ?z0 ?z1 ?hW hoD hoK1 hoT1 B X T F7 NA ?hd ?hu hE ?_
  case z0 => omega
  case z1 => omega
  case hW => exact det_all h8 (count_bound tot) (count_bound (tot.fdiv 3)) hd0.1 hd1.1 hd2.1 z0 z1
  case hd => exact room_le hd (by decide)
  case hu => exact room_le hu (by decide)
  intro m' h9 tk9 F9
  exact hret m' h9 tk9 F9
end
end MyLaw
end
end
section
open PySem PySem.Spec PySem.Calls PySem.W PySem.W.X PyProof.Rows
noncomputable section
namespace MyLaw
open LCg
section
variable {w : World} {mean : ExcName → Option Value} {mg mb : Str → Option Value} {news : List (Addr × Obj)} {dp un : Nat} {gd : Option (List Code)} {A₀ : Around} {base h₀ : Heap} {L : Addr} {mr : Str → Option Value} {s : Shared} {Q : Flow → Shared → Prop} {E : Value → Shared → Prop}
theorem law_body {la : Addr} {oA : Obj} {oB oC oE oD oR oN oK oT oF oP oS oL oH : Obj} {vB vC vE vD vR vN vK vT vF vP vS vL vH : Option Value} {vs : List Value} {ns : List Int} (hl : h₀.IsList la vs.toArray) (hi : IntsAre vs ns) (hlen : ns.length ≤ 63)
    (hoA : oA.data = .cell (some (.ref la))) (hoB : oB.data = .cell vB) (hoC : oC.data = .cell vC) (hoE : oE.data = .cell vE) (hoD : oD.data = .cell vD) (hoR : oR.data = .cell vR) (hoN : oN.data = .cell vN) (hoK : oK.data = .cell vK) (hoT : oT.data = .cell vT) (hoF : oF.data = .cell vF) (hoP : oP.data = .cell vP) (hoS : oS.data = .cell vS) (hoL : oL.data = .cell vL) (hoH : oH.data = .cell vH)
    (C : NoneBooked h₀) (XB : (KK w.params).In base) (TB : Top VV (looseW VV LO) mean mg mb base)
    (B : Below A₀ base [] h₀) (X : (KK w.params).In h₀) (T : Top VV (looseW VV LO) mean mg mb h₀) (F : Fr h₀ L s.heap mr)
    (N : News h₀ L s.heap ((L + 1, oA) :: (L + 2, oB) :: (L + 3, oC) :: (L + 4, oE) :: (L + 5, oD) :: (L + 6, oR) :: (L + 7, oN) :: (L + 8, oK) :: (L + 9, oT) :: (L + 10, oF) :: (L + 11, oP) :: (L + 12, oS) :: (L + 13, oL) :: (L + 14, oH) :: [] : List (Addr × Obj))) (hd : dp + 10 < recursionLimit) (hu : un + 120 < cLine)
    (hE : PassesOwn (model PP w) (ktrTop dp un gd lawN lawSc L 204 (.ref 203) (lawCl L) []) (envX lawN lawSc L 204 (.ref 203) (lawCl L)) E)
    (hret : ∀ m' h' tk', Fr h₀ L h' m' → Q (.ret (.bool true)) { s with heap := h', toks := tk' }) :
    wpAny (model PP w) (ktrTop dp un gd lawN lawSc L 204 (.ref 203) (lawCl L) []) (execs q26.1.2.1 (envX lawN lawSc L 204 (.ref 203) (lawCl L))) Q E s := by
  with_reducible refine' pre1 hl hi hlen hoA hoB hoC hoE hoD hoR hoN hoK hoT hoF hoP hoS hoL hoH B X T F N ?hd ?hu ?_
  case hd => exact room_le hd (by decide)
  case hu => exact room_le hu (by decide)
  intro oC1 oD1 lc ld c0 c1 c2 c3 c4 c5 d0 d1 d2 u0 u1 u2 u3 u4 u5 ud0 ud1 ud2 h1 tk1 q0 q1 q2 q3 q4 q5 w0 w1 w2 hoC1 hoD1 F1 N1
  with_reducible refine' pre2 ?q0 ?q1 ?q2 hoC1 hoD1 hoR hoN hoK hoT hoF hoP hoS hoL hoH B X T F1 N1 ?hd ?hu ?_
  case q0 => omega
  case q1 => omega
  case q2 => omega
  case hd => exact room_le hd (by decide)
  case hu => exact room_le hu (by decide)
  intro oR1 oN1 ls ln m0 m1 m2 lx n0 n1 n2 x0 x1 x2 un0 un1 un2 ta0 tb0 ta1 tb1 ta2 tb2 ux0 ux1 ux2 h2 tk2 hn0 hn1 hn2 hx0 hx1 hx2 hoR1 hoN1 F2 N2
  with_reducible refine' pre3 hn0 hn1 hn2 w0 w1 w2 hx0 hx1 hx2 hoC1 hoD1 hoR1 hoN1 hoK hoT hoF hoP hoS hoL hoH C XB TB B X T F2 N2 hd hu hE ?_
  intro m' h3 tk3 F3
  exact hret m' h3 tk3 F3
end
end MyLaw
end
end
section
open PySem PySem.Spec PySem.Calls PySem.W PySem.W.X PyProof.Rows
noncomputable section
namespace MyLaw
theorem cells_mem {cm : Str → Option Value} {l : List (Str × Addr)} {cells : List (Addr × Obj)} (x : PyProof.Rows.CellsAre cm l cells) : ∀ n c, (n, c) ∈ l → ∃ o, (c, o) ∈ cells ∧ o.data = .cell (cm n) := by
  induction x with
  | nil => intro n c h; cases h
  | cons h r ih =>
    intro n c hm
    rcases List.mem_cons.mp hm with e | hm
    · cases e
      exact ⟨_, .head _, h⟩
    · obtain ⟨o, h1, h2⟩ := ih n c hm
      exact ⟨o, .tail _ h1, h2⟩
theorem lawCl_eq (L : Addr) : cellsFrom (L + 1) lawSc.names [] = [(Str.ofString "higher", L + 14), (Str.ofString "last", L + 13), (Str.ofString "second", L + 12), (Str.ofString "powers", L + 11), (Str.ofString "first", L + 10), (Str.ofString "times", L + 9), (Str.ofString "counts", L + 8), (Str.ofString "names", L + 7), (Str.ofString "rests", L + 6), (Str.ofString "dots", L + 5), (Str.ofString "left", L + 4), (Str.ofString "cells", L + 3), (Str.ofString "base", L + 2), (Str.ofString "script", L + 1)] := by kernel_rfl
abbrev rRow : RowW := PySem.Challenge.rw_ti0026_01.row.toRowW
theorem law_walk (w : World) (s₀ s₁ : Shared) (mg mb : Str → Option Value) (G : Ground VV LO PySem.Challenge.rw_ti0026_01.row.records (fun _ _ => True) w s₀ mg mb s₁.heap) (Y : hYP w s₁.heap) (args : List WData) (vals : List Value) (as : List Addr)
    (hpre : PySem.Challenge.rw_ti0026_01.row.claim.pre args = true) (hlay : WData.layableAll args = true) (hrd : ReadsAllW PySem.Challenge.rw_ti0026_01.row.records (classAt s₀.heap) s₁.heap vals args as) (hwl : WellAll w.params s₁.heap vals args) (hlo : ∀ a ∈ as, (a == sysModules) = false) (hg : s₁.gens = #[]) :
    wpAny (model PySem.Challenge.rw_ti0026_01.row.prog w) callerA (PySem.call (.ref 204) vals) (fun v s' => GoodWG PySem.Challenge.rw_ti0026_01.row.claim (classAt s₀.heap) (ExcName.means s₀.heap) args s₁ (.ok (.ret v)) s')
        (fun e s' => GoodWG PySem.Challenge.rw_ti0026_01.row.claim (classAt s₀.heap) (ExcName.means s₀.heap) args s₁ (.error e) s') s₁ := by
  have KX := Y.1
  have CB : NoneBooked s₁.heap := Y.2
  refine Ground.open G ?_
  intro T B D TE TW
  have TA := at_of_top T
  wrow_args hpre hlay hrd hwl hlo
  all_goals (
    first | refine callC_kw (enter_call ?_) | refine enter_call ?_ | refine callC_kw (enter_callW ?_) | refine enter_callW ?_ | w_how
    w_top on
    try refine codeAny_mono ?_ (fun _ _ g => GoodW.toG g)
    have K0 := below_caller (Top.heap T))
  rename s₁.heap.IsList _ _ => hL
  rename IntsAre _ _ => hI
  rename ¬ _ => hC63
  rename_i la vs _ _ _ _ _ _
  refine call_cellsN (name := lawN) (params := q26.1.1) (body := q26.1.2.1) (scope := lawSc) (binds := [(Str.ofString "script", .ref la)]) (by decide) (KX 204 _ rfl) rfl T.nolimit (codeRec_of KX (by kernel_rfl)) rfl (kinds_of (by kinds_ok)) (by decide) fun h₁ tk₁ cells F N0 X0 => ?_
  rw [lawCl_eq] at X0
  have H1 := cells_mem X0 (Str.ofString "script") (s₁.heap.objs.size + 1) (by k_mem)
  have H2 := cells_mem X0 (Str.ofString "base") (s₁.heap.objs.size + 2) (by k_mem)
  have H3 := cells_mem X0 (Str.ofString "cells") (s₁.heap.objs.size + 3) (by k_mem)
  have H4 := cells_mem X0 (Str.ofString "left") (s₁.heap.objs.size + 4) (by k_mem)
  have H5 := cells_mem X0 (Str.ofString "dots") (s₁.heap.objs.size + 5) (by k_mem)
  have H6 := cells_mem X0 (Str.ofString "rests") (s₁.heap.objs.size + 6) (by k_mem)
  have H7 := cells_mem X0 (Str.ofString "names") (s₁.heap.objs.size + 7) (by k_mem)
  have H8 := cells_mem X0 (Str.ofString "counts") (s₁.heap.objs.size + 8) (by k_mem)
  have H9 := cells_mem X0 (Str.ofString "times") (s₁.heap.objs.size + 9) (by k_mem)
  have H10 := cells_mem X0 (Str.ofString "first") (s₁.heap.objs.size + 10) (by k_mem)
  have H11 := cells_mem X0 (Str.ofString "powers") (s₁.heap.objs.size + 11) (by k_mem)
  have H12 := cells_mem X0 (Str.ofString "second") (s₁.heap.objs.size + 12) (by k_mem)
  have H13 := cells_mem X0 (Str.ofString "last") (s₁.heap.objs.size + 13) (by k_mem)
  have H14 := cells_mem X0 (Str.ofString "higher") (s₁.heap.objs.size + 14) (by k_mem)
  show wpAny (model PP w) (ktrTop (1 + claimMargin + 1) 7 (some []) lawN lawSc s₁.heap.objs.size 204 (.ref 203) (lawCl s₁.heap.objs.size) []) (execs q26.1.2.1 (envX lawN lawSc s₁.heap.objs.size 204 (.ref 203) (lawCl s₁.heap.objs.size))) _ _ _
  with_reducible refine' law_body (vE := none) (oA := H1.choose) (oB := H2.choose) (oC := H3.choose) (oE := H4.choose) (oD := H5.choose) (oR := H6.choose) (oN := H7.choose) (oK := H8.choose) (oT := H9.choose) (oF := H10.choose) (oP := H11.choose) (oS := H12.choose) (oL := H13.choose) (oH := H14.choose) hL hI (by omega) ?d1 ?d2 ?d3 ?d4 ?d5 ?d6 ?d7 ?d8 ?d9 ?d10 ?d11 ?d12 ?d13 ?d14 CB KX T K0 KX T F ?N ?hd ?hu ?hE ?_
  case d1 => exact H1.choose_spec.2
  case d2 => exact H2.choose_spec.2
  case d3 => exact H3.choose_spec.2
  case d4 => exact H4.choose_spec.2
  case d5 => exact H5.choose_spec.2
  case d6 => exact H6.choose_spec.2
  case d7 => exact H7.choose_spec.2
  case d8 => exact H8.choose_spec.2
  case d9 => exact H9.choose_spec.2
  case d10 => exact H10.choose_spec.2
  case d11 => exact H11.choose_spec.2
  case d12 => exact H12.choose_spec.2
  case d13 => exact H13.choose_spec.2
  case d14 => exact H14.choose_spec.2
  case N => exact (nM (p := (s₁.heap.objs.size + 1, H1.choose)) N0 H1.choose_spec.1 (nM (p := (s₁.heap.objs.size + 2, H2.choose)) N0 H2.choose_spec.1 (nM (p := (s₁.heap.objs.size + 3, H3.choose)) N0 H3.choose_spec.1 (nM (p := (s₁.heap.objs.size + 4, H4.choose)) N0 H4.choose_spec.1 (nM (p := (s₁.heap.objs.size + 5, H5.choose)) N0 H5.choose_spec.1 (nM (p := (s₁.heap.objs.size + 6, H6.choose)) N0 H6.choose_spec.1 (nM (p := (s₁.heap.objs.size + 7, H7.choose)) N0 H7.choose_spec.1 (nM (p := (s₁.heap.objs.size + 8, H8.choose)) N0 H8.choose_spec.1 (nM (p := (s₁.heap.objs.size + 9, H9.choose)) N0 H9.choose_spec.1 (nM (p := (s₁.heap.objs.size + 10, H10.choose)) N0 H10.choose_spec.1 (nM (p := (s₁.heap.objs.size + 11, H11.choose)) N0 H11.choose_spec.1 (nM (p := (s₁.heap.objs.size + 12, H12.choose)) N0 H12.choose_spec.1 (nM (p := (s₁.heap.objs.size + 13, H13.choose)) N0 H13.choose_spec.1 (nM (p := (s₁.heap.objs.size + 14, H14.choose)) N0 H14.choose_spec.1 all_nil))))))))))))))
  case hd => decide
  case hu => decide
  case hE => passes_own
  intro m' h' tk' F'
  dsimp only
  k_steps
end MyLaw
end
end
section
open PySem PySem.Spec PySem.Calls PySem.W PySem.W.X PyProof.Rows
noncomputable section
namespace MyLaw
theorem law_at (w : World) : nsIn (KK w.params) mainGlobals (Str.ofString "law") = some (some (.ref 204)) := by kernel_rfl
theorem law_addr {w : World} {h : Heap} {mg : Str → Option Value} (X : (KK w.params).In h) (g : h.Ns mainGlobals mg) {n : Str} (hn : n = Str.ofString "law") {fa : Addr} (hmg : mg n = some (.ref fa)) : fa = 204 := by
  subst hn
  have e2 := hmg.symm.trans (mg_of X g (law_at w))
  injection e2 with e3
  injection e3
end MyLaw
end
end
section
open PySem PySem.Spec PySem.Calls PySem.W PySem.W.X PyProof.Rows
noncomputable section
namespace MyLaw
theorem law_walkO {d : DefRec} (hn : d.name = Str.ofString "law") (kwd : List (Str × PySem.Expr)) : WalkO VV LO (fun _ _ => True) hYP PySem.Challenge.rw_ti0026_01.row.toRowW d kwd fun f vs => PySem.call f vs := by
  intro w s₀ s₁ mg mb G Y fa o pm cd doc dV kV ho hd hcd hD hmg hg args vals as hpre hlay hrd hwl hlo
  have hfa := law_addr Y.1 G.T.g hn hmg
  subst hfa
  exact law_walk w s₀ s₁ mg mb G Y args vals as hpre hlay hrd hwl hlo hg
end MyLaw
end
end
section
open PySem PySem.Spec PySem.Calls PySem.W PySem.W.X PyProof.Rows
noncomputable section
namespace MyLaw
theorem fin_law : PySem.Challenge.rw_ti0026_01.Holds := by
  w_on
  refine holds_law law_said fun said => ?_
  refine holds_open (q := VV) (loose := LO) (Xt := fun _ => true) (XP := fun _ _ => True) (Yf := hY) (Ya := hYa) (YP := hYP) (N := 20000) left y_of y_keeps (fun _ _ => trivial) (fun _ _ _ _ _ => trivial) (by rfl) (by rfl) (by rfl) (fun s e => recFacts_of rfl) (by rfl) (by first | assumption | decide +kernel) (by decide +kernel) ⟨rfl, rfl, rfl, rfl, rfl, by decide +kernel⟩ ?hw ?hc
  case hw => w_witness2
  case hc => exact law_walkO rfl _
end MyLaw
end
end
theorem PySem.Challenge.cw_ti0026_01_holds : PySem.Challenge.rw_ti0026_01.Holds := by
  exact MyLaw.fin_law
