import PyProof.Rows.All
import Wide.All
import OpenK.AllK
import Wide.FinOn
import Wide.Meth
import Flt.Calls
import KE.KIntText
import PySem.Builtin.Sre.Common
import PySem.Challenge.RW_wv0056_01
set_option linter.all false
set_option Elab.async false
set_option maxRecDepth 100000
set_option maxHeartbeats 0
set_option bootstrap.genMatcherCode false
set_option tactic.hygienic false
set_option compiler.extract_closed false
set_option genInjectivity false
set_option genSizeOfSpec false
set_option genSizeOf false
set_option backward.match.sparseCases false
noncomputable section
namespace Mh
open PySem PySem.W PyProof.Rows
section
noncomputable section
abbrev RW:=Challenge.rw_wv0056_01
noncomputable abbrev PR:Program:=RW.row.toRowW.prog
noncomputable def bdy:List Stmt:=behindTheImports PR
noncomputable def vS (x:Str) (t:Nat):Value:= .str x t
noncomputable def nI (i:Int):Value:= .int i 0
noncomputable def cp (s:String):List Nat:=(Str.ofString s).cps.toList
noncomputable def cat (l:List (List Nat)):Str:=⟨l.flatten.toArray⟩
noncomputable def dE (P:Params) (k:Str) (t:Nat) (v:Value):DictEntry:=⟨PyData.keyHash P k,.str k t,v⟩
noncomputable def oD (l:List DictEntry) (n:Nat):Obj:=⟨.type "dict",none,.dict l.toArray n,#[]⟩
noncomputable def oT (l:List Value):Obj:=⟨.type "tuple",none,.seq l.toArray 0,#[]⟩
noncomputable def oL (l:List Value) (n:Nat):Obj:=⟨.type "list",none,.seq l.toArray n,#[]⟩
noncomputable def oN (l:List Value):Obj:=⟨.none,none,.fields l.toArray,#[]⟩
noncomputable def oI (c:String) (l:List Value):Obj:=⟨.type c,none,.fields l.toArray,#[]⟩
noncomputable def oU (f:FuncData) (b:Bool):Obj:=⟨match b with | true=> .type "function" | false=> .none,none,.func f,#[]⟩
noncomputable def fD (st:Option Stmt) (q:Str) (gl:Nat) (df kw md co:Value):FuncData:=match st with
 | some (.FunctionDef n as b _ _ _ sc _ _ _)=> ⟨n,q,as,.stmts b,sc,gl,[],df,kw,.none,md,none,co,.none,0⟩
 | _=> default
def oC (q n:Str) (t a ln na ko fl:Nat) (vs:List Value) (k:Nat):Obj:=oI "code" ([vS n t,vS q (t + 1),vS "/claim/cut.py" (t + 2),nI ln,nI na,nI 0,nI ko,nI fl,.ref a,.bool true,nI 276,.ref (a + 1),.none] ++ vs ++ [nI k,nI ln,vS "/claim/cut.py" (k + 1)])
noncomputable def nms (t:Nat):List Str→List Value
 | []=> []
 | s::l=> vS s t::nms (t + 1) l
def fnG (st:Option Stmt) (a t ln na:Nat) (n:Str) (l:List Str) (md:Value):List Obj:=
 [oT [],oN [],oT (nms (t + 3) l),oT [],oU (fD st n 0 .none .none .none .none) false,oC n n t a ln na 0 3 [.ref (a + 2),.ref (a + 3),.ref (a + 4)] (t + 3 + l.length),oU (fD st n 3 .none .none md (.ref (a + 5))) true]
noncomputable def z5y (t:Nat):List Nat→List Value
 | []=> []
 | i::l=> .int i t::z5y (t + 1) l
def reG (a t u:Nat) (x:Str) (c:List Nat) (f:Nat):List Obj:=
 [oL (z5y (t + 2) c) 0,oD [] 0,oT [.none],oT (c.map fun (i:Nat)=> nI i),oI "re.Pattern" [vS x t,.int f u,nI 0,.none,.none,.ref (a + 3),nI 0]]
noncomputable def qk (n:Nat):Nat:=if n < 10 then 48 + n else 55 + n
noncomputable def C1:List Nat:=[14,4,0,1,1,6,1,16,46,1]
noncomputable def C2:List Nat:=[14,9,4,1,2,16,10,16,13,0,7,7,16,13,16,10,15,18,5,16,10,15,13,11,16,13,5,5,0,16,10,1,15,2,0,1]
def z5n (P:Params):List DictEntry:=[dE P "__doc__" 166 .none,dE P "__package__" 167 .none,dE P "__loader__" 168 (.builtin "__main__.__loader__#opaque"),dE P "__spec__" 169 .none,dE P "__annotations__" 170 (.ref 6),dE P "__builtins__" 171 (.ref 4),dE P "__file__" 173 (vS "/claim/cut.py" 172),dE P "__cached__" 174 .none,dE P "_sre" 275 (.ref 12),dE P "_wall" 288 (.ref 38),dE P "_twin_re_1" 306 (.ref 43),dE P "_twin_re_2" 348 (.ref 48),dE P "CRLF_smtplib" 350 (vS (cat [[13,10]]) 349),dE P "quotedata" 357 (.ref 55),dE P "rgb_to_hsv" 377 (.ref 62),dE P "hsv_to_rgb" 391 (.ref 69),dE P "CRLF_quoprimime" 393 (vS (cat [[13,10]]) 392),dE P "NL" 395 (vS (cat [[10]]) 394),dE P "_QUOPRI_MAP" 1423 (.ref 72),dE P "_QUOPRI_HEADER_MAP" 1424 (.ref 77),dE P "_QUOPRI_BODY_MAP" 1425 (.ref 79),dE P "ascii_lowercase" 1427 (vS "abcdefghijklmnopqrstuvwxyz" 1426),dE P "ascii_uppercase" 1429 (vS "ABCDEFGHIJKLMNOPQRSTUVWXYZ" 1428),dE P "ascii_letters" 1431 (vS "abcdefghijklmnopqrstuvwxyzABCDEFGHIJKLMNOPQRSTUVWXYZ" 1430),dE P "digits" 1433 (vS "0123456789" 1432),dE P "hexdigits" 1438 (vS "0123456789abcdefABCDEF" 1437),dE P "unquote" 1944 (.ref 92),dE P "quote" 1951 (.ref 99),dE P "_QUOPRI_BODY_ENCODE_MAP" 1952 (.ref 101),dE P "body_encode" 1979 (.ref 112),dE P "decode" 1992 (.ref 120),dE P "tspecials" 2028 (.ref 125),dE P "_name_disallowed_re" 2054 (.ref 130),dE P "_value_disallowed_re" 2088 (.ref 135),dE P "_formatparam" 2098 (.ref 143),dE P "Headers" 2255 (.ref 264),dE P "_law_light" 2267 (.ref 275),dE P "_law_hue" 2277 (.ref 282),dE P "_law_mixed" 2283 (.ref 287),dE P "law" 2289 (.ref 292)]
def gl (P:Params) (x:Str) (t m:Nat) (ex:List DictEntry) (n:Nat):Obj:=oD (dE P "__name__" 165 (vS x t)::((z5n P).take m ++ ex)) n
def ob0 (P:Params):List Obj:=[oD [dE P "builtins" 162 (.ref 4),dE P "__main__" 163 (.ref 5),dE P "_sre" 244 (.ref 12)] 3,
 ⟨.none,none,.dict [dE P "\x69mport.loaded._sre" 183 (.bool true),dE P "class._frozen_importlib.BuiltinImporter" 185 (.ref 14),dE P "watched.\x69mport" 206 (.ref 18),dE P "class._frozen_importlib.ModuleSpec" 216 (.ref 22),dE P "sys.modules.booked-epoch" 245 (nI 3),dE P "\x69mport.later-laid._sre" 270 (.bool true),dE P "watched.library" 272 (.ref 27),dE P "watched.library-objects" 0 (vS (cat [[12]]) 0),dE P "watched.library-deep._sre" 273 (vS (cat [[4,0,0,11,4,0,0,11,4,0,0,3,4,0,0,11,8,4],cp "dict",[2]]) 0)].toArray 9,#[]⟩]
def ob1 (P:Params):List Obj:=[⟨.type "module",some 0,.plain,#[]⟩,
 ⟨.type "module",some 3,.plain,#[]⟩,
 oD [] 0,
 oT [],
 oN [],
 oI "code" [vS "<module>" 176,vS "<module>" 177,vS "/claim/cut.py" 178,nI 1,nI 0,nI 0,nI 0,nI 0,.ref 7,.bool false,nI 175,.ref 8,.none,.none,.none,.none,nI 179,nI 1,vS "/claim/cut.py" 180],
 ⟨.type "frame",none,.plain,#[some (.ref 9),some (.ref 3),some (.ref 3),none,some (vS "__main__" 164),none,some (.ref 0)]⟩,
 oD [dE P "__name__" 247 (vS "_sre" 246),dE P "__doc__" 248 .none,dE P "__package__" 250 (vS "" 249),dE P "__loader__" 251 (.builtin "off-the-table:_sre.__loader__:shared#opaque"),dE P "__spec__" 252 (.builtin "off-the-table:_sre.__spec__:shared#opaque"),dE P "compile" 253 (.builtin "_sre.compile"),dE P "template" 254 (.builtin "off-the-table:_sre.template:shared#opaque"),dE P "getcodesize" 255 (.builtin "off-the-table:_sre.getcodesize:shared#opaque"),dE P "ascii_iscased" 256 (.builtin "off-the-table:_sre.ascii_iscased:shared#opaque"),dE P "unicode_iscased" 257 (.builtin "off-the-table:_sre.unicode_iscased:shared#opaque"),dE P "ascii_tolower" 258 (.builtin "off-the-table:_sre.ascii_tolower:shared#opaque"),dE P "unicode_tolower" 259 (.builtin "off-the-table:_sre.unicode_tolower:shared#opaque"),dE P "MAGIC" 261 (.int 20230612 260),dE P "CODESIZE" 263 (.int 4 262),dE P "MAXREPEAT" 265 (.int 4294967295 264),dE P "MAXGROUPS" 267 (.int 1073741823 266),dE P "copyright" 269 (vS " SRE 2.2.2 Copyright (c) 1997-2002 by Secret Labs AB " 268)] 17,
 ⟨.type "module",some 11,.plain,#[]⟩,
 oD [dE P "__module__" 189 (vS "_frozen_importlib" 186),dE P "__firstlineno__" 190 (.int 971 187),dE P "__doc__" 191 (.builtin "_frozen_importlib.BuiltinImporter.__doc__:str#opaque"),dE P "_ORIGIN" 192 (vS "built-in" 188),dE P "find_spec" 193 (.builtin "_frozen_importlib.BuiltinImporter.find_spec#opaque"),dE P "create_module" 194 (.builtin "_frozen_importlib.BuiltinImporter.create_module#opaque"),dE P "exec_module" 195 (.builtin "_frozen_importlib.BuiltinImporter.exec_module#opaque"),dE P "get_code" 196 (.builtin "_frozen_importlib.BuiltinImporter.get_code#opaque"),dE P "get_source" 197 (.builtin "_frozen_importlib.BuiltinImporter.get_source#opaque"),dE P "is_package" 198 (.builtin "_frozen_importlib.BuiltinImporter.is_package#opaque"),dE P "load_module" 199 (.builtin "_frozen_importlib.BuiltinImporter.load_module#opaque"),dE P "__static_attributes__" 200 (.ref 15),dE P "__dict__" 202 (.ref 16),dE P "__weakref__" 204 (.ref 17)] 14,
 ⟨.type "type",none,.cls ⟨"BuiltinImporter",[.type "object"],[.ref 14,.type "object"],13,"BuiltinImporter",true,[],[],false,none,false⟩,#[]⟩,
 oT [],
 oI "getset_descriptor" [vS "__dict__" 201,.ref 14,.builtin "function.__dict__",.builtin "function.__dict__#set"],
 oI "getset_descriptor" [vS "__weakref__" 203,.ref 14,.builtin "ExceptionGroup.__weakref__",.none],
 ⟨.none,none,.seq [nI 13,vS (cat [[6,189,10],cp "__module__",[6,186,17],cp "_frozen_importlib",[6,190,15],cp "__firstlineno__",[4,187,0,971,6,191,7],cp "__doc__",[9],cp "4_frozen_importlib.BuiltinImporter.__doc__:str#opaque",[6,192,7],cp "_ORIGIN",[6,188,8],cp "built-in",[6,193,9],cp "find_spec",[9],cp "2_frozen_importlib.BuiltinImporter.find_spec#opaque",[6,194,13],cp "create_module",[9],cp "6_frozen_importlib.BuiltinImporter.create_module#opaque",[6,195,11],cp "exec_module",[9],cp "4_frozen_importlib.BuiltinImporter.exec_module#opaque",[6,196,8],cp "get_code",[9],cp "1_frozen_importlib.BuiltinImporter.get_code#opaque",[6,197,10],cp "get_source",[9],cp "3_frozen_importlib.BuiltinImporter.get_source#opaque",[6,198,10],cp "is_package",[9],cp "3_frozen_importlib.BuiltinImporter.is_package#opaque",[6,199,11],cp "load_module",[9],cp "4_frozen_importlib.BuiltinImporter.load_module#opaque",[6,200,21],cp "__static_attributes__",[4,0,0,15,6,202,8],cp "__dict__",[4,0,0,16,6,204,11],cp "__weakref__",[4,0,0,17]]) 0,.bool true,.bool true,vS "" 205,nI 21,vS (cat [[6,227,10],cp "__module__",[6,217,17],cp "_frozen_importlib",[6,228,15],cp "__firstlineno__",[4,218,0,562,6,229,7],cp "__doc__",[9],cp "/_frozen_importlib.ModuleSpec.__doc__:str#opaque",[6,230,8],cp "__init__",[9],cp ",_frozen_importlib.ModuleSpec.__init__#opaque",[6,231,8],cp "__repr__",[9],cp ",_frozen_importlib.ModuleSpec.__repr__#opaque",[6,232,6],cp "__eq__",[9],cp "*_frozen_importlib.ModuleSpec.__eq__#opaque",[6,233,6],cp "cached",[9],cp "*_frozen_importlib.ModuleSpec.cached#opaque",[6,234,6],cp "parent",[9],cp "*_frozen_importlib.ModuleSpec.parent#opaque",[6,235,12],cp "has_location",[9],cp "0_frozen_importlib.ModuleSpec.has_location#opaque",[6,236,21],cp "__static_attributes__",[4,0,0,23,6,238,8],cp "__dict__",[4,0,0,24,6,240,11],cp "__weakref__",[4,0,0,25,6,241,8],cp "__hash__",[0]]) 0,.bool true,.bool true,vS "" 242].toArray 1,#[]⟩,
 oL [] 0,
 oD [dE P "name" 208 (vS "_sre" 207),dE P "loader" 209 (.ref 14),dE P "origin" 210 (vS "built-in" 184),dE P "loader_state" 211 .none,dE P "submodule_search_locations" 212 .none,dE P "_uninitialized_submodules" 213 (.ref 19),dE P "_set_fileattr" 214 (.bool false),dE P "_cached" 215 .none,dE P "_initializing" 243 (.bool false)] 9,
 oD [dE P "__module__" 227 (vS "_frozen_importlib" 217),dE P "__firstlineno__" 228 (.int 562 218),dE P "__doc__" 229 (.builtin "_frozen_importlib.ModuleSpec.__doc__:str#opaque"),dE P "__init__" 230 (.builtin "_frozen_importlib.ModuleSpec.__init__#opaque"),dE P "__repr__" 231 (.builtin "_frozen_importlib.ModuleSpec.__repr__#opaque"),dE P "__eq__" 232 (.builtin "_frozen_importlib.ModuleSpec.__eq__#opaque"),dE P "cached" 233 (.builtin "_frozen_importlib.ModuleSpec.cached#opaque"),dE P "parent" 234 (.builtin "_frozen_importlib.ModuleSpec.parent#opaque"),dE P "has_location" 235 (.builtin "_frozen_importlib.ModuleSpec.has_location#opaque"),dE P "__static_attributes__" 236 (.ref 23),dE P "__dict__" 238 (.ref 24),dE P "__weakref__" 240 (.ref 25),dE P "__hash__" 241 .none] 13,
 ⟨.type "type",none,.cls ⟨"ModuleSpec",[.type "object"],[.ref 22,.type "object"],21,"ModuleSpec",true,[],[],false,none,false⟩,#[]⟩,
 oT [vS "_cached" 219,vS "_set_fileattr" 220,vS "_uninitialized_submodules" 221,vS "loader" 222,vS "loader_state" 223,vS "name" 224,vS "origin" 225,vS "submodule_search_locations" 226],
 oI "getset_descriptor" [vS "__dict__" 237,.ref 22,.builtin "function.__dict__",.builtin "function.__dict__#set"],
 oI "getset_descriptor" [vS "__weakref__" 239,.ref 22,.builtin "ExceptionGroup.__weakref__",.none],
 ⟨.ref 22,some 20,.plain,#[]⟩,
 ⟨.none,none,.seq [nI 11,vS (cat [[6,247,8],cp "__name__",[6,246,4],cp "_sre",[6,248,7],cp "__doc__",[0,6,250,11],cp "__package__",[6,249,0,6,251,10],cp "__loader__",[4,0,0,14,6,252,8],cp "__spec__",[4,0,0,26,6,253,7],cp "compile",[9,12],cp "_sre.compile",[6,254,8],cp "template",[9,13],cp "_sre.template",[6,255,11],cp "getcodesize",[9,16],cp "_sre.getcodesize",[6,256,13],cp "ascii_iscased",[9,18],cp "_sre.ascii_iscased",[6,257,15],cp "unicode_iscased",[9,20],cp "_sre.unicode_iscased",[6,258,13],cp "ascii_tolower",[9,18],cp "_sre.ascii_tolower",[6,259,15],cp "unicode_tolower",[9,20],cp "_sre.unicode_tolower",[6,261,5],cp "MAGIC",[4,260,0,20230612,6,263,8],cp "CODESIZE",[4,262,0,4,6,265,9],cp "MAXREPEAT",[4,264,0,4294967295,6,267,9],cp "MAXGROUPS",[4,266,0,1073741823,6,269,9],cp "copyright",[6,268],cp "5 SRE 2.2.2 Copyright (c) 1997-2002 by Secret Labs AB "]) 0,.bool true,.bool false,vS "_sre" 271].toArray 0,#[]⟩]
def ob2 (l:List Value):List Obj:=[oT [],
 oN l,oI "code" [vS "<module>" 277,vS "<module>" 278,vS "/claim/cut.py" 279,nI 1,nI 0,nI 0,nI 0,nI 0,.ref 28,.bool false,nI 276,.ref 29,.none,.none,.none,.none,nI 280,nI 1,vS "/claim/cut.py" 281],⟨.type "frame",none,.plain,#[some (.ref 30),some (.ref 3),some (.ref 3),none,some (vS "__main__" 164),none,some (.ref 0)]⟩]
def objs (P:Params) (g:Obj) (l:List Value) (r:List Obj):List Obj:=boot_o_0 P::(ob0 P ++ g::(ob1 P ++ (ob2 l ++ r)))
def ziw:List Value:=[nI 2,nI 0,.ref 37,nI 9,nI 0,.ref 54,nI 12,nI 0,.ref 61,nI 31,nI 0,.ref 68]
def obA:List Obj:=fnG bdy[0]? 32 282 2 1 "_wall" ["k"] (vS "__main__" 164) ++ (reG 39 292 305 "(?m)^\\." C1 40 ++ (reG 44 308 347 "(?:\\r\\n|\\n|\\r(?!\\n))" C2 32 ++ (fnG bdy[5]? 49 351 9 1 "quotedata" ["data"] (vS "cpy313.smtplib" 289) ++
 (fnG bdy[7]? 56 360 12 3 "rgb_to_hsv" ["r","g","b","maxc","minc","rangec","v","s","rc","gc","bc","h"] (vS "cpy313.colorsys" 358) ++ fnG bdy[8]? 63 378 31 3 "hsv_to_rgb" ["h","s","v","i","f","p","q","t"] (vS "cpy313.colorsys" 358)))))
def qs (n:Nat):List Value:=(List.range n).map fun i=> vS ⟨#[61,qk (i / 16),qk (i % 16)]⟩ (402 + 4 * i)
noncomputable def znz (t:Nat):List Nat→List Value→List Value
 | [],l=> l
 | c::r,l=> znz (t + 3) r (l.set c (.str ⟨#[c]⟩ t))
noncomputable def tr (l:List Obj) (n:Nat):Nat→Nat→Nat→BT
 | 0,_,_=> .nil
 | k + 1,a,b=> match Nat.blt b n with
  | true=> .node (l.getD b default) (tr l n k (2 * a) (a + b)) (tr l n k (2 * a) (2 * a + b))
  | false=> .nil
def mkS (l:List Obj) (n t:Nat) (os:OsState):SharedT:=⟨tr l n 9 1 0,n,{},#[],{},t,os⟩
def sS0 (P:Params) (os:OsState):Shared:=⟨⟨(objs P (gl P "__main__" 164 9 [] 10) [] []).toArray.extract 0 28,{}⟩,#[],{},276,os⟩
def sA (P:Params) (os:OsState):SharedT:=mkS (objs P (gl P "cpy313.colorsys" 358 18 [] 19) ziw obA) 70 396 os
def itR (i n:Nat):List Obj:=[oI "range" [.int 0 397,.int 256 396,.int 1 398],oI "range_iterator" [nI i,nI n,nI 1]]
def zka (a:Nat):List Obj:=[oT [],oI "StopIteration" [.ref a,.none,.none,.none,.bool false,.none]]
def sB (P:Params) (j:Nat) (os:OsState):SharedT:=mkS (objs P (gl P "cpy313.colorsys" 358 18 [] 19) ziw (obA ++ (itR (j + 1) (255 - j) ++ [oL (qs (j + 1)) (j + 1),oD [dE P "c" 400 (.int j (399 + 4 * j))] 1]))) 74 (403 + 4 * j) os
def obB (b:List Obj):List Obj:=obA ++ (itR 256 0 ++ ([oL (qs 256) 256,oD [] 2] ++ (zka 74 ++ b)))
def sB' (P:Params) (os:OsState):SharedT:=mkS (objs P (gl P "cpy313.colorsys" 358 19 [] 20) ziw (obB [])) 76 1424 os
def slc:Obj:=oI "slice" [.none,.none,.none]
def zz4 (l77 l79:List Value) (b:List Obj):List Obj:=obB ([slc,oL l77 0,slc,oL l79 0] ++ b)
def s19 (P:Params) (os:OsState):SharedT:=mkS (objs P (gl P "cpy313.email.quoprimime" 1439 26 [] 27) ziw (zz4 (qs 256) (qs 256) [])) 80 1441 os
def b67:List Nat:=cp "-!*+/abcdefghijklmnopqrstuvwxyzABCDEFGHIJKLMNOPQRSTUVWXYZ0123456789"
def b95:List Nat:=[32,33,34,35,36,37,38,39] ++ (cp "()*+,-./0123456789:;<>?@ABCDEFGHIJKLMNOPQRSTUVWXYZ[\\]^_`abcdefghijklmnopqrstuvwxyz{|}~" ++ [9])
noncomputable def by_ (l:List Nat) (t:Nat):Value:= .bytes (l.map UInt8.ofNat).toArray t
def cE (P:Params) (c:List Nat) (j t:Nat):List DictEntry:=[dE P "c" 1449 (.int (c.getD j 0) (t + 3 * j))]
def sD (P:Params) (j:Nat) (os:OsState):SharedT:=mkS (objs P (gl P "cpy313.email.quoprimime" 1439 26 (cE P b67 j 1448) 28) ziw (zz4 (znz 1450 (b67.take (j + 1)) (qs 256)) (qs 256) [oI "bytes_iterator" [by_ b67 1447,nI (j + 1)]])) 81 (1451 + 3 * j) os
def sD' (P:Params) (os:OsState):SharedT:=mkS (objs P (gl P "cpy313.email.quoprimime" 1439 26 (cE P b67 66 1448) 28) ziw (zz4 (znz 1450 b67 (qs 256)) (qs 256) (oI "bytes_iterator" [.none,nI 67]::zka 81))) 83 1649 os
def h77:List Value:=(znz 1450 b67 (qs 256)).set 32 (vS "_" 1649)
def zz5 (l79:List Value) (b:List Obj):List Obj:=zz4 h77 l79 (oI "bytes_iterator" [.none,nI 67]::(zka 81 ++ b))
def s21 (P:Params) (os:OsState):SharedT:=mkS (objs P (gl P "cpy313.email.quoprimime" 1439 26 (cE P b67 66 1448) 28) ziw (zz5 (qs 256) [])) 83 1652 os
def sF (P:Params) (j:Nat) (os:OsState):SharedT:=mkS (objs P (gl P "cpy313.email.quoprimime" 1439 26 (cE P b95 j 1653) 28) ziw (zz5 (znz 1655 (b95.take (j + 1)) (qs 256)) [oI "bytes_iterator" [by_ b95 1652,nI (j + 1)]])) 84 (1656 + 3 * j) os
def sF' (P:Params) (os:OsState):SharedT:=mkS (objs P (gl P "cpy313.email.quoprimime" 1439 26 (cE P b95 94 1653) 28) ziw (zz5 (znz 1655 b95 (qs 256)) (oI "bytes_iterator" [.none,nI 95]::zka 84))) 86 1938 os
end
end
section
noncomputable section
noncomputable def zv4:Env:={scope:=PR.main.scope,locals:=mainNs,globals:=mainNs,cells:=[],code:= .ref 30,frame:=some 31}
noncomputable abbrev cT:Code:= .body bdy zv4
noncomputable abbrev p0:Pos:=⟨0,0,0,0⟩
def pT (i k:Nat) (pos:Pos):Thread:=⟨(Fast.tw12563942051412417395 ((bdy.drop i).take k) zv4).wrap doneF deadEnd id id,cT,pos,[topFrame p0]⟩
noncomputable abbrev rT (w:World) (n:Nat) (s:SharedT) (t:Thread):=Fast.tw10110043849684766642 Fast.tw14364793385576792824 PR w 28 (some (.ref 6)) 1 n s t
noncomputable abbrev gT (w:World) (n:Nat) (s:SharedT) (t:Thread):=Fast.tw10295753902157049106 Fast.tw14364793385576792824 PR w 28 (some (.ref 6)) 1 n s t
def s0 (P:Params) (os:OsState):SharedT:=mkS (objs P (gl P "__main__" 164 9 [] 10) [] []) 28 276 os
def sP (P:Params) (os:OsState):SharedT:=mkS (objs P (gl P "__main__" 164 9 [] 10) [] []) 32 282 os
noncomputable abbrev W1 (w:World) (a:Bool):World:=w.withFollow "special-get-raises" a
noncomputable abbrev W2 (w:World) (a b:Bool):World:=(W1 w a).withFollow "comprehension-iter-twice" b
def th (x:Option (SharedT×Thread)):Thread:=match x with | some (_,t)=> t | none=> pT 0 0 p0
def mth (i:Nat):Option Stmt:=match (bdy[35]? :Option Stmt) with | some (.ClassDef _ _ _ b _ _ _ _ _ _ _)=> b[i]? | _=> none
def kF (c:Bool) (a:Nat) (st:Option Stmt) (n q:Str) (df md:Value) (t ln na ko fl k:Nat):Frag:=
 [(a - 1,match c with | true=> oC q n t (a - 4) ln na ko fl [.none,.none,.ref (a - 2)] k | false=> oC q n t (a - 6) ln na ko fl [.ref (a - 4),.ref (a - 3),.ref (a - 2)] k),(a,oU (fD st q 3 df .none md (.ref (a - 1))) true)]
def kR (a t u:Nat) (x:Str) (c:List Nat) (f:Nat):Frag:=[(a - 1,oT (c.map fun (i:Nat)=> nI i)),(a,oI "re.Pattern" [vS x t,.int f u,nI 0,.none,.none,.ref (a - 1),nI 0])]
def kf1:Frag:=kF false 55 (bdy[5]?) "quotedata" "quotedata" .none (vS "cpy313.smtplib" 289) 351 9 1 0 3 355 ++ (kF false 62 (bdy[7]?) "rgb_to_hsv" "rgb_to_hsv" .none (vS "cpy313.colorsys" 358) 360 12 3 0 3 375 ++ (kF false 69 (bdy[8]?) "hsv_to_rgb" "hsv_to_rgb" .none (vS "cpy313.colorsys" 358) 378 31 3 0 3 389 ++ (kF false 92 (bdy[23]?) "unquote" "unquote" .none (vS "cpy313.email.quoprimime" 1439) 1938 68 1 0 3 1942 ++ (kF false 99 (bdy[24]?) "quote" "quote" .none (vS "cpy313.email.quoprimime" 1439) 1945 70 1 0 3 1949 ++ (kF false 112 (bdy[28]?) "body_encode" "body_encode" (.ref 105) (vS "cpy313.email.quoprimime" 1439) 1961 76 3 0 3 1977 ++ (kF false 120 (bdy[29]?) "decode" "decode" (.ref 113) (vS "cpy313.email.quoprimime" 1439) 1980 114 2 0 3 1990 ++ (kF false 158 (mth 0) "__init__" "Headers.__init__" (.ref 151) (vS "cpy313.wsgiref.headers" 1993) 2111 159 2 0 3 2118 ++ (kF false 165 (mth 1) "_convert_string_type" "Headers._convert_string_type" .none (vS "cpy313.wsgiref.headers" 1993) 2121 169 2 1 3 2128 ++ (kF true 203 (mth 7) "get_all" "Headers.get_all" .none (vS "cpy313.wsgiref.headers" 1993) 2169 194 2 0 3 2172 ++ (kF false 211 (mth 8) "get" "Headers.get" (.ref 204) (vS "cpy313.wsgiref.headers" 1993) 2175 198 3 0 3 2183 ++ (kF true 221 (mth 10) "values" "Headers.values" .none (vS "cpy313.wsgiref.headers" 1993) 2192 208 1 0 3 2195 ++ (kF false 228 (mth 11) "items" "Headers.items" .none (vS "cpy313.wsgiref.headers" 1993) 2198 211 1 0 3 2202 ++ (kF false 261 (mth 16) "add_header" "Headers.add_header" .none (vS "cpy313.wsgiref.headers" 1993) 2234 226 3 0 11 2244 ++ (kF false 275 (bdy[37]?) "_law_light" "_law_light" .none (vS "law_wv0056_01" 2256) 2258 240 1 0 3 2265 ++ (kF false 282 (bdy[38]?) "_law_hue" "_law_hue" .none (vS "law_wv0056_01" 2256) 2268 244 1 0 3 2275 ++ (kF true 287 (bdy[39]?) "_law_mixed" "_law_mixed" .none (vS "law_wv0056_01" 2256) 2278 247 1 0 3 2281 ++ (kF true 292 (bdy[40]?) "law" "law" .none (vS "law_wv0056_01" 2256) 2284 250 1 0 3 2287 ++ [])))))))))))))))))
def kf2:Frag:=kR 43 292 305 "(?m)^\\." C1 40 ++ (kR 48 308 347 "(?:\\r\\n|\\n|\\r(?!\\n))" C2 32 ++ (kR 130 2030 2053 "[\\x00-\\x1F\\x7F]" [14,10,4,1,1,22,0,31,16,127,0,13,7,22,0,31,16,127,0,1] 32 ++ kR 135 2056 2087 "[\\x00-\\x08\\x0A-\\x1F\\x7F]" [14,14,4,1,1,9,4294966783,0,0,2147483648,0,0,0,0,0,13,11,9,4294966783,0,0,2147483648,0,0,0,0,0,1] 32))
def z53:List Value:=((znz 1655 b95 (qs 256)).set 13 (.str ⟨#[13]⟩ 1956)).set 10 (.str ⟨#[10]⟩ 1959)
def kf3:Frag:=[(72,oL (qs 256) 256),(101,oL z53 0),(105,oT [.int 76 1960,vS "\n" 394]),(113,oT [vS "\n" 394]),(151,oT [.none]),(204,oT [.none])]
def KF (P:Params):Frag:=(3,gl P "law_wv0056_01" 2256 41 [] 43)::(263,oD [dE P "__module__" 2106 (vS "cpy313.wsgiref.headers" 1993),dE P "__firstlineno__" 2110 (.int 157 2109),dE P "__init__" 2120 (.ref 158),dE P "_convert_string_type" 2130 (.ref 165),dE P "__len__" 2137 (.ref 172),dE P "__setitem__" 2146 (.ref 179),dE P "__delitem__" 2152 (.ref 184),dE P "__getitem__" 2160 (.ref 191),dE P "__contains__" 2168 (.ref 198),dE P "get_all" 2174 (.ref 203),dE P "get" 2185 (.ref 211),dE P "keys" 2191 (.ref 216),dE P "values" 2197 (.ref 221),dE P "items" 2204 (.ref 228),dE P "__repr__" 2211 (.ref 235),dE P "__str__" 2217 (.ref 240),dE P "__bytes__" 2224 (.ref 247),dE P "setdefault" 2233 (.ref 254),dE P "add_header" 2246 (.ref 261),dE P "__static_attributes__" 2248 (.ref 262),dE P "__dict__" 2250 (.ref 265),dE P "__weakref__" 2252 (.ref 266),dE P "__doc__" 2253 .none] 4)::(264,⟨.type "type",none,.cls ⟨"Headers",[.type "object"],[.ref 264,.type "object"],263,"Headers",true,[],[],false,none,false⟩,#[none,none,some (vS "Headers" 2099),some (vS "Headers" 2107),some (.builtin "object.__new__"),some (.bool true)]⟩)::
 (265,oI "getset_descriptor" [vS "__dict__" 2249,.ref 264,.builtin "function.__dict__",.builtin "function.__dict__#set"])::(266,oI "getset_descriptor" [vS "__weakref__" 2251,.ref 264,.builtin "ExceptionGroup.__weakref__",.none])::(kf1 ++ (kf2 ++ kf3))
noncomputable def kAs:List Addr:=[3,263,264,265,266,54,55,61,62,68,69,91,92,98,99,111,112,119,120,157,158,164,165,202,203,210,211,220,221,227,228,260,261,274,275,281,282,286,287,291,292,42,43,47,48,129,130,134,135,72,101,105,113,151,204]
theorem kAs_eq (P:Params):kAs=(KF P).map (·.1):=by kernel_rfl
noncomputable def qV:Program:={PR with main:={PR.main with body:=PR.main.body.drop 41}}
noncomputable def zet:List Str:=["__name__","_sre","_wall","_twin_re_1","_twin_re_2","CRLF_smtplib","quotedata","rgb_to_hsv","hsv_to_rgb","CRLF_quoprimime","NL","_QUOPRI_MAP","_QUOPRI_HEADER_MAP","_QUOPRI_BODY_MAP","ascii_lowercase","ascii_uppercase","ascii_letters","digits","hexdigits","unquote","quote","_QUOPRI_BODY_ENCODE_MAP","body_encode","decode","tspecials","_name_disallowed_re","_value_disallowed_re","_formatparam","Headers","_law_light","_law_hue","_law_mixed"]
noncomputable def zz1:List Str:=importedModules PR.main.body
def lk1 (P:Params) (os:OsState) (s:Shared):Bool:=staticsOk zz1 (s0 P os).abs.heap s.heap && namesBound PR s.heap && gensDone s && laidKept (s0 P os).abs.heap s.heap
def s26 (P:Params) (os:OsState):SharedT:=mkS (objs P (gl P "cpy313.email.quoprimime" 1439 26 (dE P "c" 1449 (.int 10 1957)::((z5n P).drop 26).take 3) 31) (ziw ++ [nI 68,nI 0,.ref 91,nI 70,nI 0,.ref 98]) (zz5 (znz 1655 b95 (qs 256)) (oI "bytes_iterator" [.none,nI 95]::(zka 84 ++ (fnG bdy[23]? 86 1938 68 1 "unquote" ["s"] (vS "cpy313.email.quoprimime" 1439) ++ (fnG bdy[24]? 93 1945 70 1 "quote" ["c"] (vS "cpy313.email.quoprimime" 1439) ++ [slc,oL z53 0,oI "bytes_iterator" [.none,nI 2]] ++ zka 103)))))) 105 1960 os
section
variable (w:World) (os:OsState)
theorem evO:((importEnds treeTable (opening PR) w 40000 (start (opening PR)).1 (start (opening PR)).2).bind (fenceModules? PR)).map (fun s=> (s.heap,s.gens,s.drawn,s.toks))=some ((s0 w.params (start (opening PR)).1.os).abs.heap,#[],{},276):=by
 rw [Fast.te10274390034422433532,Fast.te1435165496053646825,Fast.te14364793385576792824,Fast.te14289696077712309145]
 kernel_rfl
theorem evP:topGo treeTable PR w 28 (some (.ref 6)) 12 (s0 w.params os).abs (topStub PR)=some ((sP w.params os).abs,⟨denote treeTable cT,cT,p0,[topFrame p0]⟩):=by
 rw [Fast.te15667345088766844465,Fast.te14364793385576792824,Fast.te11892475500146522536]
 kernel_rfl
theorem evQ:segRun treeTable PR w 28 (some (.ref 6)) 1 1 (sP w.params os).abs (blockOf bdy zv4 cT p0 [topFrame p0])=some (.next,(sP w.params os).abs,cT,p0):=by kernel_rfl
theorem evS:((s0 w.params os).abs.heap.isNs mainGlobals && (s0 w.params os).abs.gens.size==0,(s0 w.params os).abs.heap.objs.size,(s0 w.params os).abs.heap.nsMap mainGlobals "__annotations__")=(true,28,some (.ref 6)):=by kernel_rfl
theorem evA:rT w 324 (sP w.params os) (pT 0 11 p0)=some (.next,sA w.params os,cT,⟨53,0,53,2⟩):=by kernel_rfl
def thB:Thread:=th (gT (W2 w true true) 79 (sA w.params os) (pT 11 1 ⟨53,0,53,2⟩))
theorem z7a:gT (W2 w true true) 79 (sA w.params os) (pT 11 1 ⟨53,0,53,2⟩)=some (sB w.params 0 os,thB w os):=by kernel_rfl
theorem z7b:gT (W2 w false true) 79 (sA w.params os) (pT 11 1 ⟨53,0,53,2⟩)=some (sB w.params 0 os,thB w os):=by kernel_rfl
theorem z7c:gT (W2 w true false) 89 (sA w.params os) (pT 11 1 ⟨53,0,53,2⟩)=some (sB w.params 0 os,thB w os):=by kernel_rfl
theorem z7d:gT (W2 w false false) 89 (sA w.params os) (pT 11 1 ⟨53,0,53,2⟩)=some (sB w.params 0 os,thB w os):=by kernel_rfl
theorem z62:gT w 1184 (sB w.params 0 os) (thB w os)=some (sB w.params 32 os,thB w os):=by kernel_rfl
theorem z63:gT w 1184 (sB w.params 32 os) (thB w os)=some (sB w.params 64 os,thB w os):=by kernel_rfl
theorem z64:gT w 1184 (sB w.params 64 os) (thB w os)=some (sB w.params 96 os,thB w os):=by kernel_rfl
theorem z65:gT w 1184 (sB w.params 96 os) (thB w os)=some (sB w.params 128 os,thB w os):=by kernel_rfl
theorem z66:gT w 1184 (sB w.params 128 os) (thB w os)=some (sB w.params 160 os,thB w os):=by kernel_rfl
theorem z67:gT w 1184 (sB w.params 160 os) (thB w os)=some (sB w.params 192 os,thB w os):=by kernel_rfl
theorem z68:gT w 1184 (sB w.params 192 os) (thB w os)=some (sB w.params 224 os,thB w os):=by kernel_rfl
theorem z69:gT w 1147 (sB w.params 224 os) (thB w os)=some (sB w.params 255 os,thB w os):=by kernel_rfl
theorem z7e:rT w 80 (sB w.params 255 os) (thB w os)=some (.next,sB' w.params os,cT,⟨54,0,54,11⟩):=by kernel_rfl
theorem z60:rT w 133 (sB' w.params os) (pT 12 8 ⟨54,0,54,11⟩)=some (.next,s19 w.params os,cT,⟨62,0,62,8⟩):=by kernel_rfl
def thD:Thread:=th (gT (W1 w true) 89 (s19 w.params os) (pT 20 1 ⟨62,0,62,8⟩))
theorem z7i:gT (W1 w true) 89 (s19 w.params os) (pT 20 1 ⟨62,0,62,8⟩)=some (sD w.params 0 os,thD w os):=by kernel_rfl
theorem z7j:gT (W1 w false) 89 (s19 w.params os) (pT 20 1 ⟨62,0,62,8⟩)=some (sD w.params 0 os,thD w os):=by kernel_rfl
theorem z7f:gT w 990 (sD w.params 0 os) (thD w os)=some (sD w.params 22 os,thD w os):=by kernel_rfl
theorem z7g:gT w 990 (sD w.params 22 os) (thD w os)=some (sD w.params 44 os,thD w os):=by kernel_rfl
theorem z7h:gT w 990 (sD w.params 44 os) (thD w os)=some (sD w.params 66 os,thD w os):=by kernel_rfl
theorem z7k:rT w 40 (sD w.params 66 os) (thD w os)=some (.next,sD' w.params os,cT,⟨63,9,63,74⟩):=by kernel_rfl
theorem z61:rT w 25 (sD' w.params os) (pT 21 1 ⟨63,9,63,74⟩)=some (.next,s21 w.params os,cT,⟨65,0,65,28⟩):=by kernel_rfl
def thF:Thread:=th (gT (W1 w true) 55 (s21 w.params os) (pT 22 1 ⟨65,0,65,28⟩))
theorem z7p:gT (W1 w true) 55 (s21 w.params os) (pT 22 1 ⟨65,0,65,28⟩)=some (sF w.params 0 os,thF w os):=by kernel_rfl
theorem z7q:gT (W1 w false) 55 (s21 w.params os) (pT 22 1 ⟨65,0,65,28⟩)=some (sF w.params 0 os,thF w os):=by kernel_rfl
theorem z7l:gT w 1080 (sF w.params 0 os) (thF w os)=some (sF w.params 24 os,thF w os):=by kernel_rfl
theorem z7m:gT w 1080 (sF w.params 24 os) (thF w os)=some (sF w.params 48 os,thF w os):=by kernel_rfl
theorem z7n:gT w 1080 (sF w.params 48 os) (thF w os)=some (sF w.params 72 os,thF w os):=by kernel_rfl
theorem z7o:gT w 990 (sF w.params 72 os) (thF w os)=some (sF w.params 94 os,thF w os):=by kernel_rfl
theorem z7r:rT w 40 (sF w.params 94 os) (thF w os)=some (.next,sF' w.params os,cT,⟨66,9,66,110⟩):=by kernel_rfl
theorem z5o:rT (W1 w true) 400 (sF' w.params os) (pT 23 4 ⟨66,9,66,110⟩)=some (.next,s26 w.params os,cT,⟨73,9,73,16⟩):=by kernel_rfl
theorem z5p:rT (W1 w false) 400 (sF' w.params os) (pT 23 4 ⟨66,9,66,110⟩)=some (.next,s26 w.params os,cT,⟨73,9,73,16⟩):=by kernel_rfl
theorem evZ:(rT w 3000 (s26 w.params os) (pT 27 14 ⟨73,9,73,16⟩)).map (fun r=> (r.1,r.2.2,lk1 w.params os r.2.1.abs,openSeen qV zet zz1 (fun V=> true) true r.2.1.abs,kAs.map r.2.1.abs.heap.get?))=some (.next,(cT,⟨250,0,315,84⟩),true,openGood qV zet,(KF w.params).map fun p=> some p.2):=by
 rw [Fast.te4187177175401517315]
 kernel_rfl
end
end
end
section
noncomputable section
noncomputable def TR (b:Nat) (w:World) (s:Shared) (t:Thread) (r:Shared):Prop:=∃ n,n≤b∧topRun treeTable PR w 28 (some (.ref 6)) n s t=some r
noncomputable def SR (b:Nat) (w:World) (s:SharedT) (t:Thread) (s':SharedT) (q:Pos):Prop:=∃ n,n≤b∧segRun treeTable PR w 28 (some (.ref 6)) 1 n s.abs t=some (.next,s'.abs,cT,q)
theorem SR.of {n:Nat}{w:World}{s s':SharedT}{t:Thread}{q:Pos} (h:rT w n s t=some (.next,s',cT,q)):SR n w s t s' q:=
 ⟨n,Nat.le_refl _,segRun_of (by rw [Fast.te10110043849684766642,Fast.te14364793385576792824];exact h)⟩
theorem SR.go {n b:Nat}{w:World}{s s' r:SharedT}{t t':Thread}{q:Pos} (h:gT w n s t=some (s',t')) (k:SR b w s' t' r q):SR (n + b) w s t r q:=by
 obtain ⟨m,hm,k⟩:=k
 exact ⟨n + m,Nat.add_le_add_left hm n,seg_go (segGo_of (by rw [Fast.te10295753902157049106,Fast.te14364793385576792824];exact h)) k⟩
theorem SR.le {n b:Nat}{w:World}{s s':SharedT}{t:Thread}{q:Pos} (h:SR n w s t s' q) (l:n≤b):SR b w s t s' q:=h.imp fun V h=> ⟨Nat.le_trans h.1 l,h.2⟩
noncomputable abbrev rs (i:Nat) (q:Pos):Thread:=restOf (bdy.drop i) zv4 cT q [topFrame p0]
theorem z6n (i k:Nat) (q:Pos):pT i k q=piecesOf ((bdy.drop i).take k) zv4 cT q [topFrame p0]:=by unfold pT;rw [←Fast.te12563942051412417395]
theorem TR.piece {i k n b:Nat}{w:World}{s s':SharedT}{q q':Pos}{r:Shared} (h:SR n w s (pT i k q) s' q') (j:TR b w s'.abs (rs (i + k) q') r):TR (n + b) w s.abs (rs i q) r:=by
 obtain ⟨m,hm,h⟩:=h
 obtain ⟨m',hm',j⟩:=j
 rw [z6n] at h
 have:=piece_app h j
 rw [←List.drop_drop,List.take_append_drop] at this
 exact ⟨m + m',Nat.add_le_add hm hm',this⟩
theorem by1 {Q:World→Prop} (w:World) (h:∀ a,Q (W1 w a)):Q w:=by
 have e:=World.withFollow_self w "special-get-raises"
 rw [←e];exact h _
theorem by2 {Q:World→Prop} (w:World) (h:∀ a b,Q (W2 w a b)):Q w:=by
 refine by1 w fun a=> ?_
 have e:=World.withFollow_self (W1 w a) "comprehension-iter-twice"
 rw [←e];exact h _ _
theorem srB (w:World) (os:OsState):SR 9700 w (sA w.params os) (pT 11 1 ⟨53,0,53,2⟩) (sB' w.params os) ⟨54,0,54,11⟩:=by
 have k:=(((((((((SR.of (z7e w os)).go (z69 w os)).go (z68 w os)).go (z67 w os)).go (z66 w os)).go (z65 w os)).go (z64 w os)).go (z63 w os)).go (z62 w os))
 have h:∃ n,n≤89∧gT w n (sA w.params os) (pT 11 1 ⟨53,0,53,2⟩)=some (sB w.params 0 os,thB w os):=by2 (Q:=fun v=> ∃ n,n≤89∧gT v n (sA w.params os) (pT 11 1 ⟨53,0,53,2⟩)=some (sB w.params 0 os,thB w os)) w fun a b=> match a,b with
  | true,true=> ⟨79,by decide,z7a w os⟩
  | false,true=> ⟨79,by decide,z7b w os⟩
  | true,false=> ⟨89,by decide,z7c w os⟩
  | false,false=> ⟨89,by decide,z7d w os⟩
 obtain ⟨n,hn,e⟩:=h
 exact (k.go e).le (by omega)
theorem srD (w:World) (os:OsState):SR 3200 w (s19 w.params os) (pT 20 1 ⟨62,0,62,8⟩) (sD' w.params os) ⟨63,9,63,74⟩:=
 (((((SR.of (z7k w os)).go (z7h w os)).go (z7g w os)).go (z7f w os)).go (by1 (Q:=fun v=> gT v 89 (s19 w.params os) (pT 20 1 ⟨62,0,62,8⟩)=some (sD w.params 0 os,thD w os)) w fun a=> match a with | true=> z7i w os | false=> z7j w os)).le (by decide)
theorem srF (w:World) (os:OsState):SR 4400 w (s21 w.params os) (pT 22 1 ⟨65,0,65,28⟩) (sF' w.params os) ⟨66,9,66,110⟩:=
 ((((((SR.of (z7r w os)).go (z7o w os)).go (z7n w os)).go (z7m w os)).go (z7l w os)).go (by1 (Q:=fun v=> gT v 55 (s21 w.params os) (pT 22 1 ⟨65,0,65,28⟩)=some (sF w.params 0 os,thF w os)) w fun a=> match a with | true=> z7p w os | false=> z7q w os)).le (by decide)
theorem z22 (w:World) (os:OsState):∃ s₁:Shared,TR 40000 w (s0 w.params os).abs (topStub PR) s₁∧lk1 w.params os s₁=true∧openSeen qV zet zz1 (fun V=> true) true s₁=openGood qV zet∧kAs.map s₁.heap.get? =(KF w.params).map fun p=> some p.2:=by
 obtain ⟨⟨fl,s',c,q⟩,e,e'⟩:=Option.map_eq_some_iff.mp (evZ w os)
 simp only [Prod.mk.injEq] at e'
 obtain ⟨rfl,⟨rfl,rfl⟩,l1,l2,l3⟩:=e'
 refine ⟨s'.abs, ?_,l1,l2,l3⟩
 have z:TR 2 w s'.abs (rs 41 ⟨250,0,315,84⟩) s'.abs:=⟨2,Nat.le_refl _,by
  unfold rs
  rw [show bdy.drop 41=[] by kernel_rfl]
  exact piece_nil rfl⟩
 have t26:=TR.piece (SR.of (by1 (Q:=fun v=> rT v 400 (sF' w.params os) (pT 23 4 ⟨66,9,66,110⟩)=some (.next,s26 w.params os,cT,⟨73,9,73,16⟩)) w fun a=> match a with | true=> z5o w os | false=> z5p w os)) (TR.piece (SR.of e) z)
 have t:=TR.piece (SR.of (evA w os)) (TR.piece (srB w os) (TR.piece (SR.of (z60 w os)) (TR.piece (srD w os) (TR.piece (SR.of (z61 w os)) (TR.piece (srF w os) t26)))))
 obtain ⟨n,hn,t⟩:=t
 exact ⟨12 + (1 + n),by omega,go_top (evP w os) (piece_block (evQ w os) t)⟩
theorem left:LeftO PR qV zet (fun V=> true) (fun s=> kAs.map s.heap.get?) (fun w=> (KF w.params).map fun p=> some p.2) 40000:=fun w=> by
 obtain ⟨⟨h,gs,d,k,os⟩,e,e'⟩:=Option.map_eq_some_iff.mp (evO w)
 simp only [Prod.mk.injEq] at e'
 obtain ⟨rfl,rfl,rfl,rfl⟩:=e'
 obtain ⟨s₁,⟨n,hn,r⟩,l1,l2,l3⟩:=z22 w os
 have r':=topRun_mono (40000 - n) _ _ _ _ r
 rw [show n + (40000 - n)=40000 by omega] at r'
 have z:=evS w os
 simp only [Prod.mk.injEq] at z
 obtain ⟨z1,z2,z3⟩:=z
 have t:topFrom treeTable PR w 40000 (s0 w.params os).abs=some s₁:=by
  unfold topFrom
  rw [z1,z2,z3,r']
  unfold lk1 at l1
  show (match _ with | true=> some s₁ | false=> none)=_
  unfold zz1 at l1
  rw [l1]
 unfold openEnds fencedOpening
 rw [e]
 show (topFrom treeTable PR w 40000 (s0 w.params os).abs).map _=_
 rw [t]
 exact congrArg some (Prod.ext l2 l3)
theorem z6q:RW.wellSaid=true:=(congrFun Fast.te9446332074065402090 RW).trans (by kernel_rfl)
def dR:DefRec:=match defOf qV "law" with | some x=> x.1 | none=> ⟨Str.empty,⟨[],[],none,[],[],none,[]⟩,[],PR.main.scope,p0⟩
def HK0:Hook:=kHook KF kAs kAs_eq
theorem head (hw:RW.row.toRowW.promised) (call:WalkO qV zet (fun V V=> True) HK0.says RW.row.toRowW dR [] fun f vs=> PySem.call f vs):RW.Holds:=
 ⟨z6q,holds_open (r:=RW.row) (Yf:=HK0.obs) (Ya:=HK0.val) left HK0.of HK0.keeps (fun V V=> trivial) (fun V V V V V=> trivial) (by kernel_rfl) (by kernel_rfl) (by kernel_rfl) (fun V V=> recFacts_nil rfl) (by kernel_rfl) (row_said z6q) (by kernel_rfl) ⟨rfl,rfl,rfl,rfl,rfl,by kernel_rfl⟩ hw call⟩
end
end
end Mh
namespace Mine
open PySem PySem.W PyProof.Rows PySem.Calls
noncomputable def xa:=@wpAny_bind
noncomputable def xb:=@Heap.get?_push_of_some
noncomputable def xc:=@List.length_map
noncomputable def xe:=@List.getElem?_eq_some_iff
noncomputable def xf:=@List.mem_cons_of_mem
noncomputable def xg:=@wpAny_pure
noncomputable def xh:=@Option.map_eq_some_iff
noncomputable def xi:=@Bool.and_eq_true
noncomputable def xj:=@Heap.get?_push_size
noncomputable def xk:=@List.mem_cons_self
noncomputable def xn:=@Option.bind_eq_some_iff
noncomputable def xo:=@List.all_eq_true
noncomputable def xp:=@wpAny_mono
noncomputable def xq:=@List.map_map
noncomputable def xr:=@List.mem_map
noncomputable def xt:=@List.getElem?_eq_getElem
noncomputable def xu:=@List.mem_append_right
noncomputable def xv:=@Heap.size_push
noncomputable def xw:=@List.mem_of_getElem?
noncomputable def xx:=@of_decide_eq_true
noncomputable def xy:=@Bool.false_ne_true
noncomputable def xz:=@List.length_append
noncomputable def x8:=@Nat.le_trans
noncomputable def x9:=@Nat.le_refl
noncomputable def ya:=@List.not_mem_nil
noncomputable def yb:=@List.length_filter_le
noncomputable def yc:=@Nat.zero_le
noncomputable def yd:=@decide_eq_true
section
theorem nn {α:Type}{a:α}{C:Prop} (e:(none:Option α)=some a):C:=nomatch e
theorem bc {C:Prop} (h:¬C→False):C:=Classical.byContradiction h
theorem si {α:Type}{a b:α} (e:some a=some b):a=b:=Option.some.inj e
theorem Qs {M:Model}{A:Around}{E:Value→Shared→Prop}{s:Shared}{α:Type}{c:Prop} [Decidable c] {a b:Sem α}{Q:α→Shared→Prop} (h:¬c) (k:wpAny M A b Q E s):wpAny M A (if c then a else b) Q E s:=by rw [if_neg h];exact k
theorem J4 {M:Model}{A:Around}{E:Value→Shared→Prop}{s:Shared}{α:Type}{c:Prop} [Decidable c] {a b:Sem α}{Q:α→Shared→Prop} (h:c) (k:wpAny M A a Q E s):wpAny M A (if c then a else b) Q E s:=by rw [if_pos h];exact k
inductive PV where
 | none | bool (b:Bool) | int (i:Int) | flt (b:UInt64) | str (s:List Nat) | tup (l:List PV) | lst (l:List PV)
 | mref (i:Nat) | hdr (i:Nat) | dct (ks:List (List Nat)) (vs:List PV) | app (i:Nat) | emp | raw (a:Nat)
abbrev Ren:=Nat→Option PV
abbrev Sto:=List (List PV)
abbrev Den:=Ren→Sto→Option PV
structure GC where
 prog:Program
 w:World
 K:Frag
 p:Program
 loose:List Str
 mg:Str→Option Value
 mb:Str→Option Value
 hd:Addr
noncomputable def zpq (C d:Addr):Obj:=⟨.ref C,some d,.plain,#[]⟩
noncomputable def zlj (hsh:Int) (t:Tok) (a:Addr) (n:Nat):Obj:=dictOf [⟨hsh,.str "_headers" t,.ref a⟩] n
noncomputable def zbd (a:Addr):Obj:={cls:= .type "builtin_function_or_method",data:= .fields #[.builtin "list.append",.ref a]}
structure AD where
 m:List Addr
 b:List Addr
noncomputable def AD.no (ad:AD) (a:Addr):Prop:=a∉ad.m∧a∉ad.b
theorem AD.no_nil (a:Addr):(⟨[],[]⟩:AD).no a:=⟨ya,ya⟩
mutual
noncomputable def zk (g:GC) (ad:AD) (h:Heap):PV→Value→Prop
 | .none,v=> v= .none
 | .bool b,v=> v= .bool b
 | .int i,v=> ∃ t,v= .int i t
 | .flt b,v=> ∃ t,v= .float b t
 | .str s,v=> ∃ t,v= .str ⟨s.toArray⟩ t
 | .tup l,v=> ∃ a vs,v= .ref a∧ad.no a∧(∃ n,h.get? a=some {cls:= .type "tuple",data:= .seq vs n})∧zh g ad h l vs.toList
 | .lst l,v=> ∃ a vs,v= .ref a∧ad.no a∧h.PlainList a vs∧zh g ad h l vs.toList
 | .mref i,v=> ∃ a,v= .ref a∧ad.m[i]? =some a
 | .hdr i,v=> ∃ x d a,v= .ref x∧ad.no x∧ad.no d∧ad.m[i]? =some a∧h.get? x=some (zpq g.hd d)∧∃ hsh t n,h.get? d=some (zlj hsh t a n)
 | .dct ks l,v=> ∃ a vs,v= .ref a∧ad.no a∧ks.length=vs.length∧h.DictOf (strKind g.prog g.w) a ((ks.map fun k=> (⟨k.toArray⟩:Str)).zip vs)∧zh g ad h l vs
 | .app i,v=> ∃ x a,v= .ref x∧ad.no x∧ad.m[i]? =some a∧h.get? x=some (zbd a)
 | .emp,v=> ∃ a,v= .ref a∧(a==sysModules)=false∧ad.no a∧∃ n,h.get? a=some {cls:= .type "dict",data:= .dict #[] n}
 | .raw a,v=> v= .ref a
noncomputable def zh (g:GC) (ad:AD) (h:Heap):List PV→List Value→Prop
 | [],vs=> vs=[]
 | p::ps,vs=> ∃ v vs',vs=v::vs'∧zk g ad h p v∧zh g ad h ps vs'
end
structure Mv (ad ad':AD) (h h':Heap):Prop where
 keep:∀ b o,ad.no b→h.get? b=some o→h'.get? b=some o
 at_:∀ (i:Nat) (a:Addr),ad.m[i]? =some a→ad'.m[i]? =some a
 new:∀ b o,h.get? b=some o→ad.no b→ad'.no b
structure Stays (ad ad':AD) (h h':Heap):Prop extends Mv ad ad' h h' where
 alive:∀ b o,h.get? b=some o→∃ o',h'.get? b=some o'
 bb:∀ a∈ad.b,a∈ad'.b
theorem Mv.out {ad ad':AD}{h h':Heap} (x:Mv ad ad' h h') {b:Addr}{o:Obj} (n:ad.no b) (e:h.get? b=some o):ad'.no b:=x.new _ _ e n
theorem Stays.trans {ad ad' ad'':AD}{h h' h'':Heap} (x:Stays ad ad' h h') (y:Stays ad' ad'' h' h''):Stays ad ad'' h h'':=
 ⟨⟨fun b o n e=> y.keep b o (x.new _ _ e n) (x.keep b o n e),fun i a e=> y.at_ i a (x.at_ i a e),fun b o e n=> y.new b o (x.keep b o n e) (x.new b o e n)⟩,
  fun b o e=> let ⟨o',e'⟩:=x.alive b o e;y.alive b o' e',fun a m=> y.bb a (x.bb a m)⟩
section
variable {g:GC}{ad ad':AD}{h h':Heap}
mutual
theorem zk.mv (x:Mv ad ad' h h'):∀ (p:PV) (v:Value),zk g ad h p v→zk g ad' h' p v
 | .none,v,r=> r
 | .bool b,v,r=> r
 | .int i,v,r=> r
 | .flt b,v,r=> r
 | .str s,v,r=> r
 | .tup l,v,r=> by
  obtain ⟨a,vs,e,na,⟨n,ho⟩,r⟩:=r
  exact ⟨a,vs,e,x.out na ho,⟨n,x.keep _ _ na ho⟩,zh.mv x l _ r⟩
 | .lst l,v,r=> by
  obtain ⟨a,vs,e,na,⟨n,ho⟩,r⟩:=r
  exact ⟨a,vs,e,x.out na ho,⟨n,x.keep _ _ na ho⟩,zh.mv x l _ r⟩
 | .mref i,v,r=> by obtain ⟨a,e,r⟩:=r;exact ⟨a,e,x.at_ _ _ r⟩
 | .hdr _,v,r=> by
  refine bc fun J=> ?_
  obtain ⟨q,d,a,e,n1,n2,e1,e2,hsh,t,n,e3⟩:=r
  refine J ?_
  exact ⟨q,d,a,e,x.out n1 e2,x.out n2 e3,x.at_ _ _ e1,x.keep _ _ n1 e2,hsh,t,n,x.keep _ _ n2 e3⟩
 | .dct _ l,v,r=> by
  refine bc fun J=> ?_
  obtain ⟨a,vs,e,na,hl,⟨o,es,ep,ho,hx⟩,r⟩:=r
  refine J ?_
  exact ⟨a,vs,e,x.out na ho,hl,⟨o,es,ep,x.keep _ _ na ho,hx⟩,zh.mv x l _ r⟩
 | .app _,v,r=> by
  obtain ⟨q,a,e,n1,e1,e2⟩:=r
  exact ⟨q,a,e,x.out n1 e2,x.at_ _ _ e1,x.keep _ _ n1 e2⟩
 | .emp,v,r=> by
  refine bc fun J=> ?_
  obtain ⟨a,e,n0,n1,n,e1⟩:=r
  refine J ?_
  exact ⟨a,e,n0,x.out n1 e1,n,x.keep _ _ n1 e1⟩
 | .raw _,v,r=> r
theorem zh.mv (x:Mv ad ad' h h'):∀ (p:List PV) (v:List Value),zh g ad h p v→zh g ad' h' p v
 | [],v,r=> r
 | p::ps,vs,r=> by
  obtain ⟨v,vs',e,r1,r2⟩:=r
  exact ⟨v,vs',e,zk.mv x p v r1,zh.mv x ps vs' r2⟩
end
theorem zk.stays (x:Stays ad ad' h h') (p:PV) (v:Value) (r:zk g ad h p v):zk g ad' h' p v:=zk.mv x.toMv p v r
theorem zh.stays (x:Stays ad ad' h h') (p:List PV) (v:List Value) (r:zh g ad h p v):zh g ad' h' p v:=zh.mv x.toMv p v r
theorem Stays.of_keeps (k:∀ b o,h.get? b=some o→h'.get? b=some o):Stays ad ad h h':=⟨⟨fun b o V=> k b o,fun V V e=> e,fun V V V m=> m⟩,fun b o e=> ⟨o,k b o e⟩,fun V m=> m⟩
theorem zk.keeps {p:PV}{v:Value} (r:zk g ad h p v) (k:∀ b o,h.get? b=some o→h'.get? b=some o):zk g ad h' p v:=zk.stays (Stays.of_keeps k) p v r
theorem zh.keeps {p:List PV}{v:List Value} (r:zh g ad h p v) (k:∀ b o,h.get? b=some o→h'.get? b=some o):zh g ad h' p v:=zh.stays (Stays.of_keeps k) p v r
theorem zh.length:∀ {p:List PV}{v:List Value},zh g ad h p v→p.length=v.length
 | [],_,r=> by subst r;rfl
 | p::ps,_,r=> by obtain ⟨v,vs',rfl,_,r2⟩:=r;simp [zh.length r2]
theorem zh.get:∀ {p:List PV}{v:List Value},zh g ad h p v→∀ {i:Nat}{q:PV},p[i]? =some q→∃ u,v[i]? =some u∧zk g ad h q u
 | [],_,_,_,_,e=> by exact nn e
 | p::ps,_,r,0,q,e=> by obtain ⟨v,vs',rfl,r1,r2⟩:=r;simp at e;subst e;exact ⟨v,rfl,r1⟩
 | p::ps,_,r,i + 1,q,e=> by obtain ⟨v,vs',rfl,r1,r2⟩:=r;simp at e;obtain ⟨u,e1,e2⟩:=r2.get e;exact ⟨u,by simpa using e1,e2⟩
theorem zh.nil:zh g ad h [] []:=rfl
theorem zh.cons {p:PV}{ps:List PV}{v:Value}{vs:List Value} (r:zk g ad h p v) (rs:zh g ad h ps vs):zh g ad h (p::ps) (v::vs):=by exact ⟨v,vs,rfl,r,rs⟩
theorem zh.append:∀ {p q:List PV}{v u:List Value},zh g ad h p v→zh g ad h q u→zh g ad h (p ++ q) (v ++ u)
 | [],q,v,u,r,s=> by subst r;exact s
 | p::ps,q,v,u,r,s=> by obtain ⟨x,xs,rfl,r1,r2⟩:=r;exact .cons r1 (r2.append s)
theorem zh.inv_cons {p:PV}{ps:List PV}{vs:List Value} (r:zh g ad h (p::ps) vs):∃ v vs',vs=v::vs'∧zk g ad h p v∧zh g ad h ps vs':=by exact r
theorem zh.inv_nil {vs:List Value} (r:zh g ad h [] vs):vs=[]:=by exact r
noncomputable def zq5 (h:Heap) (env:Env) (n:Str) (v:Value):Prop:=
 (env.kindOf n=some .local∧∃ m,h.Ns env.locals m∧m n=some v)∨
 ((env.kindOf n=some .cell∨env.kindOf n=some .free)∧∃ c,env.cells.lookup n=some c∧h.IsCell c (some v))
theorem zq5.keeps {env:Env}{n:Str}{v:Value} (x:zq5 h env n v) (k:∀ b o,h.get? b=some o→h'.get? b=some o):zq5 h' env n v:=by
 rcases x with ⟨a,m,b,c⟩ | ⟨a,c,b,d⟩
 ·exact .inl ⟨a,m,b.keeps k,c⟩
 ·exact .inr ⟨a,c,b,d.keeps k⟩
noncomputable def z7z:List String:=[]
noncomputable def zq0 (g:GC) (nm:Nat→Str) (ad:AD) (U:Ren) (env:Env) (h:Heap):Prop:=
 ∀ i pv,U i=some pv→∃ v,zk g ad h pv v∧zq5 h env (nm i) v
theorem zq0.keeps {nm:Nat→Str}{U:Ren}{env:Env} (x:zq0 g nm ad U env h) (k:∀ b o,h.get? b=some o→h'.get? b=some o):zq0 g nm ad U env h':=
 fun i pv e=> let ⟨v,r,l⟩:=x i pv e;⟨v,r.keeps k,l.keeps k⟩
structure StoreOk (g:GC) (ad:AD) (W:Sto) (h:Heap):Prop where
 len:ad.m.length=W.length
 nd:ad.m.Nodup
 ban:∀ b∈ad.b,∃ o,h.get? b=some o
 dis:∀ b∈ad.b,b∉ad.m
 at_:∀ (i:Nat) (a:Addr) (l:List PV),ad.m[i]? =some a→W[i]? =some l→∃ vs,h.PlainList a vs∧zh g ad h l vs.toList
theorem StoreOk.keeps {W:Sto} (x:StoreOk g ad W h) (k:∀ b o,h.get? b=some o→h'.get? b=some o):StoreOk g ad W h':=
 ⟨x.len,x.nd,fun b m=> let ⟨o,e⟩:=x.ban b m;⟨o,k b o e⟩,x.dis,fun i a l e1 e2=> let ⟨vs,p,r⟩:=x.at_ i a l e1 e2;⟨vs,p.at fun o e=> k _ _ e,r.keeps k⟩⟩
structure Room (k:Nat) (A:Around):Prop where
 handled:A.handled=none
 depth:A.depth + k≤700
 units:A.units + 20 * k≤9000
theorem Room.lt {k:Nat}{A:Around} (r:Room k A):A.depth < recursionLimit:=Nat.lt_of_le_of_lt (Nat.le_of_add_right_le r.depth) (by decide)
theorem Room.deeper {k:Nat}{A:Around}{env:Env} (r:Room (k + 1) A):Room k (A.deeper env):=⟨r.handled,by have:=r.depth;simp only [Around.deeper];lia,by have:=r.units;simp only [Around.deeper];lia⟩
structure EnvSh (env:Env) (h:Heap):Prop where
 ns:∃ m,h.Ns env.locals m
 cells:∀ n c,env.cells.lookup n=some c→∃ v,h.IsCell c v
 apart:∀ n n' c,env.cells.lookup n=some c→env.cells.lookup n'=some c→n=n'
 has:∀ n,env.kindOf n=some .cell∨env.kindOf n=some .free→∃ c,env.cells.lookup n=some c
theorem EnvSh.keeps {env:Env}{h h':Heap} (x:EnvSh env h) (k:∀ b o,h.get? b=some o→h'.get? b=some o):EnvSh env h':=
 ⟨let ⟨m,q⟩:=x.ns;⟨m,q.keeps k⟩,fun n c e=> let ⟨v,q⟩:=x.cells n c e;⟨v,q.keeps k⟩,x.apart,x.has⟩
structure Cx (g:GC) (nm:Nat→Str) (env:Env) (ad:AD) (U:Ren) (W:Sto) (h:Heap):Prop where
 kin:g.K.In h
 top:TopRead g.p g.loose g.mg g.mb h
 eo:zq0 g nm ad U env h
 sto:StoreOk g ad W h
 kno:∀ a o,g.K.lookup a=some o→ad.no a
 tno:ad.no mainGlobals∧ad.no builtinsNs∧ad.no cStatics
 sh:EnvSh env h
theorem Cx.keeps {nm:Nat→Str}{env:Env}{U:Ren}{W:Sto} (x:Cx g nm env ad U W h) (k:∀ b o,h.get? b=some o→h'.get? b=some o):Cx g nm env ad U W h':=
 ⟨x.kin.keeps k,x.top.keeps k,x.eo.keeps k,x.sto.keeps k,x.kno,x.tno,x.sh.keeps k⟩
structure ES (env:Env) (sc:Scope):Prop where
 scope:env.scope=sc
 globals:env.globals=mainGlobals
 builtins:env.builtins=builtinsNs
 kind:sc.kind= .function
structure Gr (s s':Shared):Prop where
 eq:∃ h' tk,s'={s with heap:=h',toks:=tk}
 h:∀ b o,s.heap.get? b=some o→s'.heap.get? b=some o
theorem Gr.refl (s:Shared):Gr s s:=⟨⟨s.heap,s.toks,rfl⟩,fun V V e=> e⟩
theorem Gr.trans {s s' s'':Shared} (x:Gr s s') (y:Gr s' s''):Gr s s'':=by
 obtain ⟨⟨h1,t1,rfl⟩,k1⟩:=x
 obtain ⟨⟨h2,t2,rfl⟩,k2⟩:=y
 exact ⟨⟨h2,t2,rfl⟩,fun b o e=> k2 b o (k1 b o e)⟩
theorem Gr.tok (s:Shared) (t:Nat):Gr s {s with toks:=t}:=⟨⟨s.heap,t,rfl⟩,fun V V e=> e⟩
theorem Gr.push (s:Shared) (o:Obj) (t:Nat):Gr s {s with heap:=s.heap.push o,toks:=t}:=⟨⟨_,t,rfl⟩,fun V V e=> xb _ e⟩
theorem Gr.of_heap {s:Shared}{h':Heap}{t:Nat} (k:∀ b o,s.heap.get? b=some o→h'.get? b=some o):Gr s {s with heap:=h',toks:=t}:=⟨⟨h',t,rfl⟩,k⟩
end
section
variable {g:GC}{ad ad':AD}
noncomputable def Gv (g:GC) (A:Around) (ad:AD) (t:Sem Value) (pv:PV) (s:Shared):Prop:=
 ∀ E,wpAny (model g.prog g.w) A t (fun v s'=> Gr s s'∧zk g ad s'.heap pv v) E s
noncomputable def Snd (g:GC) (nm:Nat→Str) (k:Nat) (sc:Scope) (e:Expr) (f:Den):Prop:=
 ∀ (A:Around) (env:Env) (s:Shared) (ad:AD) (U:Ren) (W:Sto) (pv:PV),Room k A→ES env sc→Cx g nm env ad U W s.heap→f U W=some pv→
  Gv g A ad (eval e env) pv s
noncomputable def za (i:Nat):Den:=fun U V=> U i
theorem Snd.var {nm:Nat→Str}{k:Nat}{sc:Scope}{i:Nat}{n:Str}{pos:Pos} (hn:nm i=n) (hd:(n==("__debug__":Str))=false) (hc:(n==("__classdict__":Str))=false):
  Snd g nm k sc (.Name n pos) (za i):=by
 intro A env s ad U W pv hr he hx hp E
 obtain ⟨v,r,l⟩:=hx.eo i pv hp
 rw [hn] at l
 have hk:env.scope.kind= .function:=by rw [he.scope];exact he.kind
 rcases l with ⟨a,m,b,c⟩ | ⟨a | a,c,b,d⟩
 ·exact wpAny_Name (wpAny_loadName_local hk a b c ⟨Gr.refl s,r⟩) hd
 ·exact wpAny_Name (wpAny_loadName_cell hk a b d ⟨Gr.refl s,r⟩) hd
 ·exact wpAny_Name (wpAny_loadName_free hk a b d ⟨Gr.refl s,r⟩ hc) hd
noncomputable def dC (p:PV):Den:=fun V V=> some p
theorem Snd.int {nm:Nat→Str}{k:Nat}{sc:Scope}{i:Int}{x:Nat}{pos:Pos}:Snd g nm k sc (.Constant (.int i) x pos) (dC (.int i)):=by
 intro A env s ad U W pv hr he hx hp E
 cases si hp
 exact fun V V V=> ⟨Gr.tok s _,by exact ⟨_,rfl⟩⟩
theorem Snd.str {nm:Nat→Str}{k:Nat}{sc:Scope}{i:Str}{x:Nat}{pos:Pos}{l:List Nat} (e:i=⟨l.toArray⟩):Snd g nm k sc (.Constant (.str i) x pos) (dC (.str l)):=by
 intro A env s ad U W pv hr he hx hp E
 cases si hp
 exact Calls.Constant_str ⟨Gr.tok s _,by exact ⟨_,by rw [e]⟩⟩
theorem Snd.flt {nm:Nat→Str}{k:Nat}{sc:Scope}{i:UInt64}{x:Nat}{pos:Pos}:Snd g nm k sc (.Constant (.float i) x pos) (dC (.flt i)):=by
 intro A env s ad U W pv hr he hx hp E
 cases si hp
 exact AutoFloatOps.wpAny_Constant_float ⟨Gr.tok s _,by exact ⟨_,rfl⟩⟩
theorem Snd.bool {nm:Nat→Str}{k:Nat}{sc:Scope}{i:Bool}{x:Nat}{pos:Pos}:Snd g nm k sc (.Constant (.bool i) x pos) (dC (.bool i)):=by
 intro A env s ad U W pv hr he hx hp E
 cases si hp
 exact fun V V V=> ⟨Gr.refl s,rfl⟩
theorem Snd.none {nm:Nat→Str}{k:Nat}{sc:Scope}{x:Nat}{pos:Pos}:Snd g nm k sc (.Constant .none x pos) (dC .none):=by
 intro A env s ad U W pv hr he hx hp E
 cases si hp
 exact fun V V V=> ⟨Gr.refl s,rfl⟩
noncomputable def d2 (op:Sto→PV→PV→Option PV) (f h:Den):Den:=fun U W=> match f U W,h U W with | some a,some b=> op W a b | _,_=> none
noncomputable def d1 (op:Sto→PV→Option PV) (f:Den):Den:=fun U W=> match f U W with | some a=> op W a | none=> none
theorem zfz {op:Sto→PV→PV→Option PV}{f h:Den}{U:Ren}{W:Sto}{pv:PV} (e:d2 op f h U W=some pv):∃ a b,f U W=some a∧h U W=some b∧op W a b=some pv:=by
 delta d2 at e
 generalize f U W=o at e⊢
 generalize h U W=o2 at e⊢
 cases o with
 | none=> exact nomatch e
 | some a=>
  cases o2 with
  | none=> exact nomatch e
  | some b=> exact ⟨a,b,rfl,rfl,e⟩
theorem zy5 {op:Sto→PV→Option PV}{f:Den}{U:Ren}{W:Sto}{pv:PV} (e:d1 op f U W=some pv):∃ a,f U W=some a∧op W a=some pv:=by
 delta d1 at e
 generalize f U W=o at e⊢
 cases o with
 | none=> exact nomatch e
 | some a=> exact ⟨a,rfl,e⟩
noncomputable def Op2 (g:GC) (k:Nat) (t:Value→Value→Sem Value) (op:Sto→PV→PV→Option PV):Prop:=
 ∀ (A:Around) (s:Shared) (ad:AD) (W:Sto) (pa pb pv:PV) (a b:Value),Room k A→g.K.In s.heap→TopRead g.p g.loose g.mg g.mb s.heap→StoreOk g ad W s.heap→zk g ad s.heap pa a→zk g ad s.heap pb b→op W pa pb=some pv→
  Gv g A ad (t a b) pv s
theorem z1i {nm:Nat→Str}{k:Nat}{sc:Scope}{l r:Expr}{f f':Den}{A:Around}{env:Env}{s:Shared}{ad:AD}{U:Ren}{W:Sto}{a b:PV}{β:Type}{T:Value→Value→Sem β}{Q:β→Shared→Prop}{E:Value→Shared→Prop}
  (hl:Snd g nm k sc l f) (hr':Snd g nm k sc r f') (hr:Room k A) (he:ES env sc) (hx:Cx g nm env ad U W s.heap) (ea:f U W=some a) (eb:f' U W=some b)
  (h:∀ va vb s',Gr s s'→Cx g nm env ad U W s'.heap→zk g ad s'.heap a va→zk g ad s'.heap b vb→wpAny (model g.prog g.w) A (T va vb) Q E s'):
  wpAny (model g.prog g.w) A (eval l env) (fun va s₁=> wpAny (model g.prog g.w) A (eval r env) (fun vb s₂=> wpAny (model g.prog g.w) A (T va vb) Q E s₂) E s₁) E s:=by
 refine xp (hl A env s ad U W a hr he hx ea E) (fun va s₁ h₁=> ?_) fun V V x=> x
 obtain ⟨k1,r1⟩:=h₁
 refine xp (hr' A env s₁ ad U W b hr he (hx.keeps k1.h) eb E) (fun vb s₂ h₂=> ?_) fun V V x=> x
 obtain ⟨k2,r2⟩:=h₂
 exact h va vb s₂ (k1.trans k2) ((hx.keeps k1.h).keeps k2.h) (r1.keeps k2.h) r2
theorem Snd.bin {nm:Nat→Str}{k:Nat}{sc:Scope}{l r:Expr}{o:Operator}{pos:Pos}{f f':Den}{op:Sto→PV→PV→Option PV} (ho:Op2 g k (binaryOp o) op) (hl:Snd g nm k sc l f) (hr':Snd g nm k sc r f'):
  Snd g nm k sc (.BinOp l o r pos) (d2 op f f'):=by
 intro A env s ad U W pv hr he hx hp E
 refine bc fun J=> ?_
 obtain ⟨a,b,ea,eb,e⟩:=zfz hp
 refine J ?_
 refine wpAny_BinOp (z1i hl hr' hr he hx ea eb fun va vb s' k' x' r1 r2=> ?_)
 exact xp (ho A s' ad W a b pv va vb hr x'.kin x'.top x'.sto r1 r2 e E) (fun v s'' q=> ⟨k'.trans q.1,q.2⟩) fun V V x=> x
theorem Snd.cmp {nm:Nat→Str}{k:Nat}{sc:Scope}{l r:Expr}{o:CmpOp}{pos:Pos}{f f':Den}{op:Sto→PV→PV→Option PV} (ho:Op2 g k (compareOp o) op) (hl:Snd g nm k sc l f) (hr':Snd g nm k sc r f') (hm:behindInMarks o r=false):
  Snd g nm k sc (.Compare l [o] [r] pos) (d2 op f f'):=by
 intro A env s ad U W pv hr he hx hp E
 refine bc fun J=> ?_
 obtain ⟨a,b,ea,eb,e⟩:=zfz hp
 refine J ?_
 refine wpAny_Compare1 (z1i hl hr' hr he hx ea eb fun va vb s' k' x' r1 r2=> ?_) hm
 exact xp (ho A s' ad W a b pv va vb hr x'.kin x'.top x'.sto r1 r2 e E) (fun v s'' q=> ⟨k'.trans q.1,q.2⟩) fun V V x=> x
end
end
section
mutual
noncomputable def pEq:PV→PV→Option Bool
 | .int a,.int b=> some (a==b)
 | .bool a,.bool b=> some (a==b)
 | .str a,.str b=> some (a==b)
 | .none,.none=> some true
 | .flt a,.int b=> some (Float64.cmpInt a b==some Ordering.eq)
 | .tup a,.tup b=> Jh a b
 | .lst a,.lst b=> Jh a b
 | _,_=> none
noncomputable def Jh:List PV→List PV→Option Bool
 | [],[]=> some true
 | a::as,b::bs=> match pEq a b,Jh as bs with
  | some x,some y=> some (x && y)
  | _,_=> none
 | [],_::_=> some false
 | _::_,[]=> some false
end
section
variable {g:GC}{ad:AD}{h:Heap}
theorem zk.tup_inv {l:List PV}{v:Value} (r:zk g ad h (.tup l) v):∃ a vs,v= .ref a∧ad.no a∧(∃ n,h.get? a=some {cls:= .type "tuple",data:= .seq vs n})∧zh g ad h l vs.toList:=r
theorem zk.of_tup {l:List PV}{v:Value} (r:∃ a vs,v= .ref a∧ad.no a∧(∃ n,h.get? a=some {cls:= .type "tuple",data:= .seq vs n})∧zh g ad h l vs.toList):zk g ad h (.tup l) v:=r
theorem zk.lst_inv {l:List PV}{v:Value} (r:zk g ad h (.lst l) v):∃ a vs,v= .ref a∧ad.no a∧h.PlainList a vs∧zh g ad h l vs.toList:=r
theorem zk.of_lst {l:List PV}{v:Value} (r:∃ a vs,v= .ref a∧ad.no a∧h.PlainList a vs∧zh g ad h l vs.toList):zk g ad h (.lst l) v:=r
theorem zk.int_inv {i:Int}{v:Value} (r:zk g ad h (.int i) v):∃ t,v= .int i t:=r
theorem zk.flt_inv {i:UInt64}{v:Value} (r:zk g ad h (.flt i) v):∃ t,v= .float i t:=r
theorem zk.str_inv {l:List Nat}{v:Value} (r:zk g ad h (.str l) v):∃ t,v= .str ⟨l.toArray⟩ t:=r
theorem zk.bool_inv {b:Bool}{v:Value} (r:zk g ad h (.bool b) v):v= .bool b:=r
theorem zk.none_inv {v:Value} (r:zk g ad h .none v):v= .none:=r
end
theorem zl0 {p q:PV}{c:Bool} (e:pEq p q=some c) {C:PV→PV→Bool→Prop} (ii:∀ a b,C (.int a) (.int b) (a==b)) (bb:∀ a b,C (.bool a) (.bool b) (a==b)) (ss:∀ a b,C (.str a) (.str b) (a==b))
  (nn:C .none .none true) (fi:∀ a b,C (.flt a) (.int b) (Float64.cmpInt a b==some Ordering.eq)) (tt:∀ a b,Jh a b=some c→C (.tup a) (.tup b) c) (ll:∀ a b,Jh a b=some c→C (.lst a) (.lst b) c):C p q c:=by
 have no:∀ {p q},(none:Option Bool)=some c→C p q c:=fun e=> nomatch e
 have yes:∀ {p q x},C p q x→some x=some c→C p q c:=fun h e=> Option.some.inj e▸h
 cases p with
 | int a=> cases q with
  | int b=> exact yes (ii a b) e
  | _=> exact no e
 | bool a=> cases q with
  | bool b=> exact yes (bb a b) e
  | _=> exact no e
 | str a=> cases q with
  | str b=> exact yes (ss a b) e
  | _=> exact no e
 | none=> cases q with
  | none=> exact yes nn e
  | _=> exact no e
 | flt a=> cases q with
  | int b=> exact yes (fi a b) e
  | _=> exact no e
 | tup a=> cases q with
  | tup b=> exact tt a b e
  | _=> exact no e
 | lst a=> cases q with
  | lst b=> exact ll a b e
  | _=> exact no e
 | _=> exact no e
theorem za6 {a b:PV}{as bs:List PV}{c:Bool} (e:Jh (a::as) (b::bs)=some c):∃ x y,pEq a b=some x∧Jh as bs=some y∧(x && y)=c:=by
 have e:(match pEq a b,Jh as bs with | some x,some y=> some (x && y) | _,_=> none)=some c:=e
 cases h1:pEq a b with
 | none=> rw [h1] at e;exact nomatch e
 | some x=> cases h2:Jh as bs with
  | none=> rw [h1,h2] at e;exact nomatch e
  | some y=> rw [h1,h2] at e;exact ⟨x,y,rfl,rfl,Option.some.inj e⟩
theorem zhq {A:Around}{s:Shared} (a:UInt64) (t:Tok) (b:Int) (u:Tok):SeqAt.RcAt A s (.float a t) (.int b u) (Float64.cmpInt a b==some Ordering.eq):=fun V V V V h=> eq_fi h
theorem zlb {A:Around}{s:Shared} (a:UInt64) (t:Tok) (b:Int) (u:Tok):SeqAt.EqAt A s (.float a t) (.int b u) (Float64.cmpInt a b==some Ordering.eq):=fun prog w E Q h=> by
 skip
 refine wpAny_holding ?_
 refine wpAny_ite_split (fun hab=> by cases eq_of_beq hab) (fun V=> ?_)
 exact xa (zhq a t b u prog w E _ (wpAny_truthy_bool h))
def eqJ (a b:List PV) (j:Nat):Bool:=(match a[j]?,b[j]? with | some p,some q=> pEq p q | _,_=> none).getD true
theorem zd8:∀ (p q:List PV) (c:Bool),Jh p q=some c→p.length=q.length→(List.range p.length).all (eqJ p q)=c
 | [],[],_,e,_=> Option.some.inj e
 | a::as,b::bs,_,e,hl=> by
  obtain ⟨x,y,h1,h2,rfl⟩:=za6 e
  rw [List.length_cons,List.range_succ_eq_map,List.all_cons,List.all_map]
  exact congr (congrArg and ((congrArg (Option.getD · true) h1:(pEq a b).getD true=x))) (zd8 as bs y h2 (Nat.succ.inj hl))
 | [],_::_,_,_,hl=> nomatch hl
 | _::_,[],_,_,hl=> nomatch hl
theorem zd9:∀ (p q:List PV) (c:Bool),Jh p q=some c→p.length≠q.length→c=false
 | [],[],_,_,hl=> absurd rfl hl
 | a::as,b::bs,_,e,hl=> by
  obtain ⟨x,y,_,h2,rfl⟩:=za6 e
  rw [zd9 as bs y h2 fun e=> hl (congrArg Nat.succ e),Bool.and_false]
 | [],_::_,_,e,_=> (Option.some.inj e).symm
 | _::_,[],_,e,_=> (Option.some.inj e).symm
theorem zr4:∀ (p q:List PV) (c:Bool),Jh p q=some c→∀ (j:Nat) (a b:PV),p[j]? =some a→q[j]? =some b→pEq a b=some (eqJ p q j)
 | [],_,_,_,_,_,_,e,_=> nomatch (List.getElem?_nil.symm.trans e)
 | _::_,[],_,_,_,_,_,_,e=> nomatch (List.getElem?_nil.symm.trans e)
 | a::as,b::bs,_,e,0,_,_,e1,e2=> by
  obtain ⟨x,_,h1,_,_⟩:=za6 e
  cases e1;cases e2
  exact h1.trans (congrArg some (congrArg (Option.getD · true) h1:(pEq a b).getD true=x).symm)
 | a::as,b::bs,_,e,j + 1,x,y,e1,e2=> let ⟨_,w,_,h2,_⟩:=za6 e;zr4 as bs w h2 j x y e1 e2
theorem zjm {A:Around}{n:Nat} (h:A.units + (n + 1)≤9500):A.in1.units + n≤9500:=by simp only [Around.in1];lia
mutual
noncomputable def js:PV→Nat
 | .tup l=> j0 l + 1
 | .lst l=> j0 l + 1
 | _=> 0
noncomputable def j0:List PV→Nat
 | []=> 0
 | p::ps=> max (js p) (j0 ps)
end
theorem zfe:∀ (l:List PV) (j:Nat) (a:PV),l[j]? =some a→js a≤j0 l
 | [],_,_,e=> nomatch (List.getElem?_nil.symm.trans e)
 | p::ps,0,_,e=> Option.some.inj e▸Nat.le_max_left (js p) (j0 ps)
 | p::ps,j + 1,a,e=> x8 (zfe ps j a e) (Nat.le_max_right (js p) (j0 ps))
theorem zvj {vs:Array Value}{j:Nat}{u:Value} (h:j < vs.size) (f:vs.toList[j]? =some u):vs[j]=u:=by
 rw [Array.getElem?_toList,Array.getElem?_eq_getElem h] at f;exact Option.some.inj f
section
variable {g:GC}{ad:AD}
theorem zh.size {h:Heap}{a:List PV}{vs:Array Value} (r:zh g ad h a vs.toList):a.length=vs.size:=r.length.trans Array.length_toList
theorem zrf {a b:List PV}{m k:Nat}{c:Bool} (l1:a.length=m) (l2:b.length=k) (e:Jh a b=some c):((List.range (min m k)).all (eqJ a b) && m==k)=c:=by
 subst l1 l2
 by_cases hl:a.length=b.length
 ·rw [←hl,Nat.min_self,beq_self_eq_true,Bool.and_true];exact zd8 a b c e hl
 ·rw [zd9 a b c e hl,beq_eq_false_iff_ne.mpr hl,Bool.and_false]
theorem zns {h:Heap}{n:Nat} (ih:∀ (p q:PV) (v:Value) (c:Bool),js p≤n→zk g ad h p v→zk g ad h q v→pEq p q=some c→c=true):
  ∀ (p q:List PV) (v:List Value) (c:Bool),j0 p≤n→zh g ad h p v→zh g ad h q v→Jh p q=some c→c=true
 | [],[],_,_,_,_,_,e=> (Option.some.inj e).symm
 | a::as,b::bs,_,_,hd,r,r',e=> by
  obtain ⟨x,xs,rfl,r1,r2⟩:=r.inv_cons
  obtain ⟨y,ys,e1,r1',r2'⟩:=r'.inv_cons
  cases e1
  obtain ⟨u,w,e3,e4,rfl⟩:=za6 e
  have hd:max (js a) (j0 as)≤n:=hd
  rw [ih a b _ u (x8 (Nat.le_max_left _ _) hd) r1 r1' e3,zns ih as bs _ w (x8 (Nat.le_max_right _ _) hd) r2 r2' e4];rfl
 | [],_::_,_,_,_,r,r',_=> nomatch (r.length.trans r'.length.symm)
 | _::_,[],_,_,_,r,r',_=> nomatch (r.length.trans r'.length.symm)
theorem z0o {h:Heap}:∀ (n:Nat) (p q:PV) (v:Value) (c:Bool),js p≤n→zk g ad h p v→zk g ad h q v→pEq p q=some c→c=true:=by
 have main:∀ (n:Nat) (p q:PV) (v:Value) (c:Bool),(∀ a b vs,j0 a + 1≤n→zh g ad h a vs→zh g ad h b vs→Jh a b=some c→c=true)→js p≤n→zk g ad h p v→zk g ad h q v→pEq p q=some c→c=true:=by
  intro n p q v c H hd r r' e
  refine zl0 e (C:=fun p q c'=> js p≤n→zk g ad h p v→zk g ad h q v→c'=true) ?_ ?_ ?_ ?_ ?_ ?_ ?_ hd r r'
  ·intro a b _ r r';obtain ⟨t,rfl⟩:=r.int_inv;obtain ⟨u,e⟩:=r'.int_inv;cases e;exact beq_self_eq_true _
  ·intro a b _ r r';cases r.bool_inv.symm.trans r'.bool_inv;exact beq_self_eq_true _
  ·intro a b _ r r';obtain ⟨t,rfl⟩:=r.str_inv;obtain ⟨u,e⟩:=r'.str_inv;injection e with e _;injection e with e;cases congrArg Array.toList e;exact beq_self_eq_true _
  ·exact fun V V V=> rfl
  ·intro a b _ r r';obtain ⟨t,rfl⟩:=r.flt_inv;obtain ⟨u,e⟩:=r'.int_inv;exact nomatch e
  ·intro a b e hd r r';obtain ⟨x,vs,rfl,_,⟨m,ho⟩,r⟩:=r.tup_inv;obtain ⟨y,us,e1,_,⟨m',ho'⟩,r'⟩:=r'.tup_inv;cases e1;cases ho.symm.trans ho';exact H a b _ hd r r' e
  ·intro a b e hd r r';obtain ⟨x,vs,rfl,_,⟨m,ho⟩,r⟩:=r.lst_inv;obtain ⟨y,us,e1,_,⟨m',ho'⟩,r'⟩:=r'.lst_inv;cases e1;cases ho.symm.trans ho';exact H a b _ hd r r' e
 intro n
 induction n with
 | zero=> exact fun p q v c=> main 0 p q v c fun V V V hd=> absurd hd (Nat.not_succ_le_zero _)
 | succ n ih=> exact fun p q v c=> main (n + 1) p q v c fun a b vs hd r r' e=> zns ih a b vs c (Nat.le_of_succ_le_succ hd) r r' e
theorem zm4 {n:Nat}{A:Around}{s:Shared}{a b:List PV}{vs us:Array Value}{c:Bool} (ih:∀ (p q:PV) (u v:Value) (c:Bool),js p≤n→zk g ad s.heap p u→zk g ad s.heap q v→pEq p q=some c→SeqAt.EqAt A s u v c)
  (hd:j0 a≤n) (r:zh g ad s.heap a vs.toList) (r':zh g ad s.heap b us.toList) (e:Jh a b=some c):∀ j (h1:j < vs.size) (h2:j < us.size),SeqAt.EqAt A s vs[j] us[j] (eqJ a b j):=fun j h1 h2=> by
 have ea:a[j]? =some _:=xt (r.size▸h1)
 have eb:b[j]? =some _:=xt (r'.size▸h2)
 refine bc fun J=> ?_
 obtain ⟨u1,f1,g1⟩:=r.get ea
 obtain ⟨u2,f2,g2⟩:=r'.get eb
 refine J ?_
 rw [zvj h1 f1,zvj h2 f2]
 exact ih _ _ u1 u2 _ (x8 (zfe a j _ ea) hd) g1 g2 (zr4 a b c e j _ _ ea eb)
theorem zjf:∀ (n:Nat) (p q:PV) (A:Around) (s:Shared) (u v:Value) (c:Bool),js p≤n→A.units + n≤9500→zk g ad s.heap p u→zk g ad s.heap q v→pEq p q=some c→
  SeqAt.RcAt A s u v c∧SeqAt.EqAt A s u v c:=by
 have main:∀ (n:Nat) (p q:PV) (A:Around) (s:Shared) (u v:Value) (c:Bool),(∀ a b,j0 a + 1≤n→Jh a b=some c→∀ {vs us:Array Value},zh g ad s.heap a vs.toList→zh g ad s.heap b us.toList→∀ j (h1:j < vs.size) (h2:j < us.size),SeqAt.EqAt A.in1 s vs[j] us[j] (eqJ a b j))→
   js p≤n→A.units + n≤9500→zk g ad s.heap p u→zk g ad s.heap q v→pEq p q=some c→SeqAt.RcAt A s u v c∧SeqAt.EqAt A s u v c:=by
  intro n p q A s u v c H hd hu r r' e
  have hcl:A.units < cLine:=Nat.lt_of_le_of_lt (Nat.le_of_add_right_le hu) (by decide)
  have refs:∀ {x y:Addr},u= .ref x→v= .ref y→SeqAt.RcAt A s (.ref x) (.ref y) c→SeqAt.RcAt A s (.ref x) (.ref y) c∧SeqAt.EqAt A s (.ref x) (.ref y) c:=fun {x y} e1 e2 key=> ⟨key,by
   by_cases hxy:x=y
   ·subst hxy;rw [z0o n p q _ c hd r (e2.trans e1.symm▸r') e];exact .same _
   ·exact .of_refs hxy key⟩
  refine zl0 e (C:=fun p q c'=> js p≤n→zk g ad s.heap p u→zk g ad s.heap q v→SeqAt.RcAt A s u v c'∧SeqAt.EqAt A s u v c') ?_ ?_ ?_ ?_ ?_ ?_ ?_ hd r r'
  ·intro a b _ r r';obtain ⟨t,rfl⟩:=r.int_inv;obtain ⟨u,rfl⟩:=r'.int_inv;exact ⟨SeqAt.RcAt.int_int _ _ _ _,SeqAt.EqAt.int_int _ _ _ _⟩
  ·intro a b _ r r';cases r.bool_inv;cases r'.bool_inv;exact ⟨SeqAt.RcAt.bool_bool _ _,SeqAt.EqAt.bool_bool _ _⟩
  ·intro a b _ r r';obtain ⟨t,rfl⟩:=r.str_inv;obtain ⟨u,rfl⟩:=r'.str_inv
   rw [show (a==b)=((⟨a.toArray⟩:Str)==⟨b.toArray⟩) by rw [←SeqAt.str_beq]]
   exact ⟨SeqAt.RcAt.str_str _ _ _ _,SeqAt.EqAt.str_str _ _ _ _⟩
  ·intro _ r r';cases r.none_inv;cases r'.none_inv;exact ⟨SeqAt.RcAt.none_none,SeqAt.EqAt.same _⟩
  ·intro a b _ r r';obtain ⟨t,rfl⟩:=r.flt_inv;obtain ⟨u,rfl⟩:=r'.int_inv;exact ⟨zhq _ _ _ _,zlb _ _ _ _⟩
  ·intro a b e hd r r'
   obtain ⟨x,vs,e1,_,⟨m,ho⟩,r⟩:=r.tup_inv;obtain ⟨y,us,e2,_,⟨m',ho'⟩,r'⟩:=r'.tup_inv
   have key:=SeqAt.RcAt.tuples ⟨_,ho,rfl,m,rfl⟩ ⟨_,ho',rfl,m',rfl⟩ hcl (H a b hd e r r')
   rw [zrf r.size r'.size e] at key
   have:=refs e1 e2 key
   rwa [←e1,←e2] at this
  ·intro a b e hd r r'
   obtain ⟨x,vs,e1,_,ho,r⟩:=r.lst_inv;obtain ⟨y,us,e2,_,ho',r'⟩:=r'.lst_inv
   have key:SeqAt.RcAt A s (.ref x) (.ref y) c:=by
    by_cases hl:a.length=b.length
    ·have key:=SeqAt.RcAt.lists ho.isList ho'.isList (r.size.symm.trans (hl.trans r'.size)) hcl (H a b hd e r r')
     rwa [←r.size,zd8 a b c e hl] at key
    ·rw [zd9 a b c e hl]
     exact SeqAt.RcAt.lists_lengths ho.isList ho'.isList (bne_iff_ne.mpr fun h=> hl (r.size.trans (h.trans r'.size.symm))) hcl
   have:=refs e1 e2 key
   rwa [←e1,←e2] at this
 intro n
 induction n with
 | zero=> exact fun p q A s u v c=> main 0 p q A s u v c fun V V hd=> absurd hd (Nat.not_succ_le_zero _)
 | succ n ih=> exact fun p q A s u v c hd hu=> main (n + 1) p q A s u v c (fun a b hd e V V r r'=> zm4 (fun p q u v c hd r r' e=> (ih p q A.in1 s u v c hd (zjm hu) r r' e).2) (Nat.le_of_succ_le_succ hd) r r' e) hd hu
end
end
section
mutual
noncomputable def noM:PV→Bool
 | .none=> true
 | .bool _=> true
 | .int _=> true
 | .flt _=> true
 | .str _=> true
 | .tup l=> ztt l
 | .lst l=> ztt l
 | _=> false
noncomputable def ztt:List PV→Bool
 | []=> true
 | p::ps=> noM p && ztt ps
end
section
variable {g:GC}{ad ad':AD}{h:Heap}
mutual
theorem zk.sub (hs:∀ b,ad'.no b→ad.no b):∀ (p:PV) (v:Value),noM p=true→zk g ad' h p v→zk g ad h p v
 | .none,_,_,r=> r
 | .bool _,_,_,r=> r
 | .int _,_,_,r=> r
 | .flt _,_,_,r=> r
 | .str _,_,_,r=> r
 | .tup l,_,n,r=> let ⟨a,vs,e,na,ho,r⟩:=r.tup_inv;zk.of_tup ⟨a,vs,e,hs _ na,ho,zh.sub hs l _ n r⟩
 | .lst l,_,n,r=> let ⟨a,vs,e,na,ho,r⟩:=r.lst_inv;zk.of_lst ⟨a,vs,e,hs _ na,ho,zh.sub hs l _ n r⟩
 | .mref _,_,n,_=> (xy n).elim
 | .hdr _,_,n,_=> (xy n).elim
 | .dct _ _,_,n,_=> (xy n).elim
 | .app _,_,n,_=> (xy n).elim
 | .emp,_,n,_=> (xy n).elim
 | .raw _,_,n,_=> (xy n).elim
theorem zh.sub (hs:∀ b,ad'.no b→ad.no b):∀ (p:List PV) (v:List Value),ztt p=true→zh g ad' h p v→zh g ad h p v
 | [],_,_,r=> r
 | p::ps,vs,n,r=> by
  have n:=Bool.and_eq_true_iff.mp n
  obtain ⟨v,vs',rfl,r1,r2⟩:=r.inv_cons
  exact .cons (zk.sub hs p v n.1 r1) (zh.sub hs ps vs' n.2 r2)
end
noncomputable def dr (W:Sto):PV→PV
 | .mref i=> match W[i]? with | some l=> .lst l | none=> .mref i
 | p=> p
noncomputable def drO (i:Nat):Option (List PV)→PV
 | some l=> .lst l
 | none=> .mref i
theorem ze9 {W:Sto}{i:Nat}{o:Option (List PV)} (e:W[i]? =o):dr W (.mref i)=drO i o:=e▸rfl
theorem zk.dr {W:Sto}{p:PV}{v:Value} (S:StoreOk g ad W h) (r:zk g ad h p v) (n:noM (dr W p)=true):zk g ⟨[],[]⟩ h (dr W p) v:=by
 have other:noM p=true→zk g ⟨[],[]⟩ h p v:=fun n=> zk.sub (ad':=ad) (fun b V=> AD.no_nil b) p v n r
 cases p with
 | mref i=>
  cases e:W[i]? with
  | none=> rw [ze9 e] at n;exact (xy n).elim
  | some l=>
   rw [ze9 e] at n⊢
   obtain ⟨a,rfl,ea⟩:∃ a,v= .ref a∧ad.m[i]? =some a:=r
   obtain ⟨vs,pl,rs⟩:=S.at_ i a l ea e
   exact zk.of_lst ⟨a,vs,rfl,AD.no_nil _,pl,zh.sub (ad':=ad) (fun b V=> AD.no_nil b) l _ n rs⟩
 | _=> exact other n
end
section
variable {α:Type}
noncomputable def g1 (f:PV→Option α):List PV→Option α
 | [p]=> f p
 | _=> none
noncomputable def g2 (f:PV→PV→Option α):List PV→Option α
 | [p,q]=> f p q
 | _=> none
noncomputable def g3 (f:PV→PV→PV→Option α):List PV→Option α
 | [p,q,r]=> f p q r
 | _=> none
noncomputable def onI (f:Int→Option α):PV→Option α
 | .int i=> f i
 | _=> none
noncomputable def onS (f:List Nat→Option α):PV→Option α
 | .str l=> f l
 | _=> none
noncomputable def onL (f:List PV→Option α):PV→Option α
 | .lst l=> f l
 | _=> none
noncomputable def onR (f:Addr→Option α):PV→Option α
 | .raw a=> f a
 | _=> none
noncomputable def on1 (f:Nat→Option α):List Nat→Option α
 | [c]=> f c
 | _=> none
theorem zwi {f:PV→Option α}{l:List PV}{x:α} (e:g1 f l=some x):∃ p,l=[p]∧f p=some x:=match l,e with
 | [p],e=> ⟨p,rfl,e⟩
 | [],e=> nn e
 | _::_::_,e=> nn e
theorem zgz {f:PV→PV→Option α}{l:List PV}{x:α} (e:g2 f l=some x):∃ p q,l=[p,q]∧f p q=some x:=match l,e with
 | [p,q],e=> ⟨p,q,rfl,e⟩
 | [],e=> nn e
 | [_],e=> nn e
 | _::_::_::_,e=> nn e
theorem zwj {f:PV→PV→PV→Option α}{l:List PV}{x:α} (e:g3 f l=some x):∃ p q r,l=[p,q,r]∧f p q r=some x:=match l,e with
 | [p,q,r],e=> ⟨p,q,r,rfl,e⟩
 | [],e=> nn e
 | [_],e=> nn e
 | [_,_],e=> nn e
 | _::_::_::_::_,e=> nn e
theorem zz7 {f:Nat→Option α}{l:List Nat}{x:α} (e:on1 f l=some x):∃ c,l=[c]∧f c=some x:=match l,e with
 | [c],e=> ⟨c,rfl,e⟩
 | [],e=> nn e
 | _::_::_,e=> nn e
theorem zz9 {f:Int→Option α}{p:PV}{x:α} (e:onI f p=some x):∃ i,p= .int i∧f i=some x:=by
 cases p with
 | int i=> exact ⟨i,rfl,e⟩
 | _=> exact nn e
theorem Q4 {f:List Nat→Option α}{p:PV}{x:α} (e:onS f p=some x):∃ l,p= .str l∧f l=some x:=by
 cases p with
 | str l=> exact ⟨l,rfl,e⟩
 | _=> exact nn e
theorem zr1 {f:List PV→Option α}{p:PV}{x:α} (e:onL f p=some x):∃ l,p= .lst l∧f l=some x:=by
 cases p with
 | lst l=> exact ⟨l,rfl,e⟩
 | _=> exact nn e
theorem zlw {f:Addr→Option α}{p:PV}{x:α} (e:onR f p=some x):∃ a,p= .raw a∧f a=some x:=by
 cases p with
 | raw a=> exact ⟨a,rfl,e⟩
 | _=> exact nn e
variable {g:GC}{ad:AD}{h:Heap}{x:α}
theorem zfb {f:PV→Option α}{ps:List PV}{vs:List Value} (e:g1 f ps=some x) (rv:zh g ad h ps vs) {C:List Value→Prop} (k:∀ p v,f p=some x→zk g ad h p v→C [v]):C vs:=by
 obtain ⟨p,rfl,e⟩:=zwi e
 obtain ⟨v,vs',rfl,r1,r2⟩:=rv.inv_cons
 rw [r2.inv_nil];exact k p v e r1
theorem zm8 {f:PV→PV→Option α}{ps:List PV}{vs:List Value} (e:g2 f ps=some x) (rv:zh g ad h ps vs) {C:List Value→Prop} (k:∀ p q v u,f p q=some x→zk g ad h p v→zk g ad h q u→C [v,u]):C vs:=by
 obtain ⟨p,q,rfl,e⟩:=zgz e
 obtain ⟨v,_,rfl,a1,b1⟩:=rv.inv_cons
 obtain ⟨u,_,rfl,a2,b2⟩:=b1.inv_cons
 rw [b2.inv_nil];exact k p q v u e a1 a2
theorem zwk {f:PV→PV→PV→Option α}{ps:List PV}{vs:List Value} (e:g3 f ps=some x) (rv:zh g ad h ps vs) {C:List Value→Prop} (k:∀ p q r v u w,f p q r=some x→zk g ad h p v→zk g ad h q u→zk g ad h r w→C [v,u,w]):C vs:=by
 obtain ⟨p,q,r,rfl,e⟩:=zwj e
 obtain ⟨v,_,rfl,a1,b1⟩:=rv.inv_cons
 obtain ⟨u,_,rfl,a2,b2⟩:=b1.inv_cons
 obtain ⟨w,_,rfl,a3,b3⟩:=b2.inv_cons
 rw [b3.inv_nil];exact k p q r v u w e a1 a2 a3
theorem Jb {f:Int→Option α}{p:PV}{v:Value} (e:onI f p=some x) (r:zk g ad h p v) {C:Value→Prop} (k:∀ i t,f i=some x→C (.int i t)):C v:=by
 obtain ⟨i,rfl,e⟩:=zz9 e
 obtain ⟨t,rfl⟩:=r.int_inv;exact k i t e
theorem zas {f:List Nat→Option α}{p:PV}{v:Value} (e:onS f p=some x) (r:zk g ad h p v) {C:Value→Prop} (k:∀ l t,f l=some x→C (.str ⟨l.toArray⟩ t)):C v:=by
 obtain ⟨l,rfl,e⟩:=Q4 e
 obtain ⟨t,rfl⟩:=r.str_inv;exact k l t e
theorem zp7 {f:Addr→Option α}{p:PV}{v:Value} (e:onR f p=some x) (r:zk g ad h p v) {C:Value→Prop} (k:∀ a,f a=some x→C (.ref a)):C v:=by
 obtain ⟨a,rfl,e⟩:=zlw e
 have r:v= .ref a:=r
 rw [r];exact k a e
end
noncomputable def fl2 (a b:PV):Option Bool:=match a with
 | .flt x=> match b with
  | .flt y=> some (Float64.cmp x y==some Ordering.eq)
  | _=> none
 | .int x=> match b with
  | .flt y=> some (Float64.cmpInt y x==some Ordering.eq)
  | _=> none
 | _=> none
def zxi (W:Sto) (a b:PV):Option Bool:=match fl2 a b with
 | some c=> some c
 | none=> if noM (dr W a) && noM (dr W b) && decide (js (dr W a)≤100) then pEq (dr W a) (dr W b) else none
theorem zrg {W:Sto}{a b:PV}{c:Bool} (e:zxi W a b=some c) {C:PV→PV→Bool→Prop} (ff:∀ x y,C (.flt x) (.flt y) (Float64.cmp x y==some Ordering.eq)) (jf:∀ x y,C (.int x) (.flt y) (Float64.cmpInt y x==some Ordering.eq))
  (gen:noM (dr W a)=true→noM (dr W b)=true→js (dr W a)≤100→pEq (dr W a) (dr W b)=some c→C a b c):C a b c:=by
 have e:(match fl2 a b with | some c=> some c | none=> if (noM (dr W a) && noM (dr W b) && decide (js (dr W a)≤100))=true then pEq (dr W a) (dr W b) else none)=some c:=e
 cases h:fl2 a b with
 | some c'=>
  rw [h] at e
  have yes:∀ {p q x},C p q x→some x=some c→C p q c:=fun h e=> Option.some.inj e▸h
  have no:∀ {p q},(none:Option Bool)=some c'→C p q c:=fun e=> nomatch e
  have h:=h.trans e
  clear e gen no
  have no:∀ {p q},(none:Option Bool)=some c→C p q c:=fun e=> nomatch e
  cases a with
  | flt x=> cases b with
   | flt y=> exact yes (ff x y) h
   | _=> exact no h
  | int x=> cases b with
   | flt y=> exact yes (jf x y) h
   | _=> exact no h
  | _=> exact no h
 | none=>
  rw [h] at e
  by_cases hc:(noM (dr W a) && noM (dr W b) && decide (js (dr W a)≤100))=true
  ·have e:=(if_pos hc).symm.trans e
   rw [xi,xi] at hc
   exact gen hc.1.1 hc.1.2 (xx hc.2) e
  ·exact nomatch (if_neg hc).symm.trans e
def zv (W:Sto) (a b:PV):Option PV:=(zxi W a b).map .bool
def qr (W:Sto) (a b:PV):Option PV:=(zxi W a b).map fun x=> .bool (!x)
noncomputable def ze (n:Nat):Bool:=decide (n≤16777216)
theorem zy {n:Nat} (h:ze n=true):n≤sizeLine:=by rw [sizeLine_eq];exact xx h
noncomputable def qx (a:Int):Bool:=decide (-(2 ^ 63) < a∧a < 2 ^ 63)
theorem zc1 {a:Int} (h:qx a=true):Builtin.Int.intBits a≤64:=by
 have:=xx h;exact intBits_le_64 (by lia) (by lia)
noncomputable def zm5 (a:Int):Bool:=Float64.isInf (Float64.ofInt a)
structure Ops where
 ii:Int→Int→Option PV:=fun V V=> none
 ff:UInt64→UInt64→Option PV:=fun V V=> none
 fi:UInt64→Int→Option PV:=fun V V=> none
 jf:Int→UInt64→Option PV:=fun V V=> none
 ss:List Nat→List Nat→Option PV:=fun V V=> none
 ll:List PV→List PV→Option PV:=fun V V=> none
 bi:Bool→Int→Option PV:=fun V V=> none
 ib:Int→Bool→Option PV:=fun V V=> none
 si:List Nat→Int→Option PV:=fun V V=> none
noncomputable def Ops.app (o:Ops) (a b:PV):Option PV:=match a with
 | .int a=> match b with
  | .int b=> o.ii a b
  | .flt b=> o.jf a b
  | .bool b=> o.ib a b
  | _=> none
 | .flt a=> match b with
  | .int b=> o.fi a b
  | .flt b=> o.ff a b
  | _=> none
 | .str a=> match b with
  | .str b=> o.ss a b
  | .int b=> o.si a b
  | _=> none
 | .lst a=> match b with
  | .lst b=> o.ll a b
  | _=> none
 | .bool a=> match b with
  | .int b=> o.bi a b
  | _=> none
 | _=> none
theorem n4 {pv:PV}{A B C D:Type}{Q:A→B→C→D→Prop} (x:A) (y:B) (t:C) (u:D) (e:(none:Option PV)=some pv):Q x y t u:=nomatch e
theorem n3 {pv:PV}{A B C:Type}{Q:A→B→C→Prop} (x:A) (y:B) (t:C) (e:(none:Option PV)=some pv):Q x y t:=nomatch e
theorem n2 {pv:PV}{A B:Type}{Q:A→B→Prop} (x:A) (y:B) (e:(none:Option PV)=some pv):Q x y:=nomatch e
theorem Ops.ok (o:Ops) {g:GC}{ad:AD}{h:Heap}{pa pb pv:PV}{a b:Value} (e:o.app pa pb=some pv) (ra:zk g ad h pa a) (rb:zk g ad h pb b) {Q:Value→Value→Prop}
  (ii:∀ x y t u,o.ii x y=some pv→Q (.int x t) (.int y u))
  (ff:∀ x y t u,o.ff x y=some pv→Q (.float x t) (.float y u))
  (fi:∀ x y t u,o.fi x y=some pv→Q (.float x t) (.int y u))
  (jf:∀ x y t u,o.jf x y=some pv→Q (.int x t) (.float y u))
  (ss:∀ x y t u,o.ss x y=some pv→Q (.str ⟨x.toArray⟩ t) (.str ⟨y.toArray⟩ u))
  (ll:∀ x y,o.ll x y=some pv→zk g ad h (.lst x) a→zk g ad h (.lst y) b→Q a b)
  (bi:∀ x y u,o.bi x y=some pv→Q (.bool x) (.int y u))
  (ib:∀ x y t,o.ib x y=some pv→Q (.int x t) (.bool y))
  (si:∀ x y t u,o.si x y=some pv→Q (.str ⟨x.toArray⟩ t) (.int y u)):Q a b:=by
 have no:(none:Option PV)=some pv→Q a b:=fun e=> nomatch e
 cases pa with
 | int x=>
  obtain ⟨t,rfl⟩:=ra.int_inv
  cases pb with
  | int y=> obtain ⟨u,rfl⟩:=rb.int_inv;exact ii x y t u e
  | flt y=> obtain ⟨u,rfl⟩:=rb.flt_inv;exact jf x y t u e
  | bool y=> cases rb.bool_inv;exact ib x y t e
  | _=> exact no e
 | flt x=>
  obtain ⟨t,rfl⟩:=ra.flt_inv
  cases pb with
  | int y=> obtain ⟨u,rfl⟩:=rb.int_inv;exact fi x y t u e
  | flt y=> obtain ⟨u,rfl⟩:=rb.flt_inv;exact ff x y t u e
  | _=> exact no e
 | str x=>
  obtain ⟨t,rfl⟩:=ra.str_inv
  cases pb with
  | str y=> obtain ⟨u,rfl⟩:=rb.str_inv;exact ss x y t u e
  | int y=> obtain ⟨u,rfl⟩:=rb.int_inv;exact si x y t u e
  | _=> exact no e
 | lst x=>
  cases pb with
  | lst y=> exact ll x y e ra rb
  | _=> exact no e
 | bool x=>
  cases ra.bool_inv
  cases pb with
  | int y=> obtain ⟨u,rfl⟩:=rb.int_inv;exact bi x y u e
  | _=> exact no e
 | _=> exact no e
abbrev BQ (g:GC) (ad:AD) (A:Around) (s:Shared) (E:Value→Shared→Prop) (pv:PV) (t:Value→Value→Sem Value) (a b:Value):Prop:=wpAny (model g.prog g.w) A (t a b) (fun v s'=> Gr s s'∧zk g ad s'.heap pv v) E s
theorem zl9 {α:Type}{x y:α}{P:α→Prop} (h:P x) (e:some x=some y):P y:=Option.some.inj e▸h
theorem z3k {α:Type}{c:Prop} [Decidable c] {x y:α}{P:α→Prop} (h:¬c→P x) (e:(if c then none else some x)=some y):P y:=by
 by_cases hc:c
 ·rw [if_pos hc] at e;exact nomatch e
 ·rw [if_neg hc] at e;exact zl9 (h hc) e
theorem z3l {α:Type}{c:Prop} [Decidable c] {x y:α}{P:α→Prop} (h:c→P x) (e:(if c then some x else none)=some y):P y:=by
 by_cases hc:c
 ·rw [if_pos hc] at e;exact zl9 (h hc) e
 ·rw [if_neg hc] at e;exact nomatch e
section
variable {g:GC}{ad:AD}{A:Around}{s:Shared}{E:Value→Shared→Prop}{x pv:PV}{t:Value→Value→Sem Value}{a b:Value}{c:Prop} [Decidable c]
theorem bs (h:BQ g ad A s E x t a b):some x=some pv→BQ g ad A s E pv t a b:=zl9 (P:=fun pv=> BQ g ad A s E pv t a b) h
theorem bn (h:¬c→BQ g ad A s E x t a b):(if c then none else some x)=some pv→BQ g ad A s E pv t a b:=z3k (P:=fun pv=> BQ g ad A s E pv t a b) h
theorem bi (h:c→BQ g ad A s E x t a b):(if c then some x else none)=some pv→BQ g ad A s E pv t a b:=z3l (P:=fun pv=> BQ g ad A s E pv t a b) h
end
def z59:Ops where
 ii a b:=some (.int (a + b))
 bi a b:=some (.int ((if a=true then (1:Int) else 0) + b))
 ff a b:=some (.flt (Float64.add a b))
 fi a b:=if zm5 b then none else some (.flt (Float64.add a (Float64.ofInt b)))
 jf a b:=if zm5 a then none else some (.flt (Float64.add (Float64.ofInt a) b))
 ss a b:=if ze (a.length + b.length) then some (.str (a ++ b)) else none
 ll a b:=if ze (a.length + b.length) then some (.lst (a ++ b)) else none
def zx (_:Sto) (a b:PV):Option PV:=z59.app a b
def z6e:Ops where
 ii a b:=some (.int (a - b))
 ff a b:=some (.flt (Float64.sub a b))
 fi a b:=if zm5 b then none else some (.flt (Float64.sub a (Float64.ofInt b)))
 jf a b:=if zm5 a then none else some (.flt (Float64.sub (Float64.ofInt a) b))
def jb (_:Sto) (a b:PV):Option PV:=z6e.app a b
noncomputable def zn3 (n:Nat) (l:List Nat):List Nat:=(List.replicate n l).flatten
def z6c:Ops where
 ii a b:=if qx a || qx b then some (.int (a * b)) else none
 ib a b:=some (.int (a * if b=true then (1:Int) else 0))
 ff a b:=some (.flt (Float64.mul a b))
 fi a b:=if zm5 b then none else some (.flt (Float64.mul a (Float64.ofInt b)))
 jf a b:=if zm5 a then none else some (.flt (Float64.mul (Float64.ofInt a) b))
 si a n:=if decide (a.length≤1000) && decide (0≤n) && decide (n≤1000) then some (.str (zn3 n.toNat a)) else none
def j3 (_:Sto) (a b:PV):Option PV:=z6c.app a b
def z6a:Ops where
 ii a b:=if b=0∨¬a.natAbs < 2 ^ 100 then none else some (.flt (Float64.ofFrac (decide (a < 0) !=decide (b < 0)) a.natAbs b.natAbs))
 ff a b:=if Float64.isZero b then none else some (.flt (Float64.div a b))
 fi a b:=if zm5 b || Float64.isZero (Float64.ofInt b) then none else some (.flt (Float64.div a (Float64.ofInt b)))
 jf a b:=if zm5 a || Float64.isZero b then none else some (.flt (Float64.div (Float64.ofInt a) b))
def zqd (_:Sto) (a b:PV):Option PV:=z6a.app a b
noncomputable def z1n:Ops where
 ii a b:=if b≠0∧b.natAbs < 1073741824 then some (.int (a.fdiv b)) else none
def zo (_:Sto) (a b:PV):Option PV:=z1n.app a b
noncomputable def z6b:Ops where
 ii a b:=if b=0 then none else some (.int (a.fmod b))
 ff a b:=if Float64.isZero b then none else some (.flt (Float64.divmod a b).snd)
def jt (_:Sto) (a b:PV):Option PV:=z6b.app a b
noncomputable def z6d:Ops where
 ii a n:=if 0≤n∧(Builtin.Int.intBits a:Int) * n≤2 ^ 27 then some (.int (a ^ n.toNat)) else none
def Qc (_:Sto) (a b:PV):Option PV:=z6d.app a b
section
variable {g:GC}{ad:AD}{h:Heap}
theorem Jy {i:Int}{t:Tok}:zk g ad h (.int i) (.int i t):=by exact ⟨t,rfl⟩
theorem zed {i:UInt64}{t:Tok}:zk g ad h (.flt i) (.float i t):=by exact ⟨t,rfl⟩
theorem Qw {i:Bool}:zk g ad h (.bool i) (.bool i):=by rfl
theorem zff:zk g ad h .none .none:=by rfl
theorem ze0 {l:List Nat}{x:Str}{t:Tok} (e:x=⟨l.toArray⟩):zk g ad h (.str l) (.str x t):=by exact ⟨t,by rw [e]⟩
theorem StoreOk.fresh {s:Shared}{W:Sto} (S:StoreOk g ad W s.heap) {a:Addr} (e:s.heap.get? a=none):ad.no a:=by
 refine ⟨fun m=> ?_,fun m=> ?_⟩
 ·obtain ⟨i,ei⟩:=List.getElem?_of_mem m
  have hi:i < W.length:=by rw [←S.len];exact (xe.mp ei).1
  obtain ⟨vs',⟨n,pl⟩,_⟩:=S.at_ i _ _ ei (xt hi)
  rw [e] at pl;cases pl
 ·obtain ⟨o,e'⟩:=S.ban _ m
  rw [e] at e';cases e'
theorem get?_size (h:Heap):h.get? h.objs.size=none:=by
 cases e:h.get? h.objs.size with
 | none=> rfl
 | some o=> exact absurd (Heap.lt_size e) (Nat.lt_irrefl _)
theorem zn1 {s:Shared}{W:Sto}{vs:List Value}{ps:List PV} (S:StoreOk g ad W s.heap) (r:zh g ad s.heap ps vs):
  zk g ad (s.heap.push {cls:= .type "list",data:= .seq vs.toArray}) (.lst ps) (.ref s.heap.objs.size):=by
 skip
 exact ⟨_,vs.toArray,rfl,S.fresh (get?_size _),⟨0,xj _ rfl⟩,by simpa using r.keeps fun b o e=> xb _ e⟩
theorem z4b {s:Shared}{W:Sto}{vs:List Value}{ps:List PV} (S:StoreOk g ad W s.heap) (r:zh g ad s.heap ps vs):
  zk g ad (s.heap.push {cls:= .type "tuple",data:= .seq vs.toArray}) (.tup ps) (.ref s.heap.objs.size):=by
 skip
 exact ⟨_,vs.toArray,rfl,S.fresh (get?_size _),⟨0,xj _ rfl⟩,by simpa using r.keeps fun b o e=> xb _ e⟩
end
section
variable {g:GC}{k:Nat}
theorem Qq (x:List Nat):(⟨x.toArray⟩:Str).length=x.length:=List.size_toArray
set_option tactic.hygienic true in
theorem z0 {c:Prop} [Decidable c] {α:Type}{x y:α} (e:(if c then some x else none)=some y):c∧x=y:=by
 split at e
 ·rename_i h;exact ⟨h,by simpa using e⟩
 ·cases e
set_option tactic.hygienic true in
theorem zrn {c:Prop} [Decidable c] {α:Type}{x y:α} (e:(if c then none else some x)=some y):¬c∧x=y:=by
 split at e
 ·cases e
 ·rename_i h;exact ⟨h,by simpa using e⟩
theorem z35:Op2 g k (binaryOp .Sub) jb:=by
 intro A s ad W pa pb pv a b hr kin top S ra rb e E
 exact Ops.ok z6e e ra rb (ss:=n4) (ll:=n2) (bi:=n3) (ib:=n3) (si:=n4) (Q:=BQ g ad A s E pv (binaryOp .Sub)) (ii:=fun x y t u=> bs (sub_int' ⟨Gr.tok s _,Jy⟩)) (ff:=fun x y t u=> bs (AutoFloatOps.sub_0 ⟨Gr.tok s _,zed⟩))
  (fi:=fun x y t u=> bn fun h1=> AutoFloatOps.sub_fi_1 h1 ⟨Gr.tok s _,zed⟩) (jf:=fun x y t u=> bn fun h1=> AutoFloatOps.sub_if_1 h1 ⟨Gr.tok s _,zed⟩)
theorem z3z:Op2 g k (binaryOp .Add) zx:=by
 intro A s ad W pa pb pv a b hr kin top S ra rb e E
 refine Ops.ok z59 e ra rb (ib:=n3) (si:=n4) (Q:=BQ g ad A s E pv (binaryOp .Add)) (ii:=fun x y t u=> bs (wpAny_add_int ⟨Gr.tok s _,Jy⟩)) (ff:=fun x y t u=> bs (AutoFloatOps.add_0 ⟨Gr.tok s _,zed⟩))
  (fi:=fun x y t u=> bn fun h1=> AutoFloatOps.add_fi_1 h1 ⟨Gr.tok s _,zed⟩) (jf:=fun x y t u=> bn fun h1=> AutoFloatOps.add_if_1 h1 ⟨Gr.tok s _,zed⟩)
  (bi:=fun x y u=> bs (IntBool.add_bool_int ⟨Gr.tok s _,Jy⟩)) (ss:=fun x y t u=> bi fun h1=> ?_) (ll:=fun x y e ra rb=> bi (x:= .lst (x ++ y)) (fun h1=> ?_) e)
 ·refine PyProof.Rows.add_str (fun t' tk=> ⟨Gr.tok s _,ze0 ?_⟩) (by rw [Qq,Qq];exact zy h1)
  exact congrArg Str.mk (List.append_toArray x y)
 ·obtain ⟨p,vs,rfl,_,⟨n,ho⟩,r1⟩:=ra.lst_inv;obtain ⟨q,us,rfl,_,⟨n2,ho2⟩,r2⟩:=rb.lst_inv
  refine concat_meets ⟨_,ho,rfl⟩ ⟨_,ho2,rfl⟩ noFill_list_add seq_list_add PySem.F.slot_list_add PySem.F.entry_list_add (PySem.F.args_list_add_2 _ _) (list_addW p q vs us n n2 _ _ _ _ (by rw [←Array.length_toList,←Array.length_toList,←r1.length,←r2.length];exact zy h1)) ⟨ho,ho2, ?_⟩
  have:=zn1 S (r1.append r2)
  rw [show (vs.toList ++ us.toList).toArray=vs ++ us by simp] at this
  exact ⟨Gr.push s _ _,this⟩
theorem z0w (n:Nat) (l:List Nat):(List.replicate n l.toArray).foldl (· ++ ·) #[]=(zn3 n l).toArray:=by
 have gen:∀ (n:Nat) (acc:Array Nat),(List.replicate n l.toArray).foldl (· ++ ·) acc=acc ++ (zn3 n l).toArray:=by
  intro n
  induction n with
  | zero=> intro acc;simp [zn3]
  | succ n ih=> intro acc;rw [List.replicate_succ,List.foldl_cons,ih];simp [zn3,List.replicate_succ,Array.append_assoc]
 simpa using gen n #[]
set_option tactic.hygienic true in
theorem z33:Op2 g k (binaryOp .Mult) j3:=by
 intro A s ad W pa pb pv a b hr kin top S ra rb e E
 refine Ops.ok z6c e ra rb (ss:=n4) (ll:=n2) (bi:=n3) (Q:=BQ g ad A s E pv (binaryOp .Mult)) (ii:=fun x y t u=> bi fun h1=> mul_int ⟨Gr.tok s _,Jy⟩ ((Bool.or_eq_true_iff.mp h1).elim (fun h1=> IntMulOk.of_left (zc1 h1)) fun h1=> IntMulOk.of_right (zc1 h1)))
  (ib:=fun x y t=> bs (IntBool.mul_int_bool ⟨Gr.tok s _,Jy⟩)) (ff:=fun x y t u=> bs (AutoFloatOps.mul_0 ⟨Gr.tok s _,zed⟩))
  (fi:=fun x y t u=> bn fun h1=> AutoFloatOps.mul_fi_1 h1 ⟨Gr.tok s _,zed⟩) (jf:=fun x y t u=> bn fun h1=> AutoFloatOps.mul_if_1 h1 ⟨Gr.tok s _,zed⟩) (si:=fun x n t u=> bi fun h1=> ?_)
 rw [xi,xi,decide_eq_true_eq,decide_eq_true_eq,decide_eq_true_eq] at h1
 obtain ⟨⟨h1,h2⟩,h3⟩:=h1
 have hm:MulOk ⟨x.toArray⟩ n:=mulOk_of 1000 1000 (by rw [Qq];exact h1) h3 (by lia) (by decide) (by decide)
 refine P.mul_str hm.1 hm.2.1 hm.2.2 ?_
 by_cases c1:n < 1
 ·rw [if_pos c1,show n.toNat=0 by lia]
  exact ⟨by decide,Gr.tok s _,ze0 rfl⟩
 ·rw [if_neg c1]
  split
  ·rename_i c2
   refine ⟨Gr.refl s,ze0 ?_⟩
   rcases Bool.or_eq_true_iff.mp c2 with c2 | c2
   ·cases eq_of_beq c2
    exact congrArg (fun l=> Str.mk (List.toArray l)) (List.append_nil x).symm
   ·have c2:=eq_of_beq c2
    rw [Qq] at c2
    cases List.length_eq_zero_iff.mp c2
    simp [zn3]
  ·rw [show (⟨x.toArray⟩:Str).cps=x.toArray from rfl,z0w]
   refine ⟨?_,Gr.tok s _,ze0 rfl⟩
   have:(zn3 n.toNat x).length=n.toNat * x.length:=by simp [zn3]
   have h5:n.toNat * x.length≤1000 * 1000:=Nat.mul_le_mul (by lia) h1
   rw [sizeLine_eq,Qq,this];lia
theorem z30:Op2 g k (binaryOp .Div) zqd:=by
 intro A s ad W pa pb pv a b hr kin top S ra rb e E
 have o {x y:Bool} (h:¬(x || y)=true):¬x=true∧¬y=true:=by rwa [Bool.or_eq_true,not_or] at h
 exact Ops.ok z6a e ra rb (ss:=n4) (ll:=n2) (bi:=n3) (ib:=n3) (si:=n4) (Q:=BQ g ad A s E pv (binaryOp .Div)) (ii:=fun x y t u=> bn fun h1=> PySem.Flt.div_ii_fits hr.handled (by lia) (fun h0=> absurd (Or.inl h0) h1) (fun V V=> ⟨Gr.tok s _,zed⟩))
  (ff:=fun x y t u=> bn fun h1=> AutoFloatOps.truediv_1 h1 ⟨Gr.tok s _,zed⟩) (fi:=fun x y t u=> bn fun h1=> AutoFloatOps.truediv_fi_2 (o h1).1 (o h1).2 ⟨Gr.tok s _,zed⟩)
  (jf:=fun x y t u=> bn fun h1=> AutoFloatOps.truediv_if_2 (o h1).1 (o h1).2 ⟨Gr.tok s _,zed⟩)
theorem z0b:Op2 g k (binaryOp .FloorDiv) zo:=by
 intro A s ad W pa pb pv a b hr kin top S ra rb e E
 exact Ops.ok z1n e ra rb (ff:=n4) (fi:=n4) (jf:=n4) (ss:=n4) (ll:=n2) (bi:=n3) (ib:=n3) (si:=n4) (Q:=BQ g ad A s E pv (binaryOp .FloorDiv)) (ii:=fun x y t u=> bi fun h1=> floordiv_int h1.1 ⟨Gr.tok s _,Jy⟩ (.inl (PyProof.noPylong_small h1.2)))
theorem z32:Op2 g k (binaryOp .Mod) jt:=by
 intro A s ad W pa pb pv a b hr kin top S ra rb e E
 exact Ops.ok z6b e ra rb (fi:=n4) (jf:=n4) (ss:=n4) (ll:=n2) (bi:=n3) (ib:=n3) (si:=n4) (Q:=BQ g ad A s E pv (binaryOp .Mod)) (ii:=fun x y t u=> bn fun h1=> mod_int' h1 ⟨Gr.tok s _,Jy⟩) (ff:=fun x y t u=> bn fun h1=> AutoFloatOps.mod_1 h1 ⟨Gr.tok s _,zed⟩)
theorem z34:Op2 g k (binaryOp .Pow) Qc:=by
 intro A s ad W pa pb pv a b hr kin top S ra rb e E
 exact Ops.ok z6d e ra rb (ff:=n4) (fi:=n4) (jf:=n4) (ss:=n4) (ll:=n2) (bi:=n3) (ib:=n3) (si:=n4) (Q:=BQ g ad A s E pv (binaryOp .Pow)) (ii:=fun x y t u=> bi fun h1=> pow_int h1.1 h1.2 ⟨Gr.tok s _,Jy⟩)
end
end
section
theorem z6f {prog:Program}{w:World}{A:Around}{E:Value→Shared→Prop}{s:Shared}{Q:Value→Shared→Prop}{a b:Value}{k:Bool} (h:SeqAt.RcAt A s a b k) (hq:Q (.bool k) s):wpAny (model prog w) A (compareOp .Eq a b) Q E s:=h prog w E Q hq
theorem zz6 {prog:Program}{w:World}{A:Around}{E:Value→Shared→Prop}{s:Shared}{Q:Value→Shared→Prop}{a b:Value}{k:Bool} (h:SeqAt.RcNeAt A s a b k) (hq:Q (.bool k) s):wpAny (model prog w) A (compareOp .NotEq a b) Q E s:=h prog w E Q hq
section
variable {g:GC}{k:Nat}
theorem zxb:Op2 g k (compareOp .Eq) zv:=by
 intro A s ad W pa pb pv a b hr kin top S ra rb e E
 obtain ⟨c,e0,rfl⟩:=xh.mp e
 refine zrg e0 (C:=fun pa pb c'=> zk g ad s.heap pa a→zk g ad s.heap pb b→BQ g ad A s E (.bool c') (compareOp .Eq) a b) ?_ ?_ ?_ ra rb
 ·intro x y ra rb;obtain ⟨t,rfl⟩:=ra.flt_inv;obtain ⟨u,rfl⟩:=rb.flt_inv;exact AutoFloatOps.eq_0 ⟨Gr.refl s,Qw⟩
 ·intro x y ra rb;obtain ⟨t,rfl⟩:=ra.int_inv;obtain ⟨u,rfl⟩:=rb.flt_inv;exact eq_if ⟨Gr.refl s,Qw⟩
 ·exact fun h1 h2 h3 e0 ra rb=> z6f (zjf (g:=g) (ad:=⟨[],[]⟩) 100 _ _ A s a b c h3 (by have:=hr.units;lia) (ra.dr S h1) (rb.dr S h2) e0).1 ⟨Gr.refl s,Qw⟩
theorem z56 (p q:PV) (A:Around) (s:Shared) (u v:Value) (c:Bool) (hd:js p≤100) (hu:A.units + 100≤9500) (r:zk g ⟨[],[]⟩ s.heap p u) (r':zk g ⟨[],[]⟩ s.heap q v) (e:pEq p q=some c):SeqAt.RcNeAt A s u v (!c):=by
 have hcl:A.units < cLine:=Nat.lt_of_le_of_lt (Nat.le_of_add_right_le hu) (by decide)
 have H:∀ (a b:List PV),j0 a + 1≤100→Jh a b=some c→∀ {vs us:Array Value},zh g ⟨[],[]⟩ s.heap a vs.toList→zh g ⟨[],[]⟩ s.heap b us.toList→∀ j (h1:j < vs.size) (h2:j < us.size),SeqAt.EqAt A.in1 s vs[j] us[j] (eqJ a b j):=
  fun a b hd e vs us r r'=> zm4 (fun p q u v c hd r r' e=> (zjf (g:=g) 99 p q A.in1 s u v c hd (zjm hu) r r' e).2) (Nat.le_of_succ_le_succ hd) r r' e
 refine zl0 e (C:=fun p q c'=> js p≤100→zk g ⟨[],[]⟩ s.heap p u→zk g ⟨[],[]⟩ s.heap q v→SeqAt.RcNeAt A s u v (!c')) ?_ ?_ ?_ ?_ ?_ ?_ ?_ hd r r'
 ·intro a b _ r r';obtain ⟨t,rfl⟩:=r.int_inv;obtain ⟨u,rfl⟩:=r'.int_inv;exact SeqAt.RcNeAt.int_int _ _ _ _
 ·intro a b _ r r';cases r.bool_inv;cases r'.bool_inv;exact SeqAt.RcNeAt.bool_bool _ _
 ·intro a b _ r r';obtain ⟨t,rfl⟩:=r.str_inv;obtain ⟨u,rfl⟩:=r'.str_inv
  rw [show (a==b)=((⟨a.toArray⟩:Str)==⟨b.toArray⟩) by rw [←SeqAt.str_beq]]
  exact SeqAt.RcNeAt.str_str _ _ _ _
 ·intro _ r r';cases r.none_inv;cases r'.none_inv;exact SeqAt.RcNeAt.none_none
 ·intro a b _ r r';obtain ⟨t,rfl⟩:=r.flt_inv;obtain ⟨u,rfl⟩:=r'.int_inv;exact fun V V V V h=> ne_fi h
 ·intro a b e hd r r'
  obtain ⟨x,vs,rfl,_,⟨m,ho⟩,r⟩:=r.tup_inv;obtain ⟨y,us,rfl,_,⟨m',ho'⟩,r'⟩:=r'.tup_inv
  have key:=SeqAt.RcNeAt.tuples ⟨_,ho,rfl,m,rfl⟩ ⟨_,ho',rfl,m',rfl⟩ hcl (H a b hd e r r')
  rwa [zrf r.size r'.size e] at key
 ·intro a b e hd r r'
  obtain ⟨x,vs,rfl,_,ho,r⟩:=r.lst_inv;obtain ⟨y,us,rfl,_,ho',r'⟩:=r'.lst_inv
  by_cases hl:a.length=b.length
  ·have key:=SeqAt.RcNeAt.lists ho.isList ho'.isList (r.size.symm.trans (hl.trans r'.size)) hcl (H a b hd e r r')
   rwa [←r.size,zd8 a b c e hl] at key
  ·rw [zd9 a b c e hl]
   exact SeqAt.RcNeAt.lists_lengths ho.isList ho'.isList (bne_iff_ne.mpr fun h=> hl (r.size.trans (h.trans r'.size.symm))) hcl
theorem zxc:Op2 g k (compareOp .NotEq) qr:=by
 intro A s ad W pa pb pv a b hr kin top S ra rb e E
 obtain ⟨c,e0,rfl⟩:=xh.mp e
 refine zrg e0 (C:=fun pa pb c'=> zk g ad s.heap pa a→zk g ad s.heap pb b→BQ g ad A s E (.bool (!c')) (compareOp .NotEq) a b) ?_ ?_ ?_ ra rb
 ·intro x y ra rb;obtain ⟨t,rfl⟩:=ra.flt_inv;obtain ⟨u,rfl⟩:=rb.flt_inv;exact AutoFloatOps.ne_0 ⟨Gr.refl s,Qw⟩
 ·intro x y ra rb;obtain ⟨t,rfl⟩:=ra.int_inv;obtain ⟨u,rfl⟩:=rb.flt_inv;exact ne_if ⟨Gr.refl s,Qw⟩
 ·exact fun h1 h2 h3 e0 ra rb=> zz6 (z56 (g:=g) _ _ A s a b c h3 (by have:=hr.units;lia) (ra.dr S h1) (rb.dr S h2) e0) ⟨Gr.refl s,Qw⟩
noncomputable def oLt:Ops where
 ii a b:=some (.bool (decide (a < b)))
def pLt (_:Sto) (a b:PV):Option PV:=oLt.app a b
noncomputable def oLe:Ops where
 ii a b:=some (.bool (decide (a≤b)))
 ss a b:=some (.bool (!decide (b < a)))
def pLe (_:Sto) (a b:PV):Option PV:=oLe.app a b
noncomputable def oGe:Ops where
 ii a b:=some (.bool (decide (b≤a)))
def pGe (_:Sto) (a b:PV):Option PV:=oGe.app a b
theorem z6j:Op2 g k (compareOp .Lt) pLt:=fun A s ad W pa pb pv a b hr kin top S ra rb e E=> Ops.ok oLt e ra rb (ff:=n4) (fi:=n4) (jf:=n4) (ss:=n4) (ll:=n2) (bi:=n3) (ib:=n3) (si:=n4) (Q:=BQ g ad A s E pv (compareOp .Lt)) (ii:=fun x y t u=> bs (lt_int ⟨Gr.refl s,Qw⟩))
theorem z6g:Op2 g k (compareOp .GtE) pGe:=fun A s ad W pa pb pv a b hr kin top S ra rb e E=> Ops.ok oGe e ra rb (ff:=n4) (fi:=n4) (jf:=n4) (ss:=n4) (ll:=n2) (bi:=n3) (ib:=n3) (si:=n4) (Q:=BQ g ad A s E pv (compareOp .GtE)) (ii:=fun x y t u=> bs (ge_int ⟨Gr.refl s,Qw⟩))
theorem z6i:Op2 g k (compareOp .LtE) pLe:=fun A s ad W pa pb pv a b hr kin top S ra rb e E=> Ops.ok oLe e ra rb (ff:=n4) (fi:=n4) (jf:=n4) (ll:=n2) (bi:=n3) (ib:=n3) (si:=n4) (Q:=BQ g ad A s E pv (compareOp .LtE)) (ii:=fun x y t u=> bs (le_int ⟨Gr.refl s,Qw⟩))
 (ss:=fun x y t u=> bs (P.le_str ⟨Gr.refl s,by simpa using Qw⟩))
noncomputable def zwn:PV→Bool
 | .str _=> true
 | _=> false
noncomputable def zv5 (x:List Nat):PV→Bool
 | .str y=> y==x
 | _=> false
noncomputable def inL (l:List Nat):List Nat→Option Bool
 | [c]=> some (l.contains c)
 | _=> none
def zxj (W:Sto) (a b:PV):Option Bool:=match a with
 | .str x=> match dr W b with
  | .str l=> inL l x
  | .lst l=> if l.all zwn then some (l.any (zv5 x)) else none
  | _=> none
 | _=> none
def pIn (W:Sto) (a b:PV):Option PV:=(zxj W a b).map .bool
def zdl (W:Sto) (a b:PV):Option PV:=(zxj W a b).map fun x=> .bool (!x)
theorem zpf {W:Sto}{p:PV}{l:List Nat} (e:dr W p= .str l):p= .str l:=by
 cases p with
 | mref i=> cases h:W[i]? <;> rw [ze9 h] at e <;> exact nomatch e
 | _=> exact e
theorem zk.dr_lst {s:Shared}{ad:AD}{W:Sto}{p:PV}{v:Value}{l:List PV} (S:StoreOk g ad W s.heap) (r:zk g ad s.heap p v) (e:Mine.dr W p= .lst l):∃ q vs,v= .ref q∧s.heap.PlainList q vs∧zh g ad s.heap l vs.toList:=by
 cases p with
 | lst l'=> cases e;obtain ⟨q,vs,rfl,_,hl,r⟩:=r.lst_inv;exact ⟨q,vs,rfl,hl,r⟩
 | mref i=>
  cases h:W[i]? with
  | none=> rw [ze9 h] at e;exact nomatch e
  | some l'=>
   rw [ze9 h] at e;cases e
   obtain ⟨q,rfl,ea⟩:∃ a,v= .ref a∧ad.m[i]? =some a:=r
   obtain ⟨vs,pl,r⟩:=S.at_ i q _ ea h
   exact ⟨q,vs,rfl,pl,r⟩
 | _=> exact nomatch e
theorem zzp {W:Sto}{a b:PV}{c:Bool} (e:zxj W a b=some c):∃ x,a= .str x∧((∃ ch l,x=[ch]∧dr W b= .str l∧l.contains ch=c)∨∃ l,dr W b= .lst l∧l.all zwn=true∧l.any (zv5 x)=c):=by
 have no:∀ {C:Prop},(none:Option Bool)=some c→C:=fun e=> nomatch e
 cases a with
 | str x=>
  have e:(match dr W b with | .str l=> inL l x | .lst l=> if l.all zwn=true then some (l.any (zv5 x)) else none | _=> none)=some c:=e
  refine ⟨x,rfl, ?_⟩
  cases h:dr W b with
  | str l=>
   rw [h] at e
   cases x with
   | nil=> exact no e
   | cons ch x=> cases x with
    | nil=> exact .inl ⟨ch,l,rfl,rfl,Option.some.inj e⟩
    | cons _ _=> exact no e
  | lst l=> rw [h] at e;obtain ⟨h1,h2⟩:=z0 e;exact .inr ⟨l,rfl,h1,h2⟩
  | _=> rw [h] at e;exact no e
 | _=> exact no e
noncomputable def z1h (x:Str):Value→Bool
 | .str y _=> y==x
 | _=> false
theorem zkb {A:Around}{s:Shared}{ad:AD}{x:List Nat}{t:Tok}:∀ {l:List PV}{us:List Value},zh g ad s.heap l us→l.all zwn=true→
  (∀ y∈us,SeqAt.EqAt A s y (.str ⟨x.toArray⟩ t) (z1h ⟨x.toArray⟩ y))∧us.any (z1h ⟨x.toArray⟩)=l.any (zv5 x)
 | [],us,r,_=> by cases r.inv_nil;exact ⟨fun V h=> absurd h ya,rfl⟩
 | p::ps,us,r,h=> by
  obtain ⟨u,us',rfl,r1,r2⟩:=r.inv_cons
  obtain ⟨hp,h⟩:=Bool.and_eq_true_iff.mp (List.all_cons▸h)
  obtain ⟨i1,i2⟩:=zkb (x:=x) (t:=t) (A:=A) r2 h
  cases p with
  | str z=>
   obtain ⟨t',rfl⟩:=r1.str_inv
   refine ⟨fun y hy=> (List.mem_cons.mp hy).elim (fun e=> e▸SeqAt.EqAt.str_str _ _ _ _) (i1 y), ?_⟩
   rw [List.any_cons,List.any_cons,i2]
   exact congrArg (· || _) (show ((⟨z.toArray⟩:Str)==⟨x.toArray⟩)=(z==x) by rw [←SeqAt.str_beq])
  | _=> exact (xy hp).elim
theorem znb {A:Around}{s:Shared}{ad:AD}{W:Sto}{pa pb:PV}{c:Bool}{a b:Value} (S:StoreOk g ad W s.heap) (ra:zk g ad s.heap pa a) (rb:zk g ad s.heap pb b) (e:zxj W pa pb=some c):
  (∃ x t y u,b= .str x t∧a= .str y u∧(!(Builtin.Str.occurrences x y 0 x.length 1).isEmpty)=c)∨
  (∃ l items f,b= .ref l∧s.heap.IsList l items∧(∀ y,y∈items→SeqAt.EqAt A.in1 s y a (f y))∧items.any f=c):=by
 obtain ⟨x,rfl,⟨ch,l,rfl,e1,rfl⟩ | ⟨l,e1,h1,rfl⟩⟩:=zzp e
 ·cases zpf e1
  obtain ⟨t,rfl⟩:=ra.str_inv;obtain ⟨u,rfl⟩:=rb.str_inv
  refine .inl ⟨_,_,_,_,rfl,rfl, ?_⟩
  show (!(Builtin.Str.occurrences ⟨l.toArray⟩ ⟨#[ch]⟩ 0 _ 1).isEmpty)=_
  rw [StrLaws.found_one]
  simp
 ·refine bc fun J=> ?_
  obtain ⟨q,vs,rfl,hl,r⟩:=rb.dr_lst S e1
  obtain ⟨t,rfl⟩:=ra.str_inv
  obtain ⟨i1,i2⟩:=zkb (x:=x) (t:=t) (A:=A.in1) r h1
  refine J ?_
  exact .inr ⟨q,vs,_,rfl,hl.isList,fun y hy=> i1 y (Array.mem_toList_iff.mpr hy),Array.any_toList.symm.trans i2⟩
theorem z6h:Op2 g k (compareOp .In) pIn:=by
 intro A s ad W pa pb pv a b hr kin top S ra rb e E
 obtain ⟨c,e0,rfl⟩:=xh.mp e
 rcases znb (A:=A) S ra rb e0 with ⟨x,t,y,u,rfl,rfl,rfl⟩ | ⟨l,items,f,rfl,hl,he,rfl⟩
 ·exact PyProof.Rows.in_str ⟨Gr.refl s,Qw⟩
 ·exact SeqAt.in_listAt f hl he ⟨Gr.refl s,Qw⟩
theorem zxd:Op2 g k (compareOp .NotIn) zdl:=by
 intro A s ad W pa pb pv a b hr kin top S ra rb e E
 obtain ⟨c,e0,rfl⟩:=xh.mp e
 rcases znb (A:=A) S ra rb e0 with ⟨x,t,y,u,rfl,rfl,rfl⟩ | ⟨l,items,f,rfl,hl,he,rfl⟩
 ·exact PyProof.Rows.notIn_str ⟨Gr.refl s,Qw⟩
 ·exact SeqAt.notIn_listAt f hl he ⟨Gr.refl s,Qw⟩
end
end
section
noncomputable def jm:List Den→Ren→Sto→Option (List PV)
 | [],_,_=> some []
 | f::fs,U,W=> match f U W,jm fs U W with
  | some p,some ps=> some (p::ps)
  | _,_=> none
noncomputable def jl (g:GC) (nm:Nat→Str) (k:Nat) (sc:Scope) (es:List Expr) (fs:List Den):Prop:=
 ∀ (bp:Pos) (A:Around) (env:Env) (s:Shared) (ad:AD) (U:Ren) (W:Sto) (pvs:List PV),Room k A→ES env sc→Cx g nm env ad U W s.heap→jm fs U W=some pvs→
  ∀ E,wpAny (model g.prog g.w) A (spliced (backTo bp (starEach es env))) (fun vs s'=> Gr s s'∧zh g ad s'.heap pvs vs) E s
section
variable {g:GC}{nm:Nat→Str}{k:Nat}{sc:Scope}
theorem jl.nil:jl g nm k sc [] []:=by
 intro bp A env s ad U W pvs hr he hx hp E
 cases si hp
 exact Calls.spliced_nil ⟨Gr.refl s,.nil⟩
theorem Zo {f:Den}{fs:List Den}{U:Ren}{W:Sto}{pvs:List PV} (h:jm (f::fs) U W=some pvs):∃ p ps,pvs=p::ps∧f U W=some p∧jm fs U W=some ps:=by
 have h:(match f U W,jm fs U W with | some p,some ps=> some (p::ps) | _,_=> none)=some pvs:=h
 generalize f U W=o at h⊢
 generalize jm fs U W=o2 at h⊢
 cases o with
 | none=> exact nn h
 | some p=>
  cases o2 with
  | none=> exact nn h
  | some ps=> exact ⟨p,ps,(Option.some.inj h).symm,rfl,rfl⟩
theorem zt {f:Den}{fs:List Den}{U:Ren}{W:Sto}{p:PV}{ps:List PV} (h:f U W=some p) (hs:jm fs U W=some ps):jm (f::fs) U W=some (p::ps):=by
 show (match f U W,jm fs U W with | some p,some ps=> some (p::ps) | _,_=> none)=_
 rw [h,hs]
theorem jl.cons {e:Expr}{es:List Expr}{f:Den}{fs:List Den} (h:Snd g nm k sc e f) (hs:jl g nm k sc es fs) (he':∀ env,starEach (e::es) env=(false,eval e env)::starEach es env):jl g nm k sc (e::es) (f::fs):=by
 intro bp A env s ad U W pvs hr he hx hp E
 refine bc fun J=> ?_
 obtain ⟨p,ps,rfl,e1,e2⟩:=Zo hp
 refine J ?_
 rw [he']
 show wpAny _ A (spliced ((false,eval e env)::backTo bp (starEach es env))) _ E s
 refine Calls.spliced_cons (xp (h A env s ad U W p hr he hx e1 E) (fun v s₁ h₁=> ?_) fun V V x=> x)
 exact xp (hs bp A env s₁ ad U W ps hr he (hx.keeps h₁.1.h) e2 E) (fun vs s₂ h₂=> ⟨h₁.1.trans h₂.1,.cons (h₁.2.keeps h₂.1.h) h₂.2⟩) fun V V x=> x
def qy (fs:List Den):Den:=fun U W=> match jm fs U W with | some l=> if ze l.length then some (.tup l) else none | none=> none
def zpd (fs:List Den):Den:=fun U W=> match jm fs U W with | some l=> if ze l.length then some (.lst l) else none | none=> none
theorem Snd.tup {es:List Expr}{fs:List Den}{x:Nat}{pos:Pos} (h:jl g nm k sc es fs):Snd g nm k sc (.Tuple es x pos) (qy fs):=by
 intro A env s ad U W pv hr he hx hp E
 unfold qy at hp
 cases e:jm fs U W with
 | none=> rw [e] at hp;exact nn hp
 | some l=>
  rw [e] at hp;obtain ⟨h1,rfl⟩:=z0 hp
  refine wpAny_Tuple (xp (h pos A env s ad U W l hr he hx e E) (fun vs s₁ h₁=> ?_) fun V V x=> x)
  exact ⟨by rw [←h₁.2.length];exact zy h1,h₁.1.trans (Gr.push s₁ _ _),z4b (hx.keeps h₁.1.h).sto h₁.2⟩
theorem Snd.lst {es:List Expr}{fs:List Den}{pos:Pos} (h:jl g nm k sc es fs):Snd g nm k sc (.List es pos) (zpd fs):=by
 intro A env s ad U W pv hr he hx hp E
 unfold zpd at hp
 cases e:jm fs U W with
 | none=> rw [e] at hp;exact nn hp
 | some l=>
  rw [e] at hp;obtain ⟨h1,rfl⟩:=z0 hp
  refine wpAny_List (xp (h pos A env s ad U W l hr he hx e E) (fun vs s₁ h₁=> ?_) fun V V x=> x)
  exact ⟨by rw [←h₁.2.length];exact zy h1,h₁.1.trans (Gr.push s₁ _ _),zn1 (hx.keeps h₁.1.h).sto h₁.2⟩
abbrev q7:=Ren→Sto→Option Bool
noncomputable def ST (g:GC) (nm:Nat→Str) (k:Nat) (sc:Scope) (e:Expr) (f:q7):Prop:=
 ∀ (A:Around) (env:Env) (s:Shared) (ad:AD) (U:Ren) (W:Sto) (b:Bool),Room k A→ES env sc→Cx g nm env ad U W s.heap→f U W=some b→
  ∀ E,wpAny (model g.prog g.w) A (isTrue e env (eval e env)) (fun c s'=> Gr s s'∧c=b) E s
def tr0 (q:PV):Option Bool:=match q with
 | .none=> some false
 | .bool b=> some b
 | .int i=> some (i !=0)
 | .str s=> if ze s.length then some (s.length !=0) else none
 | .lst l=> if ze l.length then some (l.length !=0) else none
 | _=> none
def pTr (W:Sto) (p:PV):Option Bool:=tr0 (dr W p)
def tOf (f:Den):q7:=fun U W=> match f U W with | some p=> pTr W p | none=> none
theorem z3s (n:Nat):(((n:Nat):Int) !=0)=(n !=0):=by cases n <;> rfl
theorem zkf {A:Around}{s:Shared}{ad:AD}{W:Sto}{p:PV}{v:Value}{b:Bool} (S:StoreOk g ad W s.heap) (r:zk g ad s.heap p v) (e:pTr W p=some b) (E:Value→Shared→Prop):
  wpAny (model g.prog g.w) A (truthy v) (fun c s'=> Gr s s'∧c=b) E s:=by
 have lists:∀ {l:List PV},dr W p= .lst l→(if ze l.length then some (l.length !=0) else none)=some b→wpAny (model g.prog g.w) A (truthy v) (fun c s'=> Gr s s'∧c=b) E s:=fun {l} el e=> by
  obtain ⟨a,vs,rfl,pl,rs⟩:=r.dr_lst S el
  obtain ⟨h1,rfl⟩:=z0 e
  rw [rs.size] at h1⊢
  have h2:=zy h1
  rw [sizeLine_eq] at h2
  exact wpAny_truthy_list pl.isList (Int.lt_of_le_of_lt (Int.ofNat_le.mpr h2) (by decide)) ⟨Gr.tok s _,by cases h:vs.size <;> simp [Array.isEmpty,h]⟩
 cases p with
 | none=> cases r.none_inv;cases si e;exact truthy_none ⟨Gr.refl s,rfl⟩
 | bool c=> cases r.bool_inv;cases si e;exact wpAny_truthy_bool ⟨Gr.refl s,rfl⟩
 | int i=> obtain ⟨t,rfl⟩:=r.int_inv;cases si e;exact PyProof.Rows.truthy_int ⟨Gr.refl s,rfl⟩
 | str l=>
  obtain ⟨t,rfl⟩:=r.str_inv;obtain ⟨h1,rfl⟩:=z0 e
  have h2:=zy h1
  rw [sizeLine_eq] at h2
  refine P.truthy_str (by rw [Qq];lia) ⟨Gr.tok s _, ?_⟩
  rw [Qq];exact z3s _
 | lst l=> exact lists rfl e
 | mref i=>
  have e:tr0 (dr W (.mref i))=some b:=e
  cases h:W[i]? with
  | none=> rw [ze9 h] at e;exact nn e
  | some l=> rw [ze9 h] at e;exact lists (ze9 h) e
 | _=> exact nn e
theorem ST.of {e:Expr}{f:Den} (h:Snd g nm k sc e f) (he':∀ env whole,isTrue e env whole=(do let v←whole;standAt e.pos;holding [v] (truthy v))):ST g nm k sc e (tOf f):=by
 intro A env s ad U W b hr he hx hp E
 unfold tOf at hp
 cases e1:f U W with
 | none=> rw [e1] at hp;exact nn hp
 | some p=>
  rw [e1] at hp
  refine wpAny_isTrue_value (xp (h A env s ad U W p hr he hx e1 E) (fun v s₁ h₁=> ?_) fun V V x=> x) (he' _ _)
  exact xp (zkf (hx.keeps h₁.1.h).sto h₁.2 hp E) (fun c s₂ h₂=> ⟨h₁.1.trans h₂.1,h₂.2⟩) fun V V x=> x
theorem zv7 {l r:Expr}{f f':Den}{A:Around}{env:Env}{s:Shared}{ad:AD}{U:Ren}{W:Sto}{a b:PV}{R:Value→Value→Shared→Prop}{E:Value→Shared→Prop}
  (hl:Snd g nm k sc l f) (hr':Snd g nm k sc r f') (hr:Room k A) (he:ES env sc) (hx:Cx g nm env ad U W s.heap) (ea:f U W=some a) (eb:f' U W=some b)
  (h:∀ va vb s',Gr s s'→Cx g nm env ad U W s'.heap→zk g ad s'.heap a va→zk g ad s'.heap b vb→R va vb s'):
  wpAny (model g.prog g.w) A (eval l env) (fun va s₁=> wpAny (model g.prog g.w) A (eval r env) (fun vb s₂=> R va vb s₂) E s₁) E s:=by
 refine xp (hl A env s ad U W a hr he hx ea E) (fun va s₁ h₁=> ?_) fun V V x=> x
 obtain ⟨k1,r1⟩:=h₁
 refine xp (hr' A env s₁ ad U W b hr he (hx.keeps k1.h) eb E) (fun vb s₂ h₂=> ?_) fun V V x=> x
 obtain ⟨k2,r2⟩:=h₂
 exact h va vb s₂ (k1.trans k2) ((hx.keeps k1.h).keeps k2.h) (r1.keeps k2.h) r2
theorem ST.cmp {l r:Expr}{o:CmpOp}{pos:Pos}{f f':Den}{op:Sto→PV→PV→Option PV} (ho:Op2 g k (compareOp o) op) (hl:Snd g nm k sc l f) (hr':Snd g nm k sc r f') (hm:behindInMarks o r=false):
  ST g nm k sc (.Compare l [o] [r] pos) (tOf (d2 op f f')):=by
 intro A env s ad U W c hr he hx hp E
 unfold tOf at hp
 cases e1:d2 op f f' U W with
 | none=> rw [e1] at hp;exact nn hp
 | some pv=>
 rw [e1] at hp
 refine bc fun J=> ?_
 obtain ⟨a,b,ea,eb,e⟩:=zfz e1
 refine J ?_
 refine wpAny_isTrue_Compare1 (zv7 hl hr' hr he hx ea eb fun va vb s' k' x' r1 r2=> ?_) hm
 refine xp (ho A s' ad W a b pv va vb hr x'.kin x'.top x'.sto r1 r2 e E) (fun v s'' q=> ?_) fun V V x=> x
 exact xp (zkf (x'.keeps q.1.h).sto q.2 hp E) (fun c s₂ h₂=> ⟨(k'.trans q.1).trans h₂.1,h₂.2⟩) fun V V x=> x
noncomputable def ze2 (f:q7):q7:=fun U W=> (f U W).map (!·)
theorem ST.not {x:Expr}{pos:Pos}{f:q7} (h:ST g nm k sc x f):ST g nm k sc (.UnaryOp .Not x pos) (ze2 f):=by
 intro A env s ad U W b hr he hx hp E
 unfold ze2 at hp
 cases e1:f U W with
 | none=> rw [e1] at hp;exact nn hp
 | some c=>
  rw [e1] at hp;cases si hp
  exact wpAny_isTrue_Not (xp (h A env s ad U W c hr he hx e1 E) (fun c' s₁ h₁=> ⟨h₁.1,by rw [h₁.2]⟩) fun V V x=> x)
noncomputable def Zz (f f':q7):q7:=fun U W=> match f U W with | some true=> f' U W | some false=> some false | none=> none
noncomputable def tOr (f f':q7):q7:=fun U W=> match f U W with | some false=> f' U W | some true=> some true | none=> none
noncomputable def SA (g:GC) (nm:Nat→Str) (k:Nat) (sc:Scope) (op:BoolOp) (es:List Expr) (f:q7):Prop:=
 ∀ (A:Around) (env:Env) (s:Shared) (ad:AD) (U:Ren) (W:Sto) (b:Bool),Room k A→ES env sc→Cx g nm env ad U W s.heap→f U W=some b→
  ∀ E,wpAny (model g.prog g.w) A (allTrue op es env) (fun c s'=> Gr s s'∧c=b) E s
theorem SA.nilAnd:SA g nm k sc .And [] (fun V V=> some true):=by
 intro A env s ad U W b hr he hx hp E;cases si hp;exact wpAny_allTrue_And_nil ⟨Gr.refl s,rfl⟩
theorem SA.nilOr:SA g nm k sc .Or [] (fun V V=> some false):=by
 intro A env s ad U W b hr he hx hp E;cases si hp;exact wpAny_allTrue_Or_nil ⟨Gr.refl s,rfl⟩
theorem SA.consAnd {x:Expr}{xs:List Expr}{f f':q7} (h:ST g nm k sc x f) (h':SA g nm k sc .And xs f'):SA g nm k sc .And (x::xs) (Zz f f'):=by
 intro A env s ad U W b hr he hx hp E
 rw [arm_allTrue_cons]
 unfold Zz at hp
 cases e1:f U W with
 | none=> rw [e1] at hp;exact nn hp
 | some c=>
  rw [e1] at hp
  refine xa (xp (h A env s ad U W c hr he hx e1 E) (fun c' s₁ h₁=> ?_) fun V V x=> x)
  obtain ⟨h₁,rfl⟩:=h₁
  cases c' with
  | false=> cases si hp;exact xg ⟨h₁,rfl⟩
  | true=> exact xp (h' A env s₁ ad U W b hr he (hx.keeps h₁.h) hp E) (fun c s₂ h₂=> ⟨h₁.trans h₂.1,h₂.2⟩) fun V V x=> x
theorem SA.consOr {x:Expr}{xs:List Expr}{f f':q7} (h:ST g nm k sc x f) (h':SA g nm k sc .Or xs f'):SA g nm k sc .Or (x::xs) (tOr f f'):=by
 intro A env s ad U W b hr he hx hp E
 rw [arm_allTrue_cons]
 unfold tOr at hp
 cases e1:f U W with
 | none=> rw [e1] at hp;exact nn hp
 | some c=>
  rw [e1] at hp
  refine xa (xp (h A env s ad U W c hr he hx e1 E) (fun c' s₁ h₁=> ?_) fun V V x=> x)
  obtain ⟨h₁,rfl⟩:=h₁
  cases c' with
  | true=> cases si hp;exact xg ⟨h₁,rfl⟩
  | false=> exact xp (h' A env s₁ ad U W b hr he (hx.keeps h₁.h) hp E) (fun c s₂ h₂=> ⟨h₁.trans h₂.1,h₂.2⟩) fun V V x=> x
theorem ST.bool {op:BoolOp}{xs:List Expr}{pos:Pos}{f:q7} (h:SA g nm k sc op xs f):ST g nm k sc (.BoolOp op xs pos) f:=by
 intro A env s ad U W b hr he hx hp E
 exact wpAny_isTrue_BoolOp (h A env s ad U W b hr he hx hp E)
noncomputable def dIf (t:q7) (f f':Den):Den:=fun U W=> match t U W with | some true=> f U W | some false=> f' U W | none=> none
theorem Snd.ifexp {t a b:Expr}{pos:Pos}{ft:q7}{fa fb:Den} (ht:ST g nm k sc t ft) (ha:Snd g nm k sc a fa) (hb:Snd g nm k sc b fb):Snd g nm k sc (.IfExp t a b pos) (dIf ft fa fb):=by
 intro A env s ad U W pv hr he hx hp E
 unfold dIf at hp
 cases e1:ft U W with
 | none=> rw [e1] at hp;exact nn hp
 | some c=>
  rw [e1] at hp
  refine wpAny_IfExp (xp (ht A env s ad U W c hr he hx e1 E) (fun c' s₁ h₁=> ?_) fun V V x=> x)
  obtain ⟨h₁,rfl⟩:=h₁
  cases c' with
  | true=> exact xp (ha A env s₁ ad U W pv hr he (hx.keeps h₁.h) hp E) (fun c s₂ h₂=> ⟨h₁.trans h₂.1,h₂.2⟩) fun V V x=> x
  | false=> exact xp (hb A env s₁ ad U W pv hr he (hx.keeps h₁.h) hp E) (fun c s₂ h₂=> ⟨h₁.trans h₂.1,h₂.2⟩) fun V V x=> x
def Q6 (_:Sto):PV→Option PV:=onI fun i=> some (.int (-i))
theorem Snd.neg {x:Expr}{pos:Pos}{f:Den} (h:Snd g nm k sc x f):Snd g nm k sc (.UnaryOp .USub x pos) (d1 Q6 f):=by
 intro A env s ad U W pv hr he hx hp E
 obtain ⟨a,ea,e⟩:=zy5 hp
 refine wpAny_UnaryOp (xp (h A env s ad U W _ hr he hx ea E) (fun v s₁ h₁=> ?_) fun V V x=> x)
 have r:=h₁.2
 apply Jb e r
 intro i t e
 cases si e
 exact PyProof.Rows.neg_int ⟨h₁.1.trans (Gr.tok s₁ _),Jy⟩
noncomputable def zw5 (a:PV):Option Bool:=match a with
 | .none=> some true
 | .str _=> some false
 | .mref _=> some false
 | .lst _=> some false
 | _=> none
def Jw (_:Sto) (a b:PV):Option PV:=match b with
 | .none=> (zw5 a).map fun c=> .bool (!c)
 | _=> none
theorem zln (v:Value):isSame v .none=pure (v== .none):=by cases v <;> rfl
theorem zpy {ad:AD}{h:Heap}{pa:PV}{c:Bool}{a:Value} (ra:zk g ad h pa a) (e:zw5 pa=some c):(a== .none)=c:=by
 cases pa with
 | none=> cases ra.none_inv;exact si e
 | str l=> obtain ⟨t,rfl⟩:=ra.str_inv;exact si e
 | mref i=> obtain ⟨t,rfl,_⟩:∃ t,a= .ref t∧ad.m[i]? =some t:=ra;exact si e
 | lst l=> obtain ⟨t,vs,rfl,_⟩:=ra.lst_inv;exact si e
 | _=> exact nn e
theorem zlx:Op2 g k (compareOp .IsNot) Jw:=by
 intro A s ad W pa pb pv a b hr kin top S ra rb e E
 cases pb with
 | none=>
  obtain ⟨c,e1,rfl⟩:=xh.mp (e:(zw5 pa).map (fun c=> PV.bool (!c))=some pv)
  cases rb.none_inv
  show wpAny _ A (do return Value.bool (!(←isSame a .none))) _ E s
  rw [zln];exact xa (xg (xg ⟨Gr.refl s,by rw [zpy ra e1];exact Qw⟩))
 | _=> exact nn e
end
end
set_option genCtorIdx false
section
noncomputable def zra (x:List Nat):List (List Nat)→List PV→Option PV
 | k::ks,v::vs=> if k=x then some v else zra x ks vs
 | _,_=> none
def itT (l:List PV) (k:Int):Option PV:=if qx k then (seqIndex? k l.length).bind (l[·]?) else none
def itL (l:List PV) (k:Int):Option PV:=if decide (0≤k) && qx k then l[k.toNat]? else none
def itS (l:List Nat) (k:Int):Option PV:=if qx k then ((seqIndex? k l.length).bind (l[·]?)).map fun c=> .str [c] else none
def zn (_:Sto) (a b:PV):Option PV:=match a with
 | .tup l=> onI (itT l) b
 | .lst l=> onI (itL l) b
 | .str l=> onI (itS l) b
 | .dct ks vs=> onS (fun x=> zra x ks vs) b
 | _=> none
theorem jg {c:Prop} [Decidable c] {α:Type}{x:Option α}{y:α} (e:(if c then x else none)=some y):c∧x=some y:=by
 by_cases h:c
 ·rw [if_pos h] at e;exact ⟨h,e⟩
 ·rw [if_neg h] at e;exact nn e
section
variable {g:GC}{nm:Nat→Str}{k:Nat}{sc:Scope}
theorem zmw {ad:AD}{h:Heap}{x:List Nat}:∀ {ks:List (List Nat)}{ps:List PV}{vs:List Value}{p:PV},ks.length=vs.length→zh g ad h ps vs→zra x ks ps=some p→
  ∃ v,valueAt ((ks.map fun k=> (⟨k.toArray⟩:Str)).zip vs) ⟨x.toArray⟩=some v∧zk g ad h p v
 | [],_,_,_,_,_,e=> nn e
 | _::_,[],_,_,_,_,e=> nn e
 | q::ks,p::ps,vs,_,hl,r,e=> by
  obtain ⟨v,vs',rfl,r1,r2⟩:=r.inv_cons
  have e:(if q=x then some p else zra x ks ps)=some _:=e
  by_cases c:q=x
  ·rw [if_pos c] at e;cases si e;subst c;exact ⟨v,by simp [valueAt],r1⟩
  ·rw [if_neg c] at e
   refine bc fun J=> ?_
   obtain ⟨u,e1,e2⟩:=zmw (Nat.succ.inj hl) r2 e
   refine J ?_
   refine ⟨u, ?_,e2⟩
   have:¬(⟨q.toArray⟩:Str)=⟨x.toArray⟩:=fun e=> c (by injection e with e;exact congrArg Array.toList e)
   simp only [valueAt,List.map_cons,List.zip_cons_cons,List.find?_cons,decide_eq_false this]
   exact e1
theorem zzs {A:Around}{s:Shared}{ad:AD}{W:Sto}{pa pb pv:PV}{a b:Value} (ra:zk g ad s.heap pa a) (rb:zk g ad s.heap pb b) (e:zn W pa pb=some pv):
  (∃ T id,s.TypeIs a T∧typeLookup (.type T) "__getitem__"=pure (some (.builtin id)))∧Gv g A ad (getItem a b) pv s:=by
 cases pa with
 | tup l=>
  obtain ⟨x,vs,rfl,_,⟨m,ho⟩,r⟩:=ra.tup_inv
  apply Jb e rb
  intro i t e
  obtain ⟨h1,e⟩:=jg e
  have h2:=xx h1
  refine ⟨⟨"tuple",_,⟨_,ho,rfl⟩,PySem.F.slot_tuple_getitem.lookup⟩,fun E=> ?_⟩
  refine bc fun J=> ?_
  obtain ⟨j,e3,e⟩:=xn.mp e
  obtain ⟨u,e4,r4⟩:=r.get e
  refine J ?_
  exact P.getItem_tuple (n:=m) ho (by lia) (by lia) (r.size▸e3) (Array.getElem?_toList.symm.trans e4) ⟨Gr.refl s,r4⟩
 | lst l=>
  obtain ⟨x,vs,rfl,_,pl,r⟩:=ra.lst_inv
  apply Jb e rb
  intro i t e
  refine bc fun J=> ?_
  obtain ⟨h1,e⟩:=jg e
  refine J ?_
  rw [xi] at h1
  refine ⟨⟨"list",_,pl.isList.typeIs,list_getitem_lookup⟩,fun E=> ?_⟩
  obtain ⟨u,e4,r4⟩:=r.get e
  exact wpAny_getItem_list pl.isList (xx h1.1) (xx h1.2).2 (Array.getElem?_toList.symm.trans e4) ⟨Gr.refl s,r4⟩
 | str l=>
  obtain ⟨t,rfl⟩:=ra.str_inv
  apply Jb e rb
  intro i u e
  obtain ⟨h1,e⟩:=jg e
  have h2:=xx h1
  refine ⟨⟨"str",_,typeIs_str s _ _,PySem.F.slot_str_getitem.lookup⟩,fun E=> ?_⟩
  obtain ⟨c,e3,rfl⟩:=xh.mp e
  refine PyProof.Rows.getItem_str (c:=c) (by rw [Bool.or_eq_false_iff,decide_eq_false_iff_not,decide_eq_false_iff_not];lia) ?_ ⟨Gr.tok s _,ze0 rfl⟩
  rw [Qq];simpa using e3
 | dct ks ps=>
  refine bc fun J=> ?_
  obtain ⟨d,vs,rfl,_,hl,hd,r⟩:=ra
  refine J ?_
  apply zas e rb
  intro x t e
  refine bc fun J=> ?_
  obtain ⟨v,e1,r1⟩:=zmw hl r e
  refine J ?_
  exact ⟨⟨"dict",_,hd.mapOf.typeIs,slot_dict_getitem.lookup⟩,fun E=> wpAny_getItem_of (knd:=strKind g.prog g.w) (k:=(⟨x.toArray⟩:Str)) (by simp [PySem.strKind,Value.isStrOf]) hd.mapOf e1 ⟨Gr.tok s _,r1⟩⟩
 | _=> exact nn e
theorem zei {A:Around}{E:Value→Shared→Prop}{s:Shared}{env:Env}{value slice:Expr}{pos:Pos}{Q:Value→Shared→Prop}
  (h:wpAny (model g.prog g.w) A (eval value env) (fun o s₁=> wpAny (model g.prog g.w) A (eval slice env) (fun i s₂=> (∃ T id,s₂.TypeIs o T∧typeLookup (.type T) "__getitem__"=pure (some (.builtin id)))∧wpAny (model g.prog g.w) A (getItem o i) Q E s₂) E s₁) E s)
  (hs:∀ o i,(∃ l,subscripted slice false o i=operate l (getItem o i))):
  wpAny (model g.prog g.w) A (eval (.Subscript value slice pos) env) Q E s:=by
 simp only [eval_Subscript]
 refine xa (xp h (fun o s₁ h₁=> xa (wpAny_holding (xp h₁ (fun i s₂ h₂=> xa (wpAny_standAt ?_)) fun V V x=> x))) fun V V x=> x)
 refine bc fun J=> ?_
 obtain ⟨⟨T,id,hT,hl⟩,hg⟩:=h₂
 obtain ⟨l,e⟩:=hs o i
 refine J ?_
 have fin:wpAny (model g.prog g.w) A (subscripted slice false o i) (fun r s₃=> wpAny (model g.prog g.w) A (letTemporaryGo value o r >>=fun V=> pure r) Q E s₃) E s₂:=by
  rw [e]
  exact wpAny_operating (xp hg (fun r s₃ h₃=> xa (wpAny_letTemporaryGo (xg h₃))) fun V V x=> x)
 refine xa ?_
 refine xa (wpAny_specialOf hT hl ?_)
 exact xg (xa fin)
theorem Snd.item {value slice:Expr}{pos:Pos}{f f':Den} (hl:Snd g nm k sc value f) (hr':Snd g nm k sc slice f') (hs:∀ o i,(∃ l,subscripted slice false o i=operate l (getItem o i))):
  Snd g nm k sc (.Subscript value slice pos) (d2 zn f f'):=by
 intro A env s ad U W pv hr he hx hp E
 refine bc fun J=> ?_
 obtain ⟨a,b,ea,eb,e⟩:=zfz hp
 refine J ?_
 refine zei (zv7 hl hr' hr he hx ea eb fun va vb s' k' x' r1 r2=> ?_) hs
 obtain ⟨h1,h2⟩:=zzs (A:=A) r1 r2 e
 exact ⟨h1,xp (h2 E) (fun v s'' q=> ⟨k'.trans q.1,q.2⟩) fun V V x=> x⟩
abbrev zo0:=Ren→Sto→Option (Option Int)
noncomputable def qn:zo0:=fun V V=> some none
def qv (f:Den):zo0:=fun U W=> (f U W).bind (onI fun i=> some (some i))
inductive PartIs:Value→Option Int→Prop
 | none:PartIs .none none
 | int (i:Int) (t:Tok):PartIs (.int i t) (some i)
noncomputable def SO (g:GC) (nm:Nat→Str) (k:Nat) (sc:Scope) (e:Option Expr) (f:zo0):Prop:=
 ∀ (A:Around) (env:Env) (s:Shared) (ad:AD) (U:Ren) (W:Sto) (r:Option Int),Room k A→ES env sc→Cx g nm env ad U W s.heap→f U W=some r→
  ∀ E,wpAny (model g.prog g.w) A (evalPart e env) (fun v s'=> Gr s s'∧PartIs v r) E s
theorem SO.none:SO g nm k sc none qn:=by
 intro A env s ad U W r hr he hx hp E;cases si hp;exact xg ⟨Gr.refl s,.none⟩
theorem SO.some {e:Expr}{f:Den} (h:Snd g nm k sc e f):SO g nm k sc (some e) (qv f):=by
 intro A env s ad U W r hr he hx hp E
 obtain ⟨p,e1,e2⟩:=xn.mp hp
 simp only [evalPart_some]
 refine xp (h A env s ad U W _ hr he hx e1 E) (fun v s₁ h₁=> ?_) fun V V x=> x
 refine ⟨h₁.1, ?_⟩
 have r:=h₁.2
 apply Jb e2 r
 intro i t e
 cases si e
 exact .int i t
noncomputable def zbf (l:Option Int) (n:Nat):Nat:=match l with
 | none=> 0
 | some i=> (max 0 (min (if i < 0 then i + n else i) n)).toNat
noncomputable def zam (l:Option Int) (n:Nat):Nat:=match l with
 | none=> n
 | some i=> (max 0 (min (if i < 0 then i + n else i) n)).toNat
def cut {α:Type} (l u:Option Int) (x:List α):List α:=(x.drop (zbf l x.length)).take (zam u x.length - zbf l x.length)
theorem zrm (l u:Option Int) (n:Nat):Builtin.Str.strSliceIndices l u 1 n=(List.range (zam u n - zbf l n)).map fun k=> zbf l n + k:=by
 have e:Builtin.Str.strSliceIndices l u 1 n=sliceRange (zbf l n:Int) (zam u n:Int) 1:=by
  unfold Builtin.Str.strSliceIndices zbf zam
  simp only [show (1:Int) > 0 by decide,if_true]
  cases l <;> cases u <;> simp only <;> congr 1 <;> (try rw [Int.toNat_of_nonneg (by lia)])
 simp only [e,sliceRange_one]
theorem zi5 (u:Option Int) (n:Nat):zam u n≤n:=by
 cases u with
 | none=> exact x9 _
 | some i=> exact Int.toNat_le.mpr (Int.max_le.mpr ⟨Int.natCast_nonneg n,Int.min_le_right _ _⟩)
theorem z29 {α:Type} (l u:Option Int) (x:List α):(Builtin.Str.strSliceIndices l u 1 x.length).filterMap (x[·]?)=cut l u x:=by
 rw [zrm];unfold cut
 have:=zi5 u x.length
 by_cases h:zbf l x.length≤zam u x.length
 ·exact StrLaws.picks x _ _ (by lia)
 ·have:zam u x.length - zbf l x.length=0:=by lia
  rw [this];simp
theorem zy4 {α:Type} (l u:Option Int) (x:List α):(cut l u x).length≤x.length:=x8 (List.length_take_le' _ _) (by rw [List.length_drop];exact Nat.sub_le _ _)
theorem zvu {α:Type} (l u:Option Int) (x:List α) (h:(Builtin.Str.strSliceIndices l u 1 x.length).length=x.length):cut l u x=x:=by
 rw [zrm] at h;simp only [xc,List.length_range] at h
 have:=zi5 u x.length
 unfold cut
 by_cases h0:x.length=0
 ·have:x=[]:=by simpa using h0
  subst this;simp
 ·have h1:zbf l x.length=0:=by lia
  have h2:zam u x.length=x.length:=by lia
  rw [h1,h2];simp
def sl0 (q:PV) (l u st:Option Int):Option PV:=match q with
 | .str x=> if st.isSome || !ze x.length then none else some (.str (cut l u x))
 | .lst x=> if st=some 0∨¬ze x.length then none else some (.lst ((sliceRange (sliceBounds l u st x.length).1 (sliceBounds l u st x.length).2.1 (sliceBounds l u st x.length).2.2).filterMap (x[·]?)))
 | _=> none
def zcb (W:Sto) (o:PV) (l u st:Option Int):Option PV:=sl0 (dr W o) l u st
theorem z00 {q pv:PV}{l u st:Option Int} (e:sl0 q l u st=some pv) {C:PV→PV→Prop} (ss:∀ x,st=none→ze x.length=true→C (.str x) (.str (cut l u x)))
  (ll:∀ x,st≠some 0→ze x.length=true→C (.lst x) (.lst ((sliceRange (sliceBounds l u st x.length).1 (sliceBounds l u st x.length).2.1 (sliceBounds l u st x.length).2.2).filterMap (x[·]?)))):C q pv:=by
 cases q with
 | str x=>
  obtain ⟨h,rfl⟩:=zrn e
  rw [Bool.or_eq_true,not_or,Bool.not_eq_true,Bool.not_eq_true,Bool.not_eq_false',Option.isSome_eq_false_iff,Option.isNone_iff_eq_none] at h
  exact ss x h.1 h.2
 | lst x=>
  obtain ⟨h,rfl⟩:=zrn e
  rw [not_or,Decidable.not_not] at h
  exact ll x h.1 h.2
 | _=> exact nn e
def qg (f:Den) (l u st:zo0):Den:=fun U W=> (f U W).bind fun o=> (l U W).bind fun l=> (u U W).bind fun u=> (st U W).bind fun st=> zcb W o l u st
theorem zh.pick {ad:AD}{h:Heap}{ps:List PV}{vs:List Value} (r:zh g ad h ps vs) (is:List Nat):zh g ad h (is.filterMap (ps[·]?)) (is.filterMap (vs[·]?)):=by
 induction is with
 | nil=> exact .nil
 | cons i is ih=>
  simp only [List.filterMap_cons]
  cases e:ps[i]? with
  | none=>
   have:vs[i]? =none:=List.getElem?_eq_none (by rw [←r.length];exact List.getElem?_eq_none_iff.mp e)
   simp only [this];exact ih
  | some p=> obtain ⟨u,e1,e2⟩:=r.get e;exact e1▸.cons e2 ih
theorem zxo {α:Type} (l:List α) (is:List Nat):(is.filterMap (l[·]?)).length≤is.length:=List.length_filterMap_le _ _
theorem toP {v:Value}{r:Option Int} (h:PartIs v r):∃ q:Option (Int×Tok),v=partValue q∧q.map (·.1)=r:=by
 cases h with
 | none=> exact ⟨none,rfl,rfl⟩
 | int i t=> exact ⟨some (i,t),rfl,rfl⟩
theorem z4l {v:Value}{r:Option Int} (h:PartIs v r):IsPart v r:=by
 cases h with
 | none=> exact .none
 | int i t=> exact .int i t
set_option tactic.hygienic true in
theorem zx1 {A:Around}{s:Shared}{ad:AD}{W:Sto}{po pv:PV}{o vl vu vs:Value}{l u st:Option Int}{sl:Addr} (S:StoreOk g ad W s.heap) (ro:zk g ad s.heap po o) (pl:PartIs vl l) (pu:PartIs vu u) (ps:PartIs vs st)
  (hs:s.heap.get? sl=some {cls:= .type "slice",data:= .fields #[vl,vu,vs]}) (e:zcb W po l u st=some pv):
  (∃ T id,s.TypeIs o T∧typeLookup (.type T) "__getitem__"=pure (some (.builtin id)))∧Gv g A ad (getItem o (.ref sl)) pv s:=by
 refine z00 e (C:=fun q pv=> dr W po=q→(∃ T id,s.TypeIs o T∧typeLookup (.type T) "__getitem__"=pure (some (.builtin id)))∧Gv g A ad (getItem o (.ref sl)) pv s) (fun x h1 h2 ed=> ?_) (fun x h1 h2 ed=> ?_) rfl
 ·rw [zpf ed] at ro
  refine bc fun J=> ?_
  obtain ⟨ql,rfl,el⟩:=toP pl
  obtain ⟨qu,rfl,eu⟩:=toP pu
  obtain ⟨qs,rfl,es⟩:=toP ps
  obtain ⟨t,rfl⟩:=ro.str_inv
  refine J ?_
  rw [h1] at es
  refine ⟨⟨"str",_,typeIs_str s _ _,PySem.F.slot_str_getitem.lookup⟩,fun E=> ?_⟩
  refine wpAny_getItem_str_slice (l:=ql) (u:=qu) (st:=qs) ⟨_,hs,rfl,rfl⟩ (by rw [es];rfl) ?_
  have epick:slicePicked ⟨x.toArray⟩ ql qu qs=Builtin.Str.strSliceIndices l u 1 x.length:=by unfold slicePicked;simp only [el,eu,es];rfl
  unfold sliceMade
  rw [epick,es,Qq]
  have esame:∀ is:List Nat,is.filterMap ((⟨x.toArray⟩:Str).cps[·]?)=is.filterMap (x[·]?):=fun is=> by simp
  rw [esame]
  split
  ·rename_i c
   rw [xi] at c
   exact ⟨Gr.refl s,ze0 (by rw [zvu l u x (xx c.2)])⟩
  ·rw [z29]
   exact ⟨x8 (Nat.le_of_eq List.size_toArray) (x8 (zy4 l u x) (zy h2)),Gr.tok s _,ze0 rfl⟩
 ·refine bc fun J=> ?_
  obtain ⟨a,us,rfl,hl,r⟩:=ro.dr_lst S ed
  refine J ?_
  refine ⟨⟨"list",_,hl.isList.typeIs,list_getitem_lookup⟩,fun E=> ?_⟩
  refine wpAny_getItem_list_slice hl.isList ⟨_,hs,rfl,rfl⟩ (z4l pl) (z4l pu) (z4l ps) h1 ?_ (by rw [←r.size];exact zy h2)
  have:=zn1 S (r.pick (sliceRange (sliceBounds l u st x.length).1 (sliceBounds l u st x.length).2.1 (sliceBounds l u st x.length).2.2))
  rw [show (List.filterMap (us.toList[·]?) (sliceRange (sliceBounds l u st x.length).1 (sliceBounds l u st x.length).2.1 (sliceBounds l u st x.length).2.2)).toArray=slicePick us l u st by
   unfold slicePick;rw [r.size];simp [Array.getElem?_toList]] at this
  exact ⟨Gr.push s _ _,this⟩
theorem Snd.slice {value:Expr}{lo hi st:Option Expr}{p pos:Pos}{f:Den}{fl fu fs:zo0} (hv:Snd g nm k sc value f) (hl:SO g nm k sc lo fl) (hu:SO g nm k sc hi fu) (hs:SO g nm k sc st fs):
  Snd g nm k sc (.Subscript value (.Slice lo hi st p) pos) (qg f fl fu fs):=by
 intro A env s ad U W pv hr he hx hp E
 refine bc fun J=> ?_
 obtain ⟨o,eo,hp⟩:=xn.mp hp
 obtain ⟨l,el,hp⟩:=xn.mp hp
 obtain ⟨u,eu,hp⟩:=xn.mp hp
 obtain ⟨s',es,hp⟩:=xn.mp hp
 refine J ?_
 refine zei (xp (hv A env s ad U W o hr he hx eo E) (fun vo s₁ h₁=> wpAny_Slice ?_) fun V V x=> x) (fun o i=> ?_)
 ·refine xp (hl A env s₁ ad U W l hr he (hx.keeps h₁.1.h) el E) (fun vl s₂ h₂=> ?_) fun V V x=> x
  refine xp (hu A env s₂ ad U W u hr he ((hx.keeps h₁.1.h).keeps h₂.1.h) eu E) (fun vu s₃ h₃=> ?_) fun V V x=> x
  refine xp (hs A env s₃ ad U W s' hr he (((hx.keeps h₁.1.h).keeps h₂.1.h).keeps h₃.1.h) es E) (fun vs s₄ h₄=> ?_) fun V V x=> x
  have x4:=(((hx.keeps h₁.1.h).keeps h₂.1.h).keeps h₃.1.h).keeps h₄.1.h
  have g4:=((h₁.1.trans h₂.1).trans h₃.1).trans h₄.1
  have g5:Gr s₄ {s₄ with heap:=s₄.heap.push {cls:= .type "slice",data:= .fields #[vl,vu,vs]}}:=Gr.push s₄ _ _
  obtain ⟨h1,h2⟩:=zx1 (A:=A) (s:={s₄ with heap:=s₄.heap.push {cls:= .type "slice",data:= .fields #[vl,vu,vs]}}) (x4.keeps g5.h).sto ((((h₁.2.keeps h₂.1.h).keeps h₃.1.h).keeps h₄.1.h).keeps g5.h) h₂.2 h₃.2 h₄.2 (xj _ rfl) hp
  exact ⟨h1,xp (h2 E) (fun v s'' q=> ⟨(g4.trans g5).trans q.1,q.2⟩) fun V V x=> x⟩
 ·cases st with
  | none=> exact ⟨_,rfl⟩
  | some e=> exact ⟨_,rfl⟩
end
end
section
noncomputable def zdk:List String:=["enumerate","zip","dict_itemiterator","dict_reverseitemiterator","odict_iterator","itertools.zip_longest","itertools.pairwise"]
theorem Stays.refl (ad:AD) (h:Heap):Stays ad ad h h:=Stays.of_keeps fun V V e=> e
theorem Stays.but {ad:AD}{h h':Heap}{I:Addr} (hI:I∈ad.b) (hs:Heap.ExtBut I h h') (ha:∃ o',h'.get? I=some o'):Stays ad ad h h':=
 ⟨⟨fun b o n e=> hs b o (fun e'=> n.2 (e'▸hI)) e,fun V V e=> e,fun V V V n=> n⟩,fun b o e=> by
  by_cases hb:b=I
  ·subst hb;exact ha
  ·exact ⟨o,hs b o hb e⟩,fun V m=> m⟩
structure Src (g:GC) (I:Addr) (fp:List Addr) (its:List PV) (St:AD→Nat→Heap→Prop):Prop where
 frame:∀ (ad ad':AD) (i:Nat) (h h':Heap),St ad i h→Stays ad ad' h h'→(∀ b,b=I∨b∈fp→∀ o,h.get? b=some o→h'.get? b=some o)→St ad' i h'
 cs:∀ (A:Around) (ad:AD) (i:Nat) (p:PV) (s:Shared) (Q:Option Value→Shared→Prop) (E:Value→Shared→Prop),A.handled=none→its[i]? =some p→St ad i s.heap→
  (∀ v h' tk,St ad (i + 1) h'→zk g ad h' p v→Heap.SameBut I s.heap h'→Q (some v) {s with heap:=h',toks:=tk})→wpAny (model g.prog g.w) A (callSpecial? (.ref I) "__next__") Q E s
 csEnd:∀ (A:Around) (ad:AD) (s:Shared) (Q:Option Value→Shared→Prop) (E:Value→Shared→Prop),A.handled=none→St ad its.length s.heap→
  (∀ h' e,Heap.ExtBut I s.heap h'→(∃ o',h'.get? I=some o')→(∃ o,h'.get? e=some o∧o.cls= .type "StopIteration")→E (.ref e) {s with heap:=h'})→wpAny (model g.prog g.w) A (callSpecial? (.ref I) "__next__") Q E s
 self:∀ (A:Around) (ad:AD) (i:Nat) (s:Shared) (Q:Value→Shared→Prop) (E:Value→Shared→Prop),St ad i s.heap→Q (.ref I) s→wpAny (model g.prog g.w) A (pyIter (.ref I)) Q E s
 typ:∀ (ad:AD) (i:Nat) (h:Heap),St ad i h→I∈ad.b∧∃ o T,h.get? I=some o∧o.cls= .type T∧zdk.contains T=false
section
variable {g:GC}{I:Addr}{fp:List Addr}{its:List PV}{St:AD→Nat→Heap→Prop}{A:Around}{ad:AD}{s:Shared}{E:Value→Shared→Prop}
theorem Src.nextOf (X:Src g I fp its St) {i:Nat}{p:PV}{Q:Value→Shared→Prop} (hA:A.handled=none) (e:its[i]? =some p) (st:St ad i s.heap)
  (hQ:∀ v h' tk,St ad (i + 1) h'→zk g ad h' p v→Heap.SameBut I s.heap h'→Q v {s with heap:=h',toks:=tk}):wpAny (model g.prog g.w) A (Builtin.SmallTypes.nextOf (.ref I)) Q E s:=by
 unfold Builtin.SmallTypes.nextOf
 exact xa (X.cs A ad i p s _ E hA e st fun v h' tk a b c=> xg (hQ v h' tk a b c))
theorem Src.nextOfEnd (X:Src g I fp its St) {Q:Value→Shared→Prop} (hA:A.handled=none) (st:St ad its.length s.heap)
  (hE:∀ h' e,Heap.ExtBut I s.heap h'→(∃ o',h'.get? I=some o')→(∃ o,h'.get? e=some o∧o.cls= .type "StopIteration")→E (.ref e) {s with heap:=h'}):wpAny (model g.prog g.w) A (Builtin.SmallTypes.nextOf (.ref I)) Q E s:=by
 unfold Builtin.SmallTypes.nextOf
 exact xa (X.csEnd A ad s _ E hA st hE)
theorem Src.next (X:Src g I fp its St) {i:Nat}{p:PV}{Q:Option Value→Shared→Prop} (hA:A.handled=none) (e:its[i]? =some p) (st:St ad i s.heap)
  (hQ:∀ v h' tk,St ad (i + 1) h'→zk g ad h' p v→Heap.SameBut I s.heap h'→Q (some v) {s with heap:=h',toks:=tk}):wpAny (model g.prog g.w) A (pyNext (.ref I)) Q E s:=by
 unfold pyNext
 exact xa (wpAny_attempt (X.cs A ad i p s _ _ hA e st fun v h' tk a b c=> xg (hQ v h' tk a b c)))
theorem Src.nextEnd (X:Src g I fp its St) {Q:Option Value→Shared→Prop} (hA:A.handled=none) (st:St ad its.length s.heap)
  (hQ:∀ h',Heap.ExtBut I s.heap h'→(∃ o',h'.get? I=some o')→Q none {s with heap:=h'}):wpAny (model g.prog g.w) A (pyNext (.ref I)) Q E s:=by
 unfold pyNext
 refine xa (wpAny_attempt (X.csEnd A ad s _ _ hA st fun h' e a b c=> ?_))
 refine bc fun J=> ?_
 obtain ⟨o,ho,hc⟩:=c
 refine J ?_
 refine xa (wpAny_isInstance (T:="StopIteration") (b:=true) ⟨o,ho,hc⟩ isSubtype_stop ?_)
 exact xg (hQ h' a b)
end
section
variable {prog:Program}{w:World}{A:Around}{E:Value→Shared→Prop}{s:Shared}
theorem zk3 {it l:Addr}{i:Nat}{items:Array Value}{x:Value}{Q:Option Value→Shared→Prop} (hit:s.heap.IsListIter it l i)
  (hl:s.heap.IsList l items) (hx:items[i]? =some x)
  (hQ:∀ h',h'.IsListIter it l (i + 1)→Heap.SameBut it s.heap h'→Q (some x) {s with heap:=h'}):
  wpAny (model prog w) A (callSpecial? (.ref it) "__next__") Q E s:=by
 obtain ⟨o,ho,hc,hd⟩:=id hit
 obtain ⟨ol,hol,_,nl,hdl⟩:=hl
 refine (wpAny_callSpecial?_slot (name:=Str.ofString "__next__") hit.typeIs slot_listiter_next
  (wpAny_call_entry slot_listiter_next hit.typeIs entry_listiter_next ?_ (args_listiter_next _)))
 show wpAny _ _ (field (.ref it) 0 >>=_) _ _ s
 refine xa (wpAny_field ho hd (x:= .ref l) rfl ?_)
 show wpAny _ _ (if (Value.ref l==Value.none)=true then _ else _) _ _ s
 rw [if_neg (show ¬((Value.ref l==Value.none)=true) from xy)]
 show wpAny _ _ (field (.ref it) 1 >>=_) _ _ s
 refine xa (wpAny_field ho hd (x:= .int i 0) rfl ?_)
 show wpAny _ _ (seqItems? (.ref l) >>=_) _ _ s
 refine xa (wpAny_seqItems hol hdl ?_)
 simp only [Int.toNat_natCast,hx]
 refine xa (wpAny_setField ho hd (by simp) (xg ⟨x,rfl,(hQ _ ?_ (Heap.SameBut.update ..))⟩))
 exact ⟨_,Heap.get?_update_self _ ho (Obj.isFreed_of_fields (Obj.data_mapFields hd _)),(Obj.cls_mapFields ..).trans hc,by
  rw [Obj.data_mapFields hd];simp [rawInt]⟩
theorem zh1 {α:Type}{it:Addr}{h0:Heap}{o:Obj}{Q:α→Shared→Prop} (hh:A.handled=none) (x:Heap.ExtBut it h0 s.heap) (ho:s.heap.get? it=some o)
  (hE:∀ h' e,Heap.ExtBut it h0 h'→(∃ o',h'.get? it=some o')→(∃ o,h'.get? e=some o∧o.cls= .type "StopIteration")→E (.ref e) {s with heap:=h'}):
  wpAny (model prog w) A (newExc (.type "StopIteration") [] >>=fun e=> raiseNew e) Q E s:=by
 refine xa ?_
 simp only [newExc,newTuple]
 refine xa (wpAny_newObj_type ?_ (by size_fits))
 refine xa (m:=firstArgMember _ _) (wpAny_of_eq (a:=Value.none) (by first | rfl | (simp only [firstArgMember];rfl)) ?_)
 exact wpAny_newObj_type (wpAny_raiseNew_none hh (hE _ _ ((x.push _).push _) ⟨_,xb _ (xb _ ho)⟩ ⟨_,xj _ rfl,rfl⟩)) (by size_fits)
theorem zmv {it l:Addr}{i:Nat}{items:Array Value}{Q:Option Value→Shared→Prop} (hh:A.handled=none)
  (hit:s.heap.IsListIter it l i) (hl:s.heap.IsList l items) (hx:items[i]? =none)
  (hE:∀ h' e,Heap.ExtBut it s.heap h'→(∃ o',h'.get? it=some o')→(∃ o,h'.get? e=some o∧o.cls= .type "StopIteration")→E (.ref e) {s with heap:=h'}):
  wpAny (model prog w) A (callSpecial? (.ref it) "__next__") Q E s:=by
 obtain ⟨o,ho,hc,hd⟩:=id hit
 obtain ⟨ol,hol,_,nl,hdl⟩:=hl
 refine (wpAny_callSpecial?_slot (name:=Str.ofString "__next__") hit.typeIs slot_listiter_next
  (wpAny_call_entry slot_listiter_next hit.typeIs entry_listiter_next ?_ (args_listiter_next _)))
 show wpAny _ _ (field (.ref it) 0 >>=_) _ _ s
 refine xa (wpAny_field ho hd (x:= .ref l) rfl ?_)
 show wpAny _ _ (if (Value.ref l==Value.none)=true then _ else _) _ _ s
 rw [if_neg (show ¬((Value.ref l==Value.none)=true) from xy)]
 show wpAny _ _ (field (.ref it) 1 >>=_) _ _ s
 refine xa (wpAny_field ho hd (x:= .int i 0) rfl ?_)
 show wpAny _ _ (seqItems? (.ref l) >>=_) _ _ s
 refine xa (wpAny_seqItems hol hdl ?_)
 simp only [Int.toNat_natCast,hx]
 refine xa (wpAny_rule (xa (wpAny_setField ho hd (by simp) ?_)))
 exact zh1 (A:=A.in1) hh (Heap.SameBut.update ..).extBut (Heap.get?_update_self _ ho (Obj.isFreed_of_fields (Obj.data_mapFields hd _))) hE
theorem zii {it t:Addr}{i:Nat}{items:Array Value}{x:Value}{Q:Option Value→Shared→Prop} (hit:s.heap.IsTupleIter it t i)
  (ht:s.heap.IsTuple t items) (hx:items[i]? =some x)
  (hQ:∀ h',h'.IsTupleIter it t (i + 1)→Heap.SameBut it s.heap h'→Q (some x) {s with heap:=h'}):
  wpAny (model prog w) A (callSpecial? (.ref it) "__next__") Q E s:=by
 obtain ⟨o,ho,hc,hd⟩:=id hit
 obtain ⟨ol,hol,_,nl,hdl⟩:=ht
 refine (wpAny_callSpecial?_slot (name:=Str.ofString "__next__") hit.typeIs F.slot_tuple_iterator_next
  (wpAny_call_entry F.slot_tuple_iterator_next hit.typeIs F.entry_tuple_iterator_next ?_ (F.args_tuple_iterator_next_1 _)))
 show wpAny _ _ (field (.ref it) 0 >>=_) _ _ s
 refine xa (wpAny_field ho hd (x:= .ref t) rfl ?_)
 show wpAny _ _ (if (Value.ref t==Value.none)=true then _ else _) _ _ s
 rw [if_neg (show ¬((Value.ref t==Value.none)=true) from xy)]
 show wpAny _ _ (field (.ref it) 1 >>=_) _ _ s
 refine xa (wpAny_field ho hd (x:= .int i 0) rfl ?_)
 show wpAny _ _ (seqItems? (.ref t) >>=_) _ _ s
 refine xa (wpAny_seqItems hol hdl ?_)
 simp only [Int.toNat_natCast,hx]
 refine xa (wpAny_setField ho hd (by simp) (xg ⟨x,rfl,(hQ _ ?_ (Heap.SameBut.update ..))⟩))
 exact ⟨_,Heap.get?_update_self _ ho (Obj.isFreed_of_fields (Obj.data_mapFields hd _)),(Obj.cls_mapFields ..).trans hc,by
  rw [Obj.data_mapFields hd];simp [rawInt]⟩
theorem zk4 {it t:Addr}{i:Nat}{items:Array Value}{Q:Option Value→Shared→Prop} (hh:A.handled=none)
  (hit:s.heap.IsTupleIter it t i) (ht:s.heap.IsTuple t items) (hx:items[i]? =none)
  (hE:∀ h' e,Heap.ExtBut it s.heap h'→(∃ o',h'.get? it=some o')→(∃ o,h'.get? e=some o∧o.cls= .type "StopIteration")→E (.ref e) {s with heap:=h'}):
  wpAny (model prog w) A (callSpecial? (.ref it) "__next__") Q E s:=by
 obtain ⟨o,ho,hc,hd⟩:=id hit
 obtain ⟨ol,hol,_,nl,hdl⟩:=ht
 refine (wpAny_callSpecial?_slot (name:=Str.ofString "__next__") hit.typeIs F.slot_tuple_iterator_next
  (wpAny_call_entry F.slot_tuple_iterator_next hit.typeIs F.entry_tuple_iterator_next ?_ (F.args_tuple_iterator_next_1 _)))
 show wpAny _ _ (field (.ref it) 0 >>=_) _ _ s
 refine xa (wpAny_field ho hd (x:= .ref t) rfl ?_)
 show wpAny _ _ (if (Value.ref t==Value.none)=true then _ else _) _ _ s
 rw [if_neg (show ¬((Value.ref t==Value.none)=true) from xy)]
 show wpAny _ _ (field (.ref it) 1 >>=_) _ _ s
 refine xa (wpAny_field ho hd (x:= .int i 0) rfl ?_)
 show wpAny _ _ (seqItems? (.ref t) >>=_) _ _ s
 refine xa (wpAny_seqItems hol hdl ?_)
 simp only [Int.toNat_natCast,hx]
 refine xa (wpAny_rule (xa (wpAny_setField ho hd (by simp) ?_)))
 exact zh1 (A:=A.in1) hh (Heap.SameBut.update ..).extBut (Heap.get?_update_self _ ho (Obj.isFreed_of_fields (Obj.data_mapFields hd _))) hE
end
end
section
structure Itr (g:GC) (I:Addr) (wr fp:List Addr) (its:List PV) (St:AD→Nat→Heap→Prop) (Mid:AD→Nat→Value→Heap→Prop) (pairy:Bool):Prop where
 frame:∀ (ad ad':AD) (i:Nat) (h h':Heap),St ad i h→Stays ad ad' h h'→(∀ b,b∈wr∨b∈fp→∀ o,h.get? b=some o→h'.get? b=some o)→St ad' i h'
 item:∀ (A:Around) (ad:AD) (i:Nat) (p:PV) (s:Shared) (Q:Option Value→Shared→Prop) (E:Value→Shared→Prop),A.handled=none→(∀ a,s.heap.get? a=none→ad.no a)→its[i]? =some p→St ad i s.heap→
  (∀ v h' tk,Mid ad i v h'→zk g ad h' p v→Stays ad ad s.heap h'→(∀ b o,b∉wr→s.heap.get? b=some o→h'.get? b=some o)→Q (some v) {s with heap:=h',toks:=tk})→wpAny (model g.prog g.w) A (pyNext (.ref I)) Q E s
 go:∀ (A:Around) (elts:List Expr) (x1:Nat) (pos:Pos) (ad:AD) (i:Nat) (v:Value) (s:Shared) (Q:Unit→Shared→Prop) (E:Value→Shared→Prop),Mid ad i v s.heap→
  (∀ h',St ad (i + 1) h'→Stays ad ad s.heap h'→(∀ b o,b∉wr→s.heap.get? b=some o→h'.get? b=some o)→Q () {s with heap:=h'})→wpAny (model g.prog g.w) A (letOwnedTupleGo (.Tuple elts x1 pos) (.ref I) v) Q E s
 goN:pairy=false→∀ (ad:AD) (i:Nat) (v:Value) (h:Heap),Mid ad i v h→St ad (i + 1) h
 done:∀ (A:Around) (ad:AD) (s:Shared) (Q:Option Value→Shared→Prop) (E:Value→Shared→Prop),A.handled=none→St ad its.length s.heap→
  (∀ h',(∀ b o,b∉wr→s.heap.get? b=some o→h'.get? b=some o)→Q none {s with heap:=h'})→wpAny (model g.prog g.w) A (pyNext (.ref I)) Q E s
 self:∀ (A:Around) (ad:AD) (i:Nat) (s:Shared) (Q:Value→Shared→Prop) (E:Value→Shared→Prop),St ad i s.heap→Q (.ref I) s→wpAny (model g.prog g.w) A (pyIter (.ref I)) Q E s
 ban:∀ (ad:AD) (i:Nat) (h:Heap),St ad i h→∀ b∈wr,b∈ad.b
section
variable {prog:Program}{w:World}{A:Around}{E:Value→Shared→Prop}{s:Shared}
set_option tactic.hygienic true in
theorem zfd {elts:List Expr}{x1:Nat}{pos:Pos}{I:Addr}{v:Value}{o:Obj}{T:String}{Q:Unit→Shared→Prop} (ho:s.heap.get? I=some o) (hc:o.cls= .type T) (hT:zdk.contains T=false) (hQ:Q () s):
  wpAny (model prog w) A (letOwnedTupleGo (.Tuple elts x1 pos) (.ref I) v) Q E s:=by
 unfold letOwnedTupleGo
 cases v with
 | ref a=>
  refine xa (wpAny_load ho ?_)
  rw [hc]
  cases hd:o.data <;> first | exact xg hQ | skip
  rename_i vs
  show wpAny _ A (if (zdk.contains T && vs[0]? ==some (rawInt a))=true then _ else _) Q E s
  rw [hT,Bool.false_and,if_neg xy]
  exact xg hQ
 | _=> exact xg hQ
end
section
variable {g:GC}{I:Addr}{fp:List Addr}{its:List PV}{St:AD→Nat→Heap→Prop}
theorem Src.itr (X:Src g I fp its St):Itr g I [I] fp its St (fun ad i v h=> St ad (i + 1) h) false where
 frame:=fun ad ad' i h h' st x k=> X.frame ad ad' i h h' st x fun b hb=> k b (hb.elim (fun e=> .inl (by simp [e])) .inr)
 item:=fun A ad i p s Q E hA V e st hQ=> X.next hA e st fun v h' tk a b c=> by
  refine hQ v h' tk a b (Stays.but (X.typ _ _ _ st).1 c.extBut ?_) fun b o hb e=> c.extBut b o (fun h=> hb (by simp [h])) e
  obtain ⟨_,o,_,ho,_⟩:=X.typ _ _ _ a
  exact ⟨o,ho⟩
 go:=fun A elts x1 pos ad i v s Q E m hQ=> by
  refine bc fun J=> ?_
  obtain ⟨_,o,T,ho,hc,hT⟩:=X.typ _ _ _ m
  refine J ?_
  exact zfd ho hc hT (hQ s.heap m (Stays.refl _ _) fun V V V e=> e)
 goN:=fun V ad i v h m=> m
 done:=fun A ad s Q E hA st hQ=> X.nextEnd hA st fun h' a b=> hQ h' fun b o hb e=> a b o (fun h=> hb (by simp [h])) e
 self:=X.self
 ban:=fun ad i h st b hb=> by simp at hb;subst hb;exact (X.typ _ _ _ st).1
end
section
variable {g:GC}
theorem zx3 {I l:Addr}{vs:Array Value}{its:List PV} (hIl:l≠I):
  Src g I [l] its (fun ad i h=> I∈ad.b∧h.IsListIter I l i∧h.IsList l vs∧zh g ad h its vs.toList) where
 frame:=fun ad ad' i h h' st x k=> ⟨x.bb _ st.1,st.2.1.at (fun o e=> k I (.inl rfl) o e),st.2.2.1.at (fun o e=> k l (.inr (by simp)) o e),zh.stays x its _ st.2.2.2⟩
 cs:=fun A ad i p s Q E hA e st hQ=> by
  obtain ⟨u,e1,e2⟩:=st.2.2.2.get e
  refine zk3 st.2.1 st.2.2.1 (x:=u) (by simpa [Array.getElem?_toList] using e1) fun h' hit' hs'=> ?_
  have al:∃ o',h'.get? I=some o':=let ⟨o,ho,_⟩:=hit';⟨o,ho⟩
  have x:=Stays.but st.1 hs'.extBut al
  exact hQ u h' s.toks ⟨st.1,hit',st.2.2.1.extBut hs'.extBut hIl,zh.stays x its _ st.2.2.2⟩ (zk.stays x p u e2) hs'
 csEnd:=fun A ad s Q E hA st hE=> by
  refine zmv hA st.2.1 st.2.2.1 ?_ hE
  have:=st.2.2.2.length
  exact Array.getElem?_eq_none (by simp at this;lia)
 self:=fun A ad i s Q E st hQ=> wpAny_pyIter_listiter st.2.1 hQ
 typ:=fun ad i h st=> ⟨st.1,let ⟨o,ho,hc,_⟩:=st.2.1;⟨o,_,ho,hc,by decide⟩⟩
theorem zya {h h':Heap}{a t:Addr}{i:Nat} (x:h.IsTupleIter a t i) (k:∀ o,h.get? a=some o→h'.get? a=some o):h'.IsTupleIter a t i:=let ⟨o,ho,r⟩:=x;⟨o,k o ho,r⟩
theorem zqx {h h':Heap}{a:Addr}{vs:Array Value} (x:h.IsTuple a vs) (k:∀ o,h.get? a=some o→h'.get? a=some o):h'.IsTuple a vs:=let ⟨o,ho,r⟩:=x;⟨o,k o ho,r⟩
theorem zua {I l:Addr}{vs:Array Value}{its:List PV} (hIl:l≠I):
  Src g I [l] its (fun ad i h=> I∈ad.b∧h.IsTupleIter I l i∧h.IsTuple l vs∧zh g ad h its vs.toList) where
 frame:=fun ad ad' i h h' st x k=> ⟨x.bb _ st.1,zya st.2.1 (fun o e=> k I (.inl rfl) o e),zqx st.2.2.1 (fun o e=> k l (.inr (by simp)) o e),zh.stays x its _ st.2.2.2⟩
 cs:=fun A ad i p s Q E hA e st hQ=> by
  obtain ⟨u,e1,e2⟩:=st.2.2.2.get e
  refine zii st.2.1 st.2.2.1 (x:=u) (by simpa [Array.getElem?_toList] using e1) fun h' hit' hs'=> ?_
  have al:∃ o',h'.get? I=some o':=let ⟨o,ho,_⟩:=hit';⟨o,ho⟩
  have x:=Stays.but st.1 hs'.extBut al
  exact hQ u h' s.toks ⟨st.1,hit',st.2.2.1.extBut hs'.extBut hIl,zh.stays x its _ st.2.2.2⟩ (zk.stays x p u e2) hs'
 csEnd:=fun A ad s Q E hA st hE=> by
  refine zk4 hA st.2.1 st.2.2.1 ?_ hE
  have:=st.2.2.2.length
  exact Array.getElem?_eq_none (by simp at this;lia)
 self:=fun A ad i s Q E st hQ=> by
  have hit:=st.2.1
  refine wpAny_pyIter_slot hit.typeIs F.slot_tuple_iterator_iter (wpAny_call_entry F.slot_tuple_iterator_iter hit.typeIs F.entry_tuple_iterator_iter ?_ (F.args_tuple_iterator_iter_1 _))
  show wpAny _ _ (ret (.ref I)) _ _ s
  exact xg ⟨_,rfl,"tuple_iterator",_,hit.typeIs,F.slot_tuple_iterator_next.lookup,hQ⟩
 typ:=fun ad i h st=> ⟨st.1,let ⟨o,ho,hc,_⟩:=st.2.1;⟨o,_,ho,hc,by decide⟩⟩
end
section
variable {prog:Program}{w:World}{A:Around}{E:Value→Shared→Prop}{s:Shared}
theorem zih {it:Addr}{x:Str}{t:Tok}{i c:Nat}{Q:Option Value→Shared→Prop} (hit:s.heap.IsStrIter it "str_ascii_iterator" x t i) (hx:x.cps[i]? =some c)
  (hQ:∀ h',h'.IsStrIter it "str_ascii_iterator" x t (i + 1)→Heap.SameBut it s.heap h'→Q (some (.str ⟨#[c]⟩ s.toks)) {s with heap:=h',toks:=s.toks + 1}):
  wpAny (model prog w) A (callSpecial? (.ref it) "__next__") Q E s:=by
 obtain ⟨o,ho,hc,hd⟩:=id hit
 refine (wpAny_callSpecial?_slot (name:=Str.ofString "__next__") hit.typeIs F.slot_str_ascii_iterator_next
  (wpAny_call_entry F.slot_str_ascii_iterator_next hit.typeIs F.entry_str_ascii_iterator_next ?_ (F.args_str_ascii_iterator_next_1 _)))
 show wpAny _ _ (field (.ref it) 0 >>=_) _ _ s
 refine xa (wpAny_field ho hd (x:= .str x t) rfl ?_)
 show wpAny _ _ (field (.ref it) 1 >>=_) _ _ s
 refine xa (wpAny_field ho hd (x:= .int i 0) rfl ?_)
 simp only [Int.toNat_natCast,hx]
 refine xa (wpAny_setField ho hd (by simp) (xa (wpAny_mkStr (xg ⟨_,rfl,(hQ _ ?_ (Heap.SameBut.update ..))⟩))))
 exact ⟨_,Heap.get?_update_self _ ho (Obj.isFreed_of_fields (Obj.data_mapFields hd _)),(Obj.cls_mapFields ..).trans hc,by
  rw [Obj.data_mapFields hd];simp [rawInt]⟩
theorem zk2 {it:Addr}{x:Str}{t:Tok}{i:Nat}{Q:Option Value→Shared→Prop} (hh:A.handled=none)
  (hit:s.heap.IsStrIter it "str_ascii_iterator" x t i) (hx:x.cps[i]? =none)
  (hE:∀ h' e,Heap.ExtBut it s.heap h'→(∃ o',h'.get? it=some o')→(∃ o,h'.get? e=some o∧o.cls= .type "StopIteration")→E (.ref e) {s with heap:=h'}):
  wpAny (model prog w) A (callSpecial? (.ref it) "__next__") Q E s:=by
 obtain ⟨o,ho,hc,hd⟩:=id hit
 refine (wpAny_callSpecial?_slot (name:=Str.ofString "__next__") hit.typeIs F.slot_str_ascii_iterator_next
  (wpAny_call_entry F.slot_str_ascii_iterator_next hit.typeIs F.entry_str_ascii_iterator_next ?_ (F.args_str_ascii_iterator_next_1 _)))
 show wpAny _ _ (field (.ref it) 0 >>=_) _ _ s
 refine xa (wpAny_field ho hd (x:= .str x t) rfl ?_)
 show wpAny _ _ (field (.ref it) 1 >>=_) _ _ s
 refine xa (wpAny_field ho hd (x:= .int i 0) rfl ?_)
 simp only [Int.toNat_natCast,hx]
 refine xa (wpAny_rule (xa (wpAny_setField ho hd (by simp) (xa (wpAny_letGo ?_)))))
 exact zh1 (A:=A.in1) hh (Heap.SameBut.update ..).extBut (Heap.get?_update_self _ ho (Obj.isFreed_of_fields (Obj.data_mapFields hd _))) hE
end
section
variable {g:GC}
theorem zqq {h h':Heap}{a:Addr}{ty:String}{x:Str}{t:Tok}{i:Nat} (q:h.IsStrIter a ty x t i) (k:∀ o,h.get? a=some o→h'.get? a=some o):h'.IsStrIter a ty x t i:=let ⟨o,ho,r⟩:=q;⟨o,k o ho,r⟩
noncomputable def zdu (l:List Nat):List PV:=l.map fun c=> .str [c]
theorem zt9 {I:Addr}{l:List Nat}{t:Tok}:
  Src g I [] (zdu l) (fun ad i h=> I∈ad.b∧h.IsStrIter I "str_ascii_iterator" ⟨l.toArray⟩ t i) where
 frame:=fun ad ad' i h h' st x k=> ⟨x.bb _ st.1,zqq st.2 (fun o e=> k I (.inl rfl) o e)⟩
 cs:=fun A ad i p s Q E hA e st hQ=> by
  simp only [zdu,List.getElem?_map,xh] at e
  refine bc fun J=> ?_
  obtain ⟨c,e1,rfl⟩:=e
  refine J ?_
  refine zih st.2 (c:=c) (by simpa using e1) fun h' hit' hs'=> ?_
  exact hQ _ h' _ ⟨st.1,hit'⟩ (ze0 rfl) hs'
 csEnd:=fun A ad s Q E hA st hE=> zk2 hA st.2 (by simp [zdu]) hE
 self:=fun A ad i s Q E st hQ=> wpAny_pyIter_striter_ascii st.2 hQ
 typ:=fun ad i h st=> ⟨st.1,let ⟨o,ho,hc,_⟩:=st.2;⟨o,_,ho,hc,by decide⟩⟩
theorem ztj {I:Addr}{n:Nat}:
  Itr g I [I] [] ((List.range n).map fun (i:Nat)=> PV.int (i:Int)) (fun ad i h=> I∈ad.b∧IsRangeIter h I (i:Nat) ((n:Int) - (i:Nat)) 1) (fun ad i v h=> I∈ad.b∧IsRangeIter h I ((i + 1:Nat):Int) ((n:Int) - ((i + 1:Nat):Int)) 1) false where
 frame:=fun ad ad' i h h' st x k=> ⟨x.bb _ st.1,k I (.inl (by simp)) _ st.2⟩
 item:=fun A ad i p s Q E hA V e st hQ=> by
  simp only [List.getElem?_map,xh] at e
  obtain ⟨c,e1,rfl⟩:=e
  obtain ⟨hi,rfl⟩:i < n∧i=c:=by
   have:=xe.mp e1
   obtain ⟨h1,h2⟩:=this
   simp at h1 h2;exact ⟨h1,h2⟩
  refine wpAny_pyNext_range_item st.2 (by lia) fun h' hit' hs'=> ?_
  refine hQ _ h' _ ⟨st.1, ?_⟩ Jy (Stays.but st.1 hs'.extBut ⟨_,hit'⟩) fun b o hb e=> hs'.extBut b o (fun h=> hb (by simp [h])) e
  have e1:((i + 1:Nat):Int)=(i:Int) + 1:=by lia
  have e2:(n:Int) - ((i + 1:Nat):Int)=(n:Int) - (i:Int) - 1:=by lia
  rw [e2,e1];exact hit'
 go:=fun A elts x1 pos ad i v s Q E m hQ=> zfd m.2 rfl (by decide) (hQ s.heap m (Stays.refl _ _) fun V V V e=> e)
 goN:=fun V ad i v h m=> m
 done:=fun A ad s Q E hA st hQ=> wpAny_pyNext_range_end hA st.2 (by simp) fun h' he'=> hQ h' fun b o hb e=> he' b o (fun h=> hb (by simp [h])) e
 self:=fun A ad i s Q E st hQ=> wpAny_pyIter_rangeiter st.2 hQ
 ban:=fun ad i h st b hb=> by simp at hb;subst hb;exact st.1
end
end
section
noncomputable def za0 (l:List PV):List PV:=l.zipIdx.map fun p=> .tup [.int (p.2:Int),p.1]
theorem zs0 {l:List PV}{i:Nat}{q:PV} (e:(za0 l)[i]? =some q):∃ p,l[i]? =some p∧q= .tup [.int (i:Int),p]:=by
 unfold za0 at e
 simp only [List.getElem?_map,List.getElem?_zipIdx,Option.map_map,xh] at e
 obtain ⟨p,e1,rfl⟩:=e
 exact ⟨p,e1,by simp⟩
theorem zjd (l:List PV):(za0 l).length=l.length:=by simp [za0]
section
variable {g:GC}{I e:Addr}{fp:List Addr}{its:List PV}{St:AD→Nat→Heap→Prop}{A:Around}{E:Value→Shared→Prop}
theorem zgt (X:Src g I fp its St) {s:Shared}{ad:AD}{i:Nat}{p:PV}{old:Value}{Q:Value→Shared→Prop} (hA:A.handled=none)
  (hen:IsEnum s.heap e I i old) (st:St ad i s.heap) (hx:its[i]? =some p) (hne:e≠I) (hfp:e∉fp) (heb:e∈ad.b)
  (hQ:∀ h' tk T x u,IsEnumOut h' e I ((i:Int) + 1) x T→St ad (i + 1) h'→zk g ad h' p x→h'.get? T=some {cls:= .type "tuple",data:= .seq #[.int i u,x]}→s.heap.get? T=none→
   (∀ b o,b≠e→b≠I→s.heap.get? b=some o→h'.get? b=some o)→Q (.ref T) {s with heap:=h',toks:=tk}):
  wpAny (model g.prog g.w) A (Builtin.«enumerate.__next__» ⟨[.ref e],[]⟩) (fun fin s'=> ∃ v,fin= .done (.ret v)∧Q v s') E s:=by
 obtain ⟨hp,gg,d,tk,os⟩:=s
 have hIb:=(X.typ _ _ _ st).1
 show wpAny _ _ (field (.ref e) 2 >>=_) _ _ _
 refine xa (wpAny_field hen rfl (x:= .ref I) rfl ?_)
 refine xa (X.nextOf hA hx st fun x h₁ tk₁ st₁ r₁ hs₁=> ?_)
 replace hs₁:Heap.SameBut I hp h₁:=hs₁
 have he₁:IsEnum h₁ e I i old:=(hs₁.2 e hne).trans hen
 show wpAny _ _ (field (.ref e) 3 >>=_) _ _ ⟨h₁,gg,d,tk₁,os⟩
 refine xa (wpAny_field he₁ rfl (x:=rawInt i) rfl ?_)
 show wpAny _ _ (field (.ref e) 4 >>=_) _ _ ⟨h₁,gg,d,tk₁,os⟩
 refine xa (wpAny_field he₁ rfl (x:= .none) rfl ?_)
 show wpAny _ _ (mkInt i >>=_) _ _ ⟨h₁,gg,d,tk₁,os⟩
 refine xa (wpAny_mkInt ?_)
 show wpAny _ _ (setField (.ref e) 3 (rawInt ((i:Int) + 1)) >>=_) _ _ ⟨h₁,gg,d,tk₁ + 1,os⟩
 refine xa (wpAny_setField_rec he₁ (by simp) fun h₂ he₂ hs₂=> ?_)
 replace hs₂:Heap.SameBut e h₁ h₂:=hs₂
 replace he₂:IsEnum h₂ e I ((i:Int) + 1) old:=he₂
 show wpAny _ _ (setField (.ref e) 4 .none >>=_) _ _ ⟨h₂,gg,d,tk₁ + 1,os⟩
 refine xa (wpAny_setField_rec he₂ (by simp) fun h₃ he₃ hs₃=> ?_)
 replace hs₃:Heap.SameBut e h₂ h₃:=hs₃
 replace he₃:IsEnum h₃ e I ((i:Int) + 1) old:=he₃
 show wpAny _ _ (newTuple [.int i tk₁,x] >>=_) _ _ ⟨h₃,gg,d,tk₁ + 1,os⟩
 refine xa (wpAny_newTuple ?_)
 have he₄:IsEnum (h₃.push {cls:= .type "tuple",data:= .seq #[.int i tk₁,x]}) e I ((i:Int) + 1) old:=xb _ he₃
 generalize hh₄:h₃.push {cls:= .type "tuple",data:= .seq #[.int i tk₁,x]}=h₄ at he₄
 have hsz:h₃.objs.size=hp.objs.size:=by rw [hs₃.1,hs₂.1,hs₁.1]
 have hel:e < hp.objs.size:=Heap.lt_size hen
 have ht₄:h₄.get? hp.objs.size=some {cls:= .type "tuple",data:= .seq #[.int i tk₁,x]}:=by rw [←hh₄,←hsz];exact xj _ rfl
 have hk₁₄:∀ b o,b≠e→h₁.get? b=some o→h₄.get? b=some o:=fun b o hbe hb=> by
  rw [←hh₄];exact xb _ (hs₃.extBut b o hbe (hs₂.extBut b o hbe hb))
 show wpAny _ _ (Builtin.SmallTypes.ownedTupleIsFree (.ref e) >>=_) _ _ ⟨h₄,gg,d,tk₁ + 1,os⟩
 rw [hsz]
 clear hh₄ he₃ hs₃ he₂ hs₂ hsz h₃ h₂
 refine xa ?_
 ·unfold Builtin.SmallTypes.ownedTupleIsFree
  refine xa (wpAny_field he₄ rfl (x:= .none) rfl (xg ?_))
  refine J4 rfl ?_
  refine xa (wpAny_rule ?_)
  refine xa (wpAny_field he₄ rfl (x:=old) rfl ?_)
  refine xa (wpAny_setField_rec he₄ (by simp) fun h₅ he₅ hs₅=> ?_)
  replace hs₅:Heap.SameBut e h₄ h₅:=hs₅
  replace he₅:IsEnum h₅ e I ((i:Int) + 1) x:=he₅
  show wpAny _ _ (Builtin.SmallTypes.ownedTupleHandOut (.ref e) (.ref hp.objs.size) >>=_) _ _ ⟨h₅,gg,d,tk₁ + 1,os⟩
  refine xa ?_
  ·unfold Builtin.SmallTypes.ownedTupleHandOut
   refine xa (wpAny_setField_rec he₅ (by simp) fun h₆ he₆ hs₆=> ?_)
   replace hs₆:Heap.SameBut e h₅ h₆:=hs₆
   replace he₆:IsEnumOut h₆ e I ((i:Int) + 1) x hp.objs.size:=he₆
   refine wpAny_setField_rec he₆ (by simp) fun h₇ he₇ hs₇=> ?_
   replace hs₇:Heap.SameBut e h₆ h₇:=hs₇
   replace he₇:IsEnumOut h₇ e I ((i:Int) + 1) x hp.objs.size:=he₇
   have up:∀ b o,b≠e→h₁.get? b=some o→h₇.get? b=some o:=fun b o hb x=> hs₇.extBut _ _ hb (hs₆.extBut _ _ hb (hs₅.extBut _ _ hb (hk₁₄ b o hb x)))
   have sx:Stays ad ad h₁ h₇:=Stays.but heb up ⟨_,he₇⟩
   refine xa (wpAny_letGo (xg ⟨_,rfl,hQ h₇ _ hp.objs.size x tk₁ he₇ (X.frame _ _ _ _ _ st₁ sx fun b hb o y=> up b o ?_ y) (zk.stays sx p x r₁) ?_ (get?_size hp) ?_⟩))
   ·rcases hb with rfl | hb
    ·exact hne.symm
    ·exact fun h=> hfp (h▸hb)
   ·exact hs₇.extBut _ _ (Nat.ne_of_gt hel) (hs₆.extBut _ _ (Nat.ne_of_gt hel) (hs₅.extBut _ _ (Nat.ne_of_gt hel) ht₄))
   ·exact fun b o hbe hbi hb=> up b o hbe (hs₁.extBut b o hbi hb)
theorem zwp (X:Src g I fp its St) (hne:e≠I) (hfp:e∉fp):
  Itr g e [e,I] fp (za0 its) (fun ad i h=> e∈ad.b∧(∃ old,IsEnum h e I i old)∧St ad i h)
   (fun ad i v h=> e∈ad.b∧(∃ x T,v= .ref T∧IsEnumOut h e I ((i:Int) + 1) x T)∧St ad (i + 1) h) true where
 frame:=fun ad ad' i h h' st x k=> by
  refine bc fun J=> ?_
  obtain ⟨a,⟨old,b⟩,c⟩:=st
  refine J ?_
  exact ⟨x.bb _ a,⟨old,k e (.inl (by simp)) _ b⟩,X.frame _ _ _ _ _ c x fun b hb=> k b (hb.elim (fun h=> .inl (by simp [h])) .inr)⟩
 item:=fun A ad i p s Q E hA hfr ex st hQ=> by
  obtain ⟨a,⟨old,b⟩,c⟩:=st
  obtain ⟨q,eq,rfl⟩:=zs0 ex
  have hT:s.TypeIs (.ref e) "enumerate":=⟨_,b,rfl⟩
  unfold pyNext
  refine xa (wpAny_attempt (wpAny_callSpecial?_slot (name:=Str.ofString "__next__") hT F.slot_enumerate_next
   (wpAny_call_entry F.slot_enumerate_next hT F.entry_enumerate_next
    (zgt X hA b c eq hne hfp a fun h' tk T x u o1 st1 r1 t1 t0 k1=> xg ?_) (F.args_enumerate_next_1 _))))
  refine hQ _ h' tk ⟨a,⟨x,T,rfl,o1⟩,st1⟩ ?_ ⟨⟨fun b' o' n e'=> k1 b' o' (fun h=> n.2 (h▸a)) (fun h=> n.2 (h▸(X.typ _ _ _ c).1)) e',fun V V e=> e,fun V V V n=> n⟩,fun b' o' e'=> ?_,fun V m=> m⟩ fun b' o' hb e'=> k1 b' o' (fun h=> hb (by simp [h])) (fun h=> hb (by simp [h])) e'
  ·exact ⟨T,#[.int i u,x],rfl,hfr T t0,⟨0,t1⟩,.cons Jy (.cons r1 .nil)⟩
  ·by_cases h1:b'=e
   ·subst h1;exact ⟨_,o1⟩
   ·by_cases h2:b'=I
    ·subst h2;obtain ⟨_,o,_,ho,_⟩:=X.typ _ _ _ st1;exact ⟨o,ho⟩
    ·exact ⟨o',k1 b' o' h1 h2 e'⟩
 go:=fun A elts x1 pos ad i v s Q E m hQ=> by
  refine bc fun J=> ?_
  obtain ⟨a,⟨x,T,rfl,b⟩,c⟩:=m
  refine J ?_
  refine wpAny_letOwnedTupleGo_enum b fun h' he' hs'=> ?_
  have sx:Stays ad ad s.heap h':=Stays.but a hs'.extBut ⟨_,he'⟩
  refine hQ h' ⟨a,⟨x, ?_⟩,X.frame _ _ _ _ _ c sx fun b hb o y=> hs'.extBut b o ?_ y⟩ sx fun b o hb y=> hs'.extBut b o (fun h=> hb (by simp [h])) y
  ·rw [show (((i + 1:Nat):Int))=(i:Int) + 1 by lia];exact he'
  ·rcases hb with rfl | hb
   ·exact hne.symm
   ·exact fun h=> hfp (h▸hb)
 goN:=fun h=> by cases h
 done:=fun A ad s Q E hA st hQ=> by
  obtain ⟨a,⟨old,b⟩,c⟩:=st
  rw [zjd] at b c
  have hT:s.TypeIs (.ref e) "enumerate":=⟨_,b,rfl⟩
  unfold pyNext
  refine xa (wpAny_attempt (wpAny_callSpecial?_slot (name:=Str.ofString "__next__") hT F.slot_enumerate_next
   (wpAny_call_entry F.slot_enumerate_next hT F.entry_enumerate_next ?_ (F.args_enumerate_next_1 _))))
  show wpAny _ _ (field (.ref e) 2 >>=_) _ _ _
  refine xa (wpAny_field b rfl (x:= .ref I) rfl ?_)
  refine xa (X.nextOfEnd hA c fun h' x he' al hx'=> ?_)
  refine bc fun J=> ?_
  obtain ⟨o,ho,hc⟩:=hx'
  refine J ?_
  refine xa (wpAny_isInstance (T:="StopIteration") (b:=true) ⟨o,ho,hc⟩ isSubtype_stop ?_)
  exact xg (hQ _ fun b o hb y=> he' b o (fun h=> hb (by simp [h])) y)
 self:=fun A ad i s Q E st hQ=> by
  obtain ⟨a,⟨old,b⟩,c⟩:=st
  exact wpAny_pyIter_enum b hQ
 ban:=fun ad i h st b hb=> by
  simp at hb
  rcases hb with rfl | rfl
  ·exact st.1
  ·exact (X.typ _ _ _ st.2.2).1
end
end
section
inductive IsGlob (g:GC) (n:Str) (f:Value):Prop
 | glob:nsIn g.K mainGlobals n=some (some f)→IsGlob g n f
 | blt:nsIn g.K mainGlobals n=some none→bootBuiltins n=some f→n≠"__name__"→IsGlob g n f
inductive KeepOk (g:GC):Value→Prop
 | blt (id:String):KeepOk g (.builtin id)
 | type (T:String):KeepOk g (.type T)
 | glob {f:Value}:keepIn g.K f=true→KeepOk g f
section
variable {g:GC}{nm:Nat→Str}{k:Nat}{sc:Scope}{A:Around}{env:Env}{s:Shared}{ad:AD}{U:Ren}{W:Sto}{E:Value→Shared→Prop}
theorem zev {n:Str}{f:Value}{pos:Pos}{Q:Value→Shared→Prop} (he:ES env sc) (kin:g.K.In s.heap) (top:TopRead g.p g.loose g.mg g.mb s.heap) (hn:sc.names.lookup n=some .globalImplicit) (G:IsGlob g n f)
  (hd:(n==("__debug__":Str))=false) (h:Q f s):wpAny (model g.prog g.w) A (eval (.Name n pos) env) Q E s:=by
 have hk:env.scope.kind= .function:=by rw [he.scope];exact he.kind
 have hx:env.kindOf n=some .globalImplicit:=by unfold Env.kindOf;rw [he.scope];exact hn
 refine Calls.Name_function_global hk hx ?_ hd
 have tg:=top.g;have tb:=top.b
 rw [←he.globals] at tg;rw [←he.builtins] at tb
 cases G with
 | glob e=> exact Calls.loadGlobal_global tg (mg_of kin top.g e) h
 | blt e e1 e2=> exact Calls.loadGlobal_builtin tg (mg_none_of kin top.g e) tb ((top.builtins n e2).trans e1) h
theorem zp1 {f:Value} (K:KeepOk g f) (h:Heap) (X:g.K.In h):∃ k,(k=Keeper.frame∨k=Keeper.machine∨k=Keeper.boundFrame)∧Looks (model g.prog g.w) h (keeperOf f) k:=by
 cases K with
 | blt id=> exact ⟨.machine,.inr (.inl rfl),Looks.of_pure rfl⟩
 | type T=> exact ⟨.machine,.inr (.inl rfl),Looks.of_pure rfl⟩
 | glob e=> exact keeps_K e h X
theorem Z0 {f:Value}{first:List Value}{es:List Expr}{fs:List Den}{pvs:List PV}{pos:Pos}{Q:Value→Shared→Prop} (hr:Room k A) (he:ES env sc) (hx:Cx g nm env ad U W s.heap)
  (K:KeepOk g f) (L:jl g nm k sc es fs) (ea:jm fs U W=some pvs) (hplain:(starEach es env).any (·.1)=false)
  (h:∀ vs s',Gr s s'→zh g ad s'.heap pvs vs→wpAny (model g.prog g.w) A (call f (first ++ vs)) Q E s'):
  wpAny (model g.prog g.w) A (callWith pos f first (backTo pos (starEach es env)) []) Q E s:=by
 have hp:(backTo pos (starEach es env)).any (·.1)=false:=by
  unfold backTo;rw [List.any_map];exact hplain
 refine callWith_of (P:=g.K.In) (by rw [hp];rfl) (fun h X=> zp1 K h X) ?_
 have key:=xp (L pos A env s ad U W pvs hr he hx ea E) (fun vs s' h'=> (⟨hx.kin.keeps h'.1.h,h vs s' h'.1 h'.2⟩:g.K.In s'.heap∧wpAny (model g.prog g.w) A (call f (first ++ vs)) Q E s')) fun V V x=> x
 cases hb:backTo pos (starEach es env) with
 | nil=>
  rw [hb] at key
  refine evalArgs_nil3 ?_
  have:wpAny (model g.prog g.w) A (pure []) (fun vs s'=> g.K.In s'.heap∧wpAny (model g.prog g.w) A (call f (first ++ vs)) Q E s') E s:=key
  refine ⟨hx.kin,fun Γ p hΓ=> ?_⟩
  exact (this Γ p hΓ).2 Γ p hΓ
 | cons x rest=>
  obtain ⟨st,t⟩:=x
  rw [hb] at key hp
  have:st=false:=by simp at hp;exact hp.1
  subst this
  exact Calls.evalArgs_plain key
theorem Zc {n:Str}{f:Value}{es:List Expr}{fs:List Den}{pvs:List PV}{p pos:Pos}{Q:Value→Shared→Prop} (hr:Room k A) (he:ES env sc) (hx:Cx g nm env ad U W s.heap) (hn:sc.names.lookup n=some .globalImplicit)
  (G:IsGlob g n f) (K:KeepOk g f) (L:jl g nm k sc es fs) (ea:jm fs U W=some pvs) (hplain:(starEach es env).any (·.1)=false) (hd:(n==("__debug__":Str))=false)
  (h:∀ vs s',Gr s s'→zh g ad s'.heap pvs vs→wpAny (model g.prog g.w) A (call f vs) Q E s'):
  wpAny (model g.prog g.w) A (eval (.Call (.Name n p) es [] pos) env) Q E s:=by
 refine Call_Name rfl ?_
 refine zev he hx.kin hx.top hn G hd ?_
 exact Z0 hr he hx K L ea hplain h
end
noncomputable def OpN (g:GC) (k:Nat) (f:Value) (op:Sto→List PV→Option PV):Prop:=
 ∀ (A:Around) (s:Shared) (ad:AD) (W:Sto) (ps:List PV) (pv:PV) (vs:List Value),Room k A→g.K.In s.heap→TopRead g.p g.loose g.mg g.mb s.heap→StoreOk g ad W s.heap→zh g ad s.heap ps vs→op W ps=some pv→
  Gv g A ad (call f vs) pv s
def zf (op:Sto→List PV→Option PV) (fs:List Den):Den:=fun U W=> match jm fs U W with | some l=> op W l | none=> none
section
variable {g:GC}{nm:Nat→Str}{k:Nat}{sc:Scope}
theorem Snd.call {n:Str}{f:Value}{es:List Expr}{fs:List Den}{p pos:Pos}{op:Sto→List PV→Option PV} (ho:OpN g k f op) (hn:sc.names.lookup n=some .globalImplicit)
  (G:IsGlob g n f) (K:KeepOk g f) (L:jl g nm k sc es fs) (hplain:∀ env,(starEach es env).any (·.1)=false) (hd:(n==("__debug__":Str))=false):
  Snd g nm k sc (.Call (.Name n p) es [] pos) (zf op fs):=by
 intro A env s ad U W pv hr he hx hp E
 unfold zf at hp
 cases ea:jm fs U W with
 | none=> rw [ea] at hp;cases hp
 | some pvs=>
  rw [ea] at hp
  refine Zc hr he hx hn G K L ea (hplain env) hd fun vs s' g' r'=> ?_
  have x':=hx.keeps g'.h
  exact xp (ho A s' ad W pvs pv vs hr x'.kin x'.top x'.sto r' hp E) (fun v s'' q=> ⟨g'.trans q.1,q.2⟩) fun V V x=> x
end
structure ItOk (g:GC) (ad:AD) (h:Heap) (v:Value) (its:List PV) (oit:Obj) (fp:List Addr) (St:Addr→AD→Nat→Heap→Prop):Prop where
 iter:∀ (A:Around) (s':Shared) (Q:Value→Shared→Prop) (E:Value→Shared→Prop),(∀ b o,h.get? b=some o→s'.heap.get? b=some o)→
  Q (.ref s'.heap.objs.size) {s' with heap:=s'.heap.push oit}→wpAny (model g.prog g.w) A (pyIter v) Q E s'
 nf:oit.isFreed=false
 src:∀ I,I∉fp→Src g I fp its (St I)
 al:∀ b∈fp,(∃ o,h.get? b=some o)∧b∉ad.b
 start:∀ (I:Addr) (ad':AD) (h':Heap),I∈ad'.b→h'.get? I=some oit→Stays ad ad' h h'→(∀ b∈fp,∀ o,h.get? b=some o→h'.get? b=some o)→St I ad' 0 h'
def pIt (W:Sto) (p:PV):Option (List PV):=match dr W p with
 | .lst l=> if ze l.length then some l else none
 | .tup l=> if ze l.length then some l else none
 | .str l=> if (l.all (· < 128)) && ze l.length then some (zdu l) else none
 | _=> none
noncomputable def Q5 (base:Nat):PV→Bool
 | .mref i=> decide (i < base)
 | _=> true
theorem zjw {α:Type}{l:List α} (n:l.Nodup) {i j:Nat} (h:i < l.length) (h':j < l.length) (e:l[i]=l[j]):i=j:=by
 have p:=List.pairwise_iff_getElem.mp n
 rcases Nat.lt_trichotomy i j with h1 | h1 | h1
 ·exact absurd e (p i j h h' h1)
 ·exact h1
 ·exact absurd e.symm (p j i h' h h1)
theorem zbi {g:GC}{ad:AD}{W:Sto}{h:Heap}{p:PV}{v:Value}{its:List PV} (S:StoreOk g ad W h) (r:zk g ad h p v) (e:pIt W p=some its):∃ oit fp St,ItOk g ad h v its oit fp St∧(∀ base,Q5 base p=true→∀ b∈fp,∀ (j:Nat),ad.m[j]? =some b→j < base):=by
 have lists:∀ (l:List PV) (a:Addr) (vs:Array Value),v= .ref a→h.PlainList a vs→zh g ad h l vs.toList→a∉ad.b→(∀ base,Q5 base p=true→∀ (j:Nat),ad.m[j]? =some a→j < base)→(if ze l.length then some l else none)=some its→∃ oit fp St,ItOk g ad h v its oit fp St∧(∀ base,Q5 base p=true→∀ b∈fp,∀ (j:Nat),ad.m[j]? =some b→j < base):=by
  rintro l a vs rfl pl rs nb nr e
  obtain ⟨h1,rfl⟩:=z0 e
  refine ⟨{cls:= .type "list_iterator",data:= .fields #[.ref a,.int 0 0]},[a],fun I ad i h=> I∈ad.b∧h.IsListIter I a i∧h.IsList a vs∧zh g ad h l vs.toList,⟨?_,rfl,fun I hI=> zx3 (fun e=> hI (by simp [e])),fun b hb=> ?_,fun I ad' h' hI ho x k=> ⟨hI,⟨_,ho,rfl,rfl⟩, ?_,zh.stays x l _ rs⟩⟩,fun base hf b hb j ej=> (by simp at hb;subst hb;exact nr base hf j ej)⟩
  ·intro A s' Q E k hQ
   exact wpAny_pyIter_list (pl.isList.at fun o e=> k _ _ e) hQ
  ·simp at hb;subst hb;obtain ⟨n,pl⟩:=pl;exact ⟨⟨_,pl⟩,nb⟩
  ·exact pl.isList.at fun o e=> k a (by simp) o e
 unfold pIt at e
 cases p with
 | lst l=> obtain ⟨a,vs,rfl,na,pl,rs⟩:=r;exact lists l a vs rfl pl rs na.2 (fun V V j ej=> absurd (xw ej) na.1) e
 | mref i=>
  delta dr at e;dsimp only at e
  cases ei:W[i]? with
  | none=> rw [ei] at e;exact nn e
  | some l=>
   rw [ei] at e
   obtain ⟨a,rfl,ea⟩:=r
   obtain ⟨vs,pl,rs⟩:=S.at_ i a l ea ei
   exact lists l a vs rfl pl rs (fun m=> S.dis _ m (xw ea)) (fun base h j ej=> by
    have hi:=(xe.mp ea);have hj:=(xe.mp ej)
    obtain ⟨h1,h2⟩:=hi;obtain ⟨h3,h4⟩:=hj
    have:i=j:=zjw S.nd _ _ (h2.trans h4.symm)
    subst this;exact xx h) e
 | tup l=>
  obtain ⟨a,vs,rfl,na,⟨n,ho⟩,rs⟩:=r
  obtain ⟨h1,rfl⟩:=z0 (show (if ze l.length=true then some l else none)=some its from e)
  have it:h.IsTuple a vs:=⟨_,ho,rfl,n,rfl⟩
  refine ⟨{cls:= .type "tuple_iterator",data:= .fields #[.ref a,.int 0 0]},[a],fun I ad i h=> I∈ad.b∧h.IsTupleIter I a i∧h.IsTuple a vs∧zh g ad h l vs.toList,⟨?_,rfl,fun I hI=> zua (fun e=> hI (by simp [e])),fun b hb=> ?_,fun I ad' h' hI ho x k=> ⟨hI,⟨_,ho,rfl,rfl⟩, ?_,zh.stays x l _ rs⟩⟩,fun base hf b hb j ej=> (by simp at hb;subst hb;exact absurd (xw ej) na.1)⟩
  ·intro A s' Q E k hQ
   exact wpAny_pyIter_tuple (zqx it fun o e=> k _ _ e) hQ
  ·simp at hb;subst hb;exact ⟨⟨_,ho⟩,na.2⟩
  ·exact zqx it fun o e=> k a (by simp) o e
 | str l=>
  obtain ⟨t,rfl⟩:=r
  obtain ⟨h1,rfl⟩:=z0 (show (if (l.all (· < 128) && ze l.length)=true then some (zdu l) else none)=some its from e)
  rw [xi] at h1
  refine ⟨{cls:= .type "str_ascii_iterator",data:= .fields #[.str ⟨l.toArray⟩ t,.int 0 0]},[],fun I ad i h=> I∈ad.b∧h.IsStrIter I "str_ascii_iterator" ⟨l.toArray⟩ t i,⟨?_,rfl,fun I hI=> zt9,fun b hb=> (by cases hb),fun I ad' h' hI ho x k=> ⟨hI,⟨_,ho,rfl,rfl⟩⟩⟩,fun V V b hb=> (by cases hb)⟩
  intro A s' Q E k hQ
  exact wpAny_pyIter_ascii (by simpa using h1.1) hQ
 | _=> exact nn e
abbrev zai:=Nat→Ren→Sto→Option (List PV)
noncomputable def SIk (g:GC) (ad:AD) (s:Shared) (base:Nat) (py:Bool) (its:List PV) (Q:Value→Shared→Prop):Prop:=∀ I s' wr fp St Mid hm,Gr s s'→Itr g I wr fp its St Mid py→(∀ b o,s.heap.get? b=some o→hm.get? b=some o)→(∀ b o,hm.get? b=some o→s'.heap.get? b=some o)→(∀ b∈wr,hm.get? b=none)→(∀ b∈wr,∃ o,s'.heap.get? b=some o)→(∀ b∈fp,(∃ o,hm.get? b=some o)∧b∉ad.b∧b∉wr)→(∀ b∈fp,∀ (j:Nat),ad.m[j]? =some b→j < base)→
 (∀ ad' h',(∀ b∈wr,b∈ad'.b)→Stays ad ad' hm h'→(∀ b o,b∈wr∨b∈fp→s'.heap.get? b=some o→h'.get? b=some o)→St ad' 0 h')→ze its.length=true→Q (.ref I) s'
noncomputable def SI (g:GC) (nm:Nat→Str) (k:Nat) (sc:Scope) (py:Bool) (e:Expr) (f:zai):Prop:=
 ∀ (A:Around) (env:Env) (s:Shared) (ad:AD) (base:Nat) (U:Ren) (W:Sto) (its:List PV),Room k A→ES env sc→Cx g nm env ad U W s.heap→f base U W=some its→
  ∀ (Q:Value→Shared→Prop) (E:Value→Shared→Prop),SIk g ad s base py its Q→wpAny (model g.prog g.w) A (eval e env) (fun x s₁=> wpAny (model g.prog g.w) A (pyIter x) Q E s₁) E s
def fIt (f:Den):zai:=fun base U W=> match f U W with
 | some p=> if Q5 base p then pIt W p else none
 | none=> none
def zac (f:Den):zai:=fun base U W=> match f U W with
 | some p=> if Q5 base p then (pIt W p).map za0 else none
 | none=> none
theorem zea {W:Sto}{p:PV}{its:List PV} (e:pIt W p=some its):ze its.length=true:=by
 unfold pIt at e
 generalize dr W p=q at e
 cases q with
 | lst l=> obtain ⟨h,rfl⟩:=z0 e;exact h
 | tup l=> obtain ⟨h,rfl⟩:=z0 e;exact h
 | str l=> obtain ⟨h,rfl⟩:=z0 e;rw [xi] at h;simpa [zdu] using h.2
 | _=> exact nn e
section
variable {g:GC}{nm:Nat→Str}{k:Nat}{sc:Scope}
theorem SI.val {e:Expr}{f:Den} (h:Snd g nm k sc e f):SI g nm k sc false e (fIt f):=by
 intro A env s ad base U W its hr he hx hp Q E hQ
 unfold fIt at hp
 cases e1:f U W with
 | none=> rw [e1] at hp;cases hp
 | some p=>
  rw [e1] at hp
  simp only at hp
  obtain ⟨h1,hp⟩:Q5 base p=true∧pIt W p=some its:=by split at hp;exact ⟨by assumption,hp⟩;cases hp
  refine xp (h A env s ad U W p hr he hx e1 E) (fun v s₁ h₁=> ?_) fun V V x=> x
  have x1:=hx.keeps h₁.1.h
  refine bc fun J=> ?_
  obtain ⟨oit,fp,St,X,hno⟩:=zbi x1.sto h₁.2 hp
  refine J ?_
  refine X.iter A s₁ _ _ (fun V V e=> e) ?_
  have hI:s₁.heap.objs.size∉fp:=fun m=> by
   obtain ⟨⟨o,e⟩,_⟩:=X.al _ m
   exact Nat.lt_irrefl _ (Heap.lt_size e)
  have hpush:Gr s₁ {s₁ with heap:=s₁.heap.push oit}:=Gr.push s₁ _ _
  refine hQ s₁.heap.objs.size _ [s₁.heap.objs.size] fp (St s₁.heap.objs.size) _ s₁.heap (h₁.1.trans hpush) (X.src _ hI).itr h₁.1.h hpush.h (fun b hb=> ?_) (fun b hb=> ?_) (fun b hb=> ?_) (hno base h1) (fun ad' h' hw hst hk=> ?_) (zea hp)
  ·simp at hb;subst hb;exact get?_size _
  ·simp at hb;subst hb;exact ⟨_,xj _ X.nf⟩
  ·obtain ⟨⟨o,e⟩,nb⟩:=X.al b hb
   exact ⟨⟨o,e⟩,nb,fun m=> by simp at m;subst m;exact hI hb⟩
  ·refine X.start _ _ _ (hw _ (by simp)) (hk _ _ (.inl (by simp)) (xj _ X.nf)) hst fun b hb o e=> hk b o (.inr hb) (hpush.h _ _ e)
end
end
section
section
variable {g:GC}
noncomputable def Zg (g:GC) (v:Value) (oit:Obj) (h:Heap):Prop:=
 ∀ (A:Around) (s':Shared) (Q:Value→Shared→Prop) (E:Value→Shared→Prop),(∀ b o,h.get? b=some o→s'.heap.get? b=some o)→
  Q (.ref s'.heap.objs.size) {s' with heap:=s'.heap.push oit}→wpAny (model g.prog g.w) A (pyIter v) Q E s'
noncomputable def zcj (I:Addr):Obj:={cls:= .type "enumerate",data:= .fields #[.none,.bool false,.ref I,rawInt 0,.none,.none]}
theorem zxt {M:Model}{A:Around}{α:Type}{a:α}{Q:α→Shared→Prop}{E:Value→Shared→Prop}{s:Shared} (h:∀ a,Q a s):wpAny M A (pure a) Q E s:=xg (h a)
theorem zeu (v:Value) (oit:Obj):
  MeetsIn g.prog g.w (Builtin.«enumerate.__new__» ⟨[.type "enumerate",v],[]⟩) (fun V R s=> Zg g v oit s.heap∧
   R (.ok (.ret (.ref (s.heap.push oit).objs.size))) {s with heap:=(s.heap.push oit).push (zcj s.heap.objs.size)}):=
 .of_wp fun A R s h=> by
  obtain ⟨hp,gg,d,tk,os⟩:=s;obtain ⟨hl,h⟩:=h
  have hsub:=sub_enumerate
  have hL:∀ {A:Around}{Q:Value→Shared→Prop}{E:Value→Shared→Prop},Q (.ref hp.objs.size) ⟨hp.push oit,gg,d,tk,os⟩→wpAny (model g.prog g.w) A (pyIter v) Q E ⟨hp,gg,d,tk,os⟩:=fun h=> hl _ ⟨hp,gg,d,tk,os⟩ _ _ (fun V V e=> e) h
  wp_walk
  refine wpAny_stack_any fun st=> zxt fun b=> ?_
  cases b
  ·wp_walk using hL
   exact ⟨_,rfl,h⟩
  ·wp_walk using hL
   exact ⟨_,rfl,h⟩
theorem zss {A:Around}{s:Shared}{E:Value→Shared→Prop}{v:Value}{oit:Obj}{Q:Value→Shared→Prop} (hI:Zg g v oit s.heap)
  (h:Q (.ref (s.heap.push oit).objs.size) {s with heap:=(s.heap.push oit).push (zcj s.heap.objs.size)}):wpAny (model g.prog g.w) A (call (.type "enumerate") [v]) Q E s:=by
 refine callType_newIn F.called_enumerate (by decide) (F.typeCall_enumerate_1 _) (F.newCall_enumerate_1 _) (fun obj=> F.args_object_init_2 obj _) F.entry_enumerate_new
  (zeu v oit) ⟨hI, ?_⟩
 exact ⟨⟨_,xj _ rfl,rfl⟩,h⟩
end
section
variable {g:GC}{nm:Nat→Str}{k:Nat}{sc:Scope}
theorem SI.enum {e:Expr}{f:Den}{p pos:Pos} (hn:sc.names.lookup ("enumerate":Str)=some .globalImplicit) (G:IsGlob g "enumerate" (.type "enumerate")) (h:Snd g nm k sc e f) (hst:∀ env,starEach [e] env=[(false,eval e env)]):
  SI g nm k sc true (.Call (.Name "enumerate" p) [e] [] pos) (zac f):=by
 intro A env s ad base U W its hr he hx hp Q E hQ
 unfold zac at hp
 cases e1:f U W with
 | none=> rw [e1] at hp;cases hp
 | some q=>
  rw [e1] at hp
  simp only at hp
  obtain ⟨h1,hp⟩:Q5 base q=true∧(pIt W q).map za0=some its:=by split at hp;exact ⟨by assumption,hp⟩;cases hp
  obtain ⟨its0,e2,rfl⟩:=xh.mp hp
  have L:jl g nm k sc [e] [f]:=jl.cons h jl.nil hst
  refine Zc hr he hx hn G (.type _) L (pvs:=[q]) (zt e1 rfl) (by rw [hst];rfl) (by decide) fun vs s₁ g₁ r₁=> ?_
  obtain ⟨v,vs',rfl,r₁,r0⟩:=r₁.inv_cons
  rw [r0.inv_nil]
  have x1:=hx.keeps g₁.h
  refine bc fun J=> ?_
  obtain ⟨oit,fp,St,X,hno⟩:=zbi x1.sto r₁ e2
  refine J ?_
  refine zss (oit:=oit) X.iter ?_
  have hI:s₁.heap.objs.size∉fp:=fun m=> by
   obtain ⟨⟨o,e⟩,_⟩:=X.al _ m
   exact Nat.lt_irrefl _ (Heap.lt_size e)
  have hz:(s₁.heap.push oit).objs.size=s₁.heap.objs.size + 1:=xv ..
  have hE:(s₁.heap.push oit).objs.size∉fp:=fun m=> by
   obtain ⟨⟨o,e⟩,_⟩:=X.al _ m
   have h9:(s₁.heap.push oit).objs.size < s₁.heap.objs.size:=Heap.lt_size e
   rw [hz] at h9;exact absurd h9 (by lia)
  have hne:(s₁.heap.push oit).objs.size≠s₁.heap.objs.size:=by rw [hz];exact Nat.succ_ne_self _
  have gp:Gr s₁ {s₁ with heap:=(s₁.heap.push oit).push (zcj s₁.heap.objs.size)}:=Gr.of_heap fun b o e=> xb _ (xb _ e)
  have he1:((s₁.heap.push oit).push (zcj s₁.heap.objs.size)).get? (s₁.heap.push oit).objs.size=some (zcj s₁.heap.objs.size):=xj _ rfl
  have hi1:((s₁.heap.push oit).push (zcj s₁.heap.objs.size)).get? s₁.heap.objs.size=some oit:=xb _ (xj _ X.nf)
  refine wpAny_pyIter_enum he1 ?_
  refine hQ (s₁.heap.push oit).objs.size _ [(s₁.heap.push oit).objs.size,s₁.heap.objs.size] fp _ _ s₁.heap (g₁.trans gp) (zwp (X.src _ hI) hne hE) g₁.h gp.h (fun b hb=> ?_) (fun b hb=> ?_) (fun b hb=> ?_) (hno base h1) (fun ad' h' hw hst hk=> ?_) (by rw [zjd];exact zea e2)
  ·cases e2:s₁.heap.get? b with
   | none=> rfl
   | some o=>
    have h9:b < s₁.heap.objs.size:=Heap.lt_size e2
    rcases List.mem_cons.mp hb with rfl | hb
    ·rw [hz] at h9;exact absurd h9 (Nat.not_lt.mpr (Nat.le_succ _))
    ·simp at hb;subst hb;exact absurd h9 (Nat.lt_irrefl _)
  ·simp at hb
   rcases hb with rfl | rfl
   ·rw [←hz];exact ⟨_,he1⟩
   ·exact ⟨_,hi1⟩
  ·obtain ⟨⟨o,e⟩,nb⟩:=X.al b hb
   refine ⟨⟨o,e⟩,nb,fun m=> ?_⟩
   simp at m
   rcases m with rfl | rfl
   ·exact hE (by rw [hz];exact hb)
   ·exact hI hb
  ·refine ⟨hw _ (by simp),⟨.none,hk _ _ (.inl (by simp)) he1⟩,X.start _ _ _ (hw _ (by simp)) (hk _ _ (.inl (by simp)) hi1) hst fun b hb o e=> hk b o (.inr hb) (gp.h _ _ e)⟩
noncomputable def zgv (n:Nat):zai:=fun V V V=> some ((List.range n).map fun (i:Nat)=> PV.int (i:Int))
theorem SI.range {n:Nat}{p p' pos:Pos}{x:Nat}{i:Int} (hi:i=(n:Int)) (hn:sc.names.lookup ("range":Str)=some .globalImplicit) (G:IsGlob g "range" (.type "range")) (h1000:n≤1000):
  SI g nm k sc false (.Call (.Name "range" p) [.Constant (.int i) x p'] [] pos) (zgv n):=by
 intro A env s ad base U W its hr he hx hp Q E hQ
 cases hp
 have L:jl g nm k sc [.Constant (.int i) x p'] [dC (.int i)]:=jl.cons Snd.int jl.nil fun V=> rfl
 refine Zc hr he hx hn G (.type _) L (pvs:=[.int i]) rfl rfl (by decide) fun vs s₁ g₁ r₁=> ?_
 obtain ⟨v,vs',rfl,r₁,r0⟩:=r₁.inv_cons
 rw [r0.inv_nil]
 obtain ⟨t,rfl⟩:=r₁
 refine call_range_1 ?_
 refine wpAny_pyIter_range (a:=0) (b:=i) (c:=1) (xj _ rfl) ?_ ?_
 ·subst hi
  have hs:Builtin.Range.rangeSize 0 (n:Int) 1=(n:Int):=by rw [rangeSize_one];split <;> lia
  unfold Builtin.Range.small
  rw [hs]
  simp [Builtin.Range.rangeFitsLong]
  lia
 ·have hs:Builtin.Range.rangeSize 0 i 1=(n:Int):=by subst hi;rw [rangeSize_one];split <;> lia
  rw [hs]
  have gp:Gr s₁ {s₁ with heap:=(s₁.heap.push {cls:= .type "range",data:= .fields #[.int 0 s₁.toks,.int i t,.int 1 (s₁.toks + 1)]}).push {cls:= .type "range_iterator",data:= .fields #[rawInt 0,rawInt (n:Int),rawInt 1]},toks:=s₁.toks + 1 + 1}:=
   Gr.of_heap fun b o e=> xb _ (xb _ e)
  refine hQ _ _ [_] [] _ _ s₁.heap (g₁.trans gp) ztj g₁.h gp.h (fun b hb=> ?_) (fun b hb=> ?_) (fun b hb=> (by cases hb)) (fun b hb=> (by cases hb)) (fun ad' h' hw hst hk=> ⟨hw _ (by simp), ?_⟩) (by simpa [ze] using x8 h1000 (by decide))
  ·simp at hb;subst hb
   cases e2:s₁.heap.get? (s₁.heap.objs.size + 1) with
   | none=> rfl
   | some o=>
    have h9:s₁.heap.objs.size + 1 < s₁.heap.objs.size:=Heap.lt_size e2
    exact absurd h9 (by lia)
  ·simp at hb;subst hb
   have:=xj (s₁.heap.push {cls:= .type "range",data:= .fields #[.int 0 s₁.toks,.int i t,.int 1 (s₁.toks + 1)]}) (o:={cls:= .type "range_iterator",data:= .fields #[rawInt 0,rawInt (n:Int),rawInt 1]}) rfl
   rw [xv] at this
   exact ⟨_,this⟩
  ·have:=hk _ _ (.inl (List.mem_singleton_self _)) (xj (s₁.heap.push {cls:= .type "range",data:= .fields #[.int 0 s₁.toks,.int i t,.int 1 (s₁.toks + 1)]}) (o:={cls:= .type "range_iterator",data:= .fields #[rawInt 0,rawInt (n:Int),rawInt 1]}) rfl)
   simpa using this
end
end
section
theorem zn5 (s:Shared) (g:Nat) (x:GenState):(s.setGen g x).toks=s.toks:=rfl
theorem zj4 {M:Model}{Γ:Ctx}{p:Pos}{t:Sem Fin}{fs:List Frame}{s s':Shared}{e:End} (h:Runs M Γ p t fs s e s'):s.toks≤s'.toks:=by
 induction h
 all_goals ((try simp only [zn5] at *);first | exact x9 _ | assumption | lia)
theorem zqy {M:Model}{Γ:Ctx}{p:Pos}{g:Nat}{r:Resume}{s s':Shared}{res:GenResult} (h:Wakes M Γ p g r s res s'):s.toks≤s'.toks:=by
 delta Wakes at h
 generalize s.gens[g]? =o at h
 have k:∀ {q:Prop},q∧s'=s→s.toks≤s'.toks:=fun x=> x.2▸x9 _
 cases o with
 | none=> exact h.elim
 | some x=>
  have k1:∀ {M:Model}{Γ:Ctx}{p:Pos}{t:Sem Fin}{fs:List Frame}{c:End→Prop},(∃ e s1,Runs M Γ p t fs (s.setGen g .running) e s1∧c e∧res=e.result∧s'=s1.setGen g e.genState)→s.toks≤s'.toks:=fun x=> by obtain ⟨_,_,a,_,_,rfl⟩:=x;exact (zj4 a:)
  cases x with
  | fresh c=>
   cases r with
   | send v=> cases v with
    | none=> exact k1 h
    | _=> exact k h
   | throw x=> exact h.2▸x9 _
  | suspended k₀ b c₀ p₀ fs d=> exact k1 h
  | _=> exact k h
set_option tactic.hygienic true in
theorem zsf {α:Type}{M:Model}{Γ:Ctx}{n:Nat}:∀ (t:Sem α) (Q:α→Pos→Shared→Prop) (E:Value→Pos→Shared→Prop) (p:Pos) (s:Shared),n≤s.toks→Sem.wp M Γ t Q E p s→
  Sem.wp M Γ t (fun a p' s'=> n≤s'.toks∧Q a p' s') (fun a p' s'=> n≤s'.toks∧E a p' s') p s:=by
 intro t
 induction t with
 | pure a=> intro Q E p s hn h;rw [Sem.wp] at h⊢;exact ⟨hn,h⟩
 | raise a=> intro Q E p s hn h;rw [Sem.wp] at h⊢;exact ⟨hn,h⟩
 | call c hh _ _ k ih=>
  intro Q E p s hn h;rw [Sem.wp] at h⊢
  refine bc fun J=> ?_
  obtain ⟨r,s1,a,b⟩:=h
  refine J ?_
  exact ⟨r,s1,a,ih r Q E p s1 (x8 hn (zj4 a)) b⟩
 | resume g r _ k ih=>
  intro Q E p s hn h;rw [Sem.wp] at h⊢
  refine bc fun J=> ?_
  obtain ⟨r,s1,a,b⟩:=h
  refine J ?_
  exact ⟨r,s1,a,ih r Q E p s1 (x8 hn (zqy a)) b⟩
 | load a _ k ih=> intro Q E p s hn h;rw [Sem.wp] at h⊢;obtain ⟨o,a,b⟩:=h;exact ⟨o,a,ih o Q E p s hn b⟩
 | genState g k ih=> intro Q E p s hn h;rw [Sem.wp] at h⊢;obtain ⟨o,a,b⟩:=h;exact ⟨o,a,ih _ Q E p s hn b⟩
 | update a _ f k ih=> intro Q E p s hn h;rw [Sem.wp] at h⊢;exact ⟨h.1,ih _ Q E p _ hn h.2⟩
 | choose src n k ih=> intro Q E p s hn h;rw [Sem.wp] at h⊢;exact ⟨h.1,ih _ Q E p _ hn h.2⟩
 | fresh k ih=> intro Q E p s hn h;rw [Sem.wp] at h⊢;exact ih _ Q E p _ (Nat.le_succ_of_le hn) h
 | _=> first | (intro Q E p s hn h;rw [Sem.wp] at h⊢;exact h.elim) | (rename_i ih;intro Q E p s hn h;rw [Sem.wp] at h⊢;exact ih _ Q E _ _ hn h)
theorem zh9 {α:Type}{M:Model}{A:Around}{t:Sem α}{Q:α→Shared→Prop}{E:Value→Shared→Prop}{s:Shared} (h:wpAny M A t Q E s):wpAny M A t (fun a s'=> s.toks≤s'.toks∧Q a s') E s:=fun Γ p hΓ=>
 Sem.wp_mono M Γ _ (fun V V V x=> x) (fun V V V x=> x.2) _ _ (zsf t _ _ p s (x9 _) (h Γ p hΓ))
theorem zyc {M:Model}{A:Around}{env:Env}{n:Str}{p:Pos}{v:Value}{Q:Unit→Shared→Prop}{E:Value→Shared→Prop}{s:Shared} (hl:env.kindOf n=some .local) (hk:env.scope.kind= .function)
  (h:wpAny M A (assign (.Name n p) env v) Q E s):wpAny M A (assign (.Name n p) env v) (fun a s'=> 0 < s'.toks∧Q a s') E s:=fun Γ q hΓ=> by
 have h:=h Γ q hΓ
 rw [PySem.assign_Name] at h⊢
 simp only [Sem.wp_bind',Sem.wp_cmd_standAt,Sem.wp_bindName] at h⊢
 rw [storeName_local hl (by rw [hk];rfl)] at h⊢
 obtain ⟨R,e⟩:∃ R:Int→Value→Sem Unit,nsSet env.locals n v=strHash n >>=fun h=> mkText n >>=R h:=⟨_,rfl⟩
 rw [e] at h⊢
 simp only [strHash,Sem.wp_bind',Sem.wp_cmd_ask,Sem.wp_pure',Sem.wp_cmd_mkText] at h⊢
 have h1:=zsf (n:=1) _ _ _ _ _ (Nat.succ_le_succ (yc _)) h
 exact Sem.wp_mono M Γ _ (fun V V V z=> z) (fun V V V z=> z.2) _ _ h1
noncomputable def upd (U:Ren) (i:Nat) (p:PV):Ren:=fun j=> if j=i then some p else U j
noncomputable def ji (env:Env) (n:Str):Addr:=if env.kindOf n=some .local then env.locals else (env.cells.lookup n).getD 0
theorem zdj {h:Heap}{a c:Addr}{m:Str→Option Value}{v:Option Value} (n:h.Ns a m) (x:h.IsCell c v):c≠a:=by
 rintro rfl
 obtain ⟨o,es,ep,ho,hd,_⟩:=n
 obtain ⟨o',ho',hd'⟩:=x
 rw [ho] at ho';cases ho';rw [hd] at hd';cases hd'
theorem ze4 {p:Program}{loose:List Str}{mg mb:Str→Option Value}{ad ad':AD}{h h':Heap} (T:TopRead p loose mg mb h) (t:ad.no mainGlobals∧ad.no builtinsNs∧ad.no cStatics) (x:Stays ad ad' h h'):TopRead p loose mg mb h':=
 ⟨T.g.at' fun o e=> x.keep _ o t.1 e,T.b.at' fun o e=> x.keep _ o t.2.1 e,let ⟨mc,q,r⟩:=T.nolimit;⟨mc,q.at' fun o e=> x.keep _ o t.2.2 e,r⟩,T.builtins,T.free⟩
theorem zeq {K:Frag}{ad ad':AD}{h h':Heap} (X:K.In h) (t:∀ a o,K.lookup a=some o→ad.no a) (x:Stays ad ad' h h'):K.In h':=fun a o e=> x.keep _ _ (t a o e) (X a o e)
theorem StoreOk.stays_b {g:GC}{ad:AD}{W:Sto}{h h':Heap} (S:StoreOk g ad W h) (x:Stays ad ad h h') (k:∀ a∈ad.m,∀ o,h.get? a=some o→h'.get? a=some o):StoreOk g ad W h':=
 ⟨S.len,S.nd,fun b m=> let ⟨o,e⟩:=S.ban b m;x.alive b o e,S.dis,fun i a l e1 e2=> let ⟨vs,p,r⟩:=S.at_ i a l e1 e2;⟨vs,p.at fun o e=> k a (xw e1) o e,zh.stays x l _ r⟩⟩
section
variable {g:GC}{nm:Nat→Str}{sc:Scope}{env:Env}{ad:AD}{U:Ren}{W:Sto}{s:Shared}{A:Around}{E:Value→Shared→Prop}
noncomputable def z5c (sc:Scope) (n:Str):Prop:=sc.names.lookup n=some .local∨sc.names.lookup n=some .cell
theorem zh2 {i:Nat}{n:Str}{p:PV}{v:Value}{Q:Unit→Shared→Prop} (hinj:∀ i j,nm i=nm j→i=j) (hi:nm i=n) (he:ES env sc) (hk:sc.names.lookup n=some .local∨sc.names.lookup n=some .cell) (hb:ji env n∈ad.b) (hx:Cx g nm env ad U W s.heap) (r:zk g ad s.heap p v)
  (h:∀ h' tk,Stays ad ad s.heap h'→(∀ b o,b≠ji env n→s.heap.get? b=some o→h'.get? b=some o)→Cx g nm env ad (upd U i p) W h'→Q () {s with heap:=h',toks:=tk}):
  wpAny (model g.prog g.w) A (storeName env n v) Q E s:=by
 have hkind:env.scope.kind= .function:=by rw [he.scope];exact he.kind
 have hslotm:∀ a∈ad.m,a≠ji env n:=fun a ha e=> hx.sto.dis _ hb (e▸ha)
 obtain ⟨m0,hm0⟩:=hx.sh.ns
 rcases hk with hk | hk
 ·have hko:env.kindOf n=some .local:=by unfold Env.kindOf;rw [he.scope];exact hk
  have hsl:ji env n=env.locals:=by unfold ji;rw [if_pos hko]
  rw [hsl] at hb hslotm
  refine wpAny_storeName_local hko hm0 (fun h' hn' hs'=> ?_) (by rw [hkind];rfl)
  have al:∃ o',h'.get? env.locals=some o':=let ⟨o,_,_,e,_⟩:=hn';⟨o,e⟩
  have x:Stays ad ad s.heap h':=Stays.but hb hs'.extBut al
  refine h h' _ x (fun b o hb' e=> hs'.extBut b o (by rw [hsl] at hb';exact hb') e) ⟨zeq hx.kin hx.kno x,ze4 hx.top hx.tno x,fun j q e=> ?_,hx.sto.stays_b x fun a ha o e=> hs'.extBut a o (hslotm a ha) e,hx.kno,hx.tno,⟨⟨_,hn'⟩,fun n' c e=> let ⟨v,q⟩:=hx.sh.cells n' c e;⟨v,q.sameBut hs' (zdj hm0 q)⟩,hx.sh.apart,hx.sh.has⟩⟩
  unfold upd at e
  by_cases hj:j=i
  ·rw [if_pos hj] at e;cases e;subst hj
   exact ⟨v,zk.stays x p v r,.inl ⟨by rw [hi];exact hko,_,hn',by rw [hi];simp⟩⟩
  ·rw [if_neg hj] at e
   obtain ⟨u,r',l⟩:=hx.eo j q e
   refine ⟨u,zk.stays x q u r', ?_⟩
   have hne:nm j≠n:=fun e=> hj (hinj j i (e.trans hi.symm))
   rcases l with ⟨a,m,b,cc⟩ | ⟨a,c,b,d⟩
   ·have em:m=m0:=by
     refine bc fun J=> ?_
     obtain ⟨o,es,ep,ho,hd,_,hf⟩:=b
     obtain ⟨o',es',ep',ho',hd',_,hf'⟩:=hm0
     refine J ?_
     rw [ho] at ho';cases ho';rw [hd] at hd';cases hd'
     funext x;rw [←hf,←hf']
    subst em
    exact .inl ⟨a,_,hn',by simp [hne];exact cc⟩
   ·exact .inr ⟨a,c,b,d.sameBut hs' (zdj hm0 d)⟩
 ·have hko:env.kindOf n=some .cell:=by unfold Env.kindOf;rw [he.scope];exact hk
  obtain ⟨c,hc⟩:=hx.sh.has n (.inl hko)
  have hsl:ji env n=c:=by unfold ji;rw [if_neg (by rw [hko];decide),hc];rfl
  rw [hsl] at hb hslotm
  obtain ⟨v0,hv0⟩:=hx.sh.cells n c hc
  refine wpAny_storeName_cell hkind hko hc hv0 (fun h' hn' hs'=> ?_)
  have al:∃ o',h'.get? c=some o':=let ⟨o,e,_⟩:=hn';⟨o,e⟩
  have x:Stays ad ad s.heap h':=Stays.but hb hs'.extBut al
  have hcl:c≠env.locals:=zdj hm0 hv0
  refine h h' _ x (fun b o hb' e=> hs'.extBut b o (by rw [hsl] at hb';exact hb') e) ⟨zeq hx.kin hx.kno x,ze4 hx.top hx.tno x,fun j q e=> ?_,hx.sto.stays_b x fun a ha o e=> hs'.extBut a o (hslotm a ha) e,hx.kno,hx.tno,⟨⟨_,hm0.sameBut hs' hcl.symm⟩,fun n' c' e=> ?_,hx.sh.apart,hx.sh.has⟩⟩
  ·unfold upd at e
   by_cases hj:j=i
   ·rw [if_pos hj] at e;cases e;subst hj
    exact ⟨v,zk.stays x p v r,.inr ⟨.inl (by rw [hi];exact hko),c,by rw [hi];exact hc,hn'⟩⟩
   ·rw [if_neg hj] at e
    obtain ⟨u,r',l⟩:=hx.eo j q e
    refine ⟨u,zk.stays x q u r', ?_⟩
    have hne:nm j≠n:=fun e=> hj (hinj j i (e.trans hi.symm))
    rcases l with ⟨a,m,b,cc⟩ | ⟨a,c',b,d⟩
    ·exact .inl ⟨a,m,b.sameBut hs' hcl.symm,cc⟩
    ·exact .inr ⟨a,c',b,d.sameBut hs' fun e=> hne (hx.sh.apart _ _ _ (e▸b) hc)⟩
  ·by_cases h1:c'=c
   ·subst h1;exact ⟨_,hn'⟩
   ·obtain ⟨v,q⟩:=hx.sh.cells n' c' e
    exact ⟨v,q.sameBut hs' h1⟩
end
abbrev Tg:=PV→Ren→Option Ren
noncomputable def STg (g:GC) (nm:Nat→Str) (sc:Scope) (ns:List Str) (t:Expr) (f:Tg):Prop:=
 ∀ (A:Around) (env:Env) (s:Shared) (ad:AD) (U U':Ren) (W:Sto) (p:PV) (v:Value) (Q:Unit→Shared→Prop) (E:Value→Shared→Prop),A.handled=none→ES env sc→(∀ n∈ns,ji env n∈ad.b)→Cx g nm env ad U W s.heap→zk g ad s.heap p v→f p U=some U'→
  (∀ h' tk,Stays ad ad s.heap h'→(∀ b o,(∀ n∈ns,b≠ji env n)→s.heap.get? b=some o→h'.get? b=some o)→Cx g nm env ad U' W h'→Q () {s with heap:=h',toks:=tk})→
  wpAny (model g.prog g.w) A (assign t env v) Q E s
def tNm (i:Nat):Tg:=fun p U=> some (upd U i p)
noncomputable def zc4:List Tg→List PV→Ren→Option Ren
 | [],[],U=> some U
 | f::fs,p::ps,U=> match f p U with | some U'=> zc4 fs ps U' | none=> none
 | _,_,_=> none
def jn (fs:List Tg):Tg:=fun p U=> match p with | .tup l=> if ze l.length then zc4 fs l U else none | _=> none
noncomputable def zkq (g:GC) (nm:Nat→Str) (sc:Scope) (ns:List Str) (ts:List Expr) (fs:List Tg):Prop:=
 (∀ env,(assignEach ts env).length=fs.length∧(assignEach ts env).findIdx? (·.1)=none)∧
 ∀ (A:Around) (env:Env) (s:Shared) (ad:AD) (U U':Ren) (W:Sto) (ps:List PV) (vs:List Value) (Q:Unit→Shared→Prop) (E:Value→Shared→Prop),A.handled=none→ES env sc→(∀ n∈ns,ji env n∈ad.b)→Cx g nm env ad U W s.heap→zh g ad s.heap ps vs→zc4 fs ps U=some U'→
  (∀ h' tk,Stays ad ad s.heap h'→(∀ b o,(∀ n∈ns,b≠ji env n)→s.heap.get? b=some o→h'.get? b=some o)→Cx g nm env ad U' W h'→Q () {s with heap:=h',toks:=tk})→
  wpAny (model g.prog g.w) A (assignInOrder ((assignEach ts env).map (·.2)) vs) Q E s
section
variable {g:GC}{nm:Nat→Str}{sc:Scope}
theorem STg.name {i:Nat}{n:Str}{pos:Pos} (hinj:∀ i j,nm i=nm j→i=j) (hi:nm i=n) (hk:sc.names.lookup n=some .local∨sc.names.lookup n=some .cell):STg g nm sc [n] (.Name n pos) (tNm i):=by
 intro A env s ad U U' W p v Q E hA he hb hx r e h
 cases e
 exact wpAny_assign_Name (zh2 hinj hi he hk (hb n (by simp)) hx r fun h' tk a b c=> h h' tk a (fun b' o hb' e=> b b' o (hb' n (by simp)) e) c)
theorem zkq.nil:zkq g nm sc [] [] []:=by
 refine ⟨fun env=> ⟨rfl,rfl⟩, ?_⟩
 intro A env s ad U U' W ps vs Q E hA he hb hx r e h
 cases ps with
 | nil=> cases e;rw [r.inv_nil];exact wpAny_assignInOrder_none (h s.heap s.toks (Stays.refl _ _) (fun V V V e=> e) hx)
 | cons p ps=> cases e
theorem ze1 {f:Tg}{fs:List Tg}{p:PV}{ps:List PV}{U U':Ren} (e:zc4 (f::fs) (p::ps) U=some U'):∃ U1,f p U=some U1∧zc4 fs ps U1=some U':=by
 have e:(match f p U with | some U'=> zc4 fs ps U' | none=> none)=some U':=e
 generalize f p U=o at e⊢
 cases o with
 | none=> exact nn e
 | some U1=> exact ⟨U1,rfl,e⟩
theorem zog {fs:List Tg}{p:PV}{U U':Ren} (e:jn fs p U=some U'):∃ l,p= .tup l∧zc4 fs l U=some U':=by
 cases p with
 | tup l=> exact ⟨l,rfl,(jg (show (if ze l.length=true then zc4 fs l U else none)=some U' from e)).2⟩
 | _=> exact nn e
theorem zkq.cons {ns ns':List Str}{t:Expr}{ts:List Expr}{f:Tg}{fs:List Tg} (h1:STg g nm sc ns t f) (h2:zkq g nm sc ns' ts fs) (ha:∀ env,assignEach (t::ts) env=(false,assign t env)::assignEach ts env):
  zkq g nm sc (ns ++ ns') (t::ts) (f::fs):=by
 refine ⟨fun env=> ?_, ?_⟩
 ·rw [ha];obtain ⟨a,b⟩:=h2.1 env
  refine ⟨by simp [a], ?_⟩
  rw [List.findIdx?_cons];simp only;rw [b];rfl
 intro A env s ad U U' W ps vs Q E hA he hb hx r e h
 cases ps with
 | nil=> cases e
 | cons p ps=>
  obtain ⟨v,vs',rfl,r1,r2⟩:=r.inv_cons
  rw [ha]
  show wpAny _ A (assignInOrder (assign t env::(assignEach ts env).map (·.2)) (v::vs')) _ E s
  obtain ⟨U1,e1,e⟩:=ze1 e
  ·refine wpAny_assignInOrder_more (h1 A env s ad U U1 W p v _ E hA he (fun n hn=> hb n (List.mem_append_left _ hn)) hx r1 e1 fun h' tk x1 k1 c1=> ?_)
   refine h2.2 A env _ ad U1 U' W ps vs' Q E hA he (fun n hn=> hb n (xu _ hn)) c1 (zh.stays x1 ps _ r2) e fun h'' tk' x2 k2 c2=> ?_
   exact h h'' tk' (x1.trans x2) (fun b o hb' e=> k2 b o (fun n hn=> hb' n (xu _ hn)) (k1 b o (fun n hn=> hb' n (List.mem_append_left _ hn)) e)) c2
theorem zke:∀ {fs:List Tg}{ps:List PV}{U U':Ren},zc4 fs ps U=some U'→fs.length=ps.length
 | [],[],_,_,_=> rfl
 | f::fs,p::ps,U,U',e=> by
  obtain ⟨_,_,e⟩:=ze1 e
  exact congrArg Nat.succ (zke e)
 | [],_::_,_,_,e=> nn e
 | _::_,[],_,_,e=> nn e
theorem STg.tup {ns:List Str}{ts:List Expr}{fs:List Tg}{x1:Nat}{pos:Pos} (h1:zkq g nm sc ns ts fs):STg g nm sc ns (.Tuple ts x1 pos) (jn fs):=by
 intro A env s ad U U' W p v Q E hA he hb hx r e h
 refine bc fun J=> ?_
 obtain ⟨l,rfl,e2⟩:=zog e
 obtain ⟨a,vs,rfl,na,⟨n,ho⟩,rs⟩:=r
 have it:s.heap.IsTuple a vs:=⟨_,ho,rfl,n,rfl⟩
 obtain ⟨l1,l2⟩:=h1.1 env
 refine J ?_
 refine wpAny_assign_Tuple hA it (by rw [l1,zke e2];simpa using rs.length) l2 fun h0 hx0=> ?_
 have k0:∀ b o,s.heap.get? b=some o→h0.get? b=some o:=fun b o e=> hx0 b o (Nat.ne_of_lt (Heap.lt_size e)) e
 refine h1.2 A env {s with heap:=h0} ad U U' W l vs.toList Q E hA he hb (hx.keeps k0) (rs.keeps k0) e2 fun h' tk x2 k2 c2=> ?_
 exact h h' tk ((Stays.of_keeps k0).trans x2) (fun b o hb' e=> k2 b o hb' (k0 b o e)) c2
end
end
section
theorem ST.go {g:GC}{nm:Nat→Str}{k:Nat}{sc:Scope}{e:Expr}{f:q7} (H:ST g nm k sc e f) {A:Around}{env:Env}{s:Shared}{ad:AD}{U:Ren}{W:Sto}{b:Bool} (hr:Room k A) (he:ES env sc) (hx:Cx g nm env ad U W s.heap) (ef:f U W=some b) {Q:Bool→Shared→Prop}{E:Value→Shared→Prop}
  (q:∀ h tk,(∀ b o,s.heap.get? b=some o→h.get? b=some o)→Q b {s with heap:=h,toks:=tk}):wpAny (model g.prog g.w) A (isTrue e env (eval e env)) Q E s:=
 xp (H A env s ad U W b hr he hx ef E) (fun v s' x=> by obtain ⟨⟨⟨h,tk,rfl⟩,k⟩,rfl⟩:=x;exact q h tk k) fun V V x=> x
theorem Snd.go {g:GC}{nm:Nat→Str}{k:Nat}{sc:Scope}{e:Expr}{f:Den} (H:Snd g nm k sc e f) {A:Around}{env:Env}{s:Shared}{ad:AD}{U:Ren}{W:Sto}{pv:PV} (hr:Room k A) (he:ES env sc) (hx:Cx g nm env ad U W s.heap) (ef:f U W=some pv) {Q E:Value→Shared→Prop}
  (q:∀ v h tk,(∀ b o,s.heap.get? b=some o→h.get? b=some o)→zk g ad h pv v→Q v {s with heap:=h,toks:=tk}):wpAny (model g.prog g.w) A (eval e env) Q E s:=
 xp (H A env s ad U W pv hr he hx ef E) (fun v s' x=> by obtain ⟨⟨⟨h,tk,rfl⟩,k⟩,r⟩:=x;exact q v h tk k r) fun V V x=> x
noncomputable def AD.ban (ad:AD) (l:List Addr):AD:=⟨ad.m,l ++ ad.b⟩
theorem AD.ban_no {ad:AD}{l:List Addr}{a:Addr}:(ad.ban l).no a↔ad.no a∧a∉l:=by
 unfold AD.ban AD.no;simp only [List.mem_append,not_or];constructor
 ·rintro ⟨a,b,c⟩;exact ⟨⟨a,c⟩,b⟩
 ·rintro ⟨⟨a,c⟩,b⟩;exact ⟨a,b,c⟩
theorem q9 {h:Heap}{a:Addr}{m:Str→Option Value} (n:h.Ns a m):∃ o,h.get? a=some o:=let ⟨o,_,_,e,_⟩:=n;⟨o,e⟩
theorem Zu {h:Heap}{a:Addr}{v:Option Value} (n:h.IsCell a v):∃ o,h.get? a=some o:=let ⟨o,e,_⟩:=n;⟨o,e⟩
section
variable {g:GC}{nm:Nat→Str}{env:Env}{ad:AD}{U:Ren}{W:Sto}{h h':Heap}{l:List Addr}
theorem Stays.ban (k:∀ b o,h.get? b=some o→h'.get? b=some o) (hf:∀ b∈l,h.get? b=none):Stays ad (ad.ban l) h h':=
 ⟨⟨fun b o V e=> k b o e,fun V V e=> e,fun b o e n=> AD.ban_no.mpr ⟨n,fun m=> by rw [hf b m] at e;exact nn e⟩⟩,fun b o e=> ⟨o,k b o e⟩,fun a m=> xu _ m⟩
theorem qp (hf:∀ b∈l,h.get? b=none) {a:Addr} (hs:∃ o,h.get? a=some o):a∉l:=fun m=> by obtain ⟨o,e⟩:=hs;rw [hf a m] at e;exact nn e
theorem StoreOk.m_some (S:StoreOk g ad W h) {a:Addr} (m:a∈ad.m):∃ o,h.get? a=some o:=by
 obtain ⟨i,ei⟩:=List.getElem?_of_mem m
 have hi:i < W.length:=by simp only [←S.len];exact (xe.mp ei).1
 obtain ⟨vs',⟨n,pl⟩,_⟩:=S.at_ i _ _ ei (xt hi)
 exact ⟨_,pl⟩
theorem StoreOk.banned (S:StoreOk g ad W h) (k:∀ b o,h.get? b=some o→h'.get? b=some o) (hf:∀ b∈l,h.get? b=none) (ha:∀ b∈l,∃ o,h'.get? b=some o):StoreOk g (ad.ban l) W h':=
 ⟨S.len,S.nd,fun b m=> (List.mem_append.mp m).elim (ha b) fun m=> let ⟨o,e⟩:=S.ban b m;⟨o,k b o e⟩,
  fun b m=> (List.mem_append.mp m).elim (fun m m'=> qp hf (S.m_some m') m) (S.dis b),
  fun i a q e1 e2=> let ⟨vs,p,r⟩:=S.at_ i a q e1 e2;⟨vs,p.at fun o e=> k _ _ e,zh.stays (Stays.ban k hf) q _ r⟩⟩
theorem Cx.ban (x:Cx g nm env ad U W h) (k:∀ b o,h.get? b=some o→h'.get? b=some o) (hf:∀ b∈l,h.get? b=none) (ha:∀ b∈l,∃ o,h'.get? b=some o):Cx g nm env (ad.ban l) U W h':=
 ⟨x.kin.keeps k,x.top.keeps k,fun i pv e=> let ⟨v,r,q⟩:=x.eo i pv e;⟨v,zk.stays (Stays.ban k hf) pv v r,q.keeps k⟩,x.sto.banned k hf ha,
  fun a o e=> AD.ban_no.mpr ⟨x.kno a o e,qp hf ⟨o,x.kin a o e⟩⟩,
  ⟨AD.ban_no.mpr ⟨x.tno.1,qp hf (q9 x.top.g)⟩,AD.ban_no.mpr ⟨x.tno.2.1,qp hf (q9 x.top.b)⟩,AD.ban_no.mpr ⟨x.tno.2.2,qp hf (let ⟨_,q,_⟩:=x.top.nolimit;q9 q)⟩⟩,x.sh.keeps k⟩
theorem Mv.unban (k:∀ b o,b∉l→h.get? b=some o→h'.get? b=some o):Mv (ad.ban l) ad h h':=
 ⟨fun b o n e=> k b o (AD.ban_no.mp n).2 e,fun V V e=> e,fun V V V n=> (AD.ban_no.mp n).1⟩
structure Apart (l:List Addr) (env:Env) (ad:AD):Prop where
 b:∀ a∈l,a∉ad.b
 loc:env.locals∉l
 cel:∀ n c,env.cells.lookup n=some c→c∉l
theorem Cx.unban (x:Cx g nm env (ad.ban l) U W h) (q:Apart l env ad) (k:∀ b o,b∉l→h.get? b=some o→h'.get? b=some o):Cx g nm env ad U W h':=
 ⟨fun a o e=> k a o (AD.ban_no.mp (x.kno a o e)).2 (x.kin a o e),
  ⟨x.top.g.at' fun o e=> k _ o (AD.ban_no.mp x.tno.1).2 e,x.top.b.at' fun o e=> k _ o (AD.ban_no.mp x.tno.2.1).2 e,let ⟨mc,q,r⟩:=x.top.nolimit;⟨mc,q.at' fun o e=> k _ o (AD.ban_no.mp x.tno.2.2).2 e,r⟩,x.top.builtins,x.top.free⟩,
  fun i pv e=> by
   obtain ⟨v,r,w⟩:=x.eo i pv e
   refine ⟨v,zk.mv (Mv.unban k) pv v r, ?_⟩
   rcases w with ⟨a,m,b,c⟩ | ⟨a,c,b,d⟩
   ·exact .inl ⟨a,m,b.at' fun o e=> k _ o q.loc e,c⟩
   ·exact .inr ⟨a,c,b,let ⟨o,ho,hd⟩:=d;⟨o,k _ o (q.cel _ _ b) ho,hd⟩⟩,
  ⟨x.sto.len,x.sto.nd,fun b m=> by
    obtain ⟨o,e⟩:=x.sto.ban b (xu _ m)
    exact ⟨o,k b o (fun hb=> q.b b hb m) e⟩,fun b m=> x.sto.dis b (xu _ m),
   fun i a w e1 e2=> by
    obtain ⟨vs,p,r⟩:=x.sto.at_ i a w e1 e2
    exact ⟨vs,p.at fun o e=> k a o (fun hb=> x.sto.dis a (List.mem_append_left _ hb) (xw e1)) e,zh.mv (Mv.unban k) w _ r⟩⟩,
  fun a o e=> (AD.ban_no.mp (x.kno a o e)).1,⟨(AD.ban_no.mp x.tno.1).1,(AD.ban_no.mp x.tno.2.1).1,(AD.ban_no.mp x.tno.2.2).1⟩,
  ⟨let ⟨m,w⟩:=x.sh.ns;⟨m,w.at' fun o e=> k _ o q.loc e⟩,fun n c e=> let ⟨v,o,ho,hd⟩:=x.sh.cells n c e;⟨v,o,k _ o (q.cel _ _ e) ho,hd⟩,x.sh.apart,x.sh.has⟩⟩
end
noncomputable def j4 (scope sc:Scope):Scope:=
 {scope with names:=scope.names.map fun (n,k)=> if (k== .free && sc.kind== .function && sc.names.lookup n==some .cell) then (n,.cell) else (n,k)}
theorem zhr {scope sc:Scope}{env:Env} (he:env.scope=sc):relabel scope env=j4 scope sc:=by subst he;rfl
theorem zhc {sc:Scope}{n:Str}:∀ {names:List (Str×NameKind)},(names.map fun (n,k)=> if (k==NameKind.free && sc.kind== .function && sc.names.lookup n==some .cell) then (n,NameKind.cell) else (n,k)).lookup n=
  (names.lookup n).map fun k=> if (k== .free && sc.kind== .function && sc.names.lookup n==some .cell) then .cell else k
 | []=> rfl
 | (m,k)::r=> by
  have ih:= @zhc sc n r
  refine (?_:List.lookup n ((if (k==NameKind.free && sc.kind== .function && sc.names.lookup m==some .cell)=true then (m,NameKind.cell) else (m,k))::_)=_)
  by_cases hx:n=m
  ·subst hx
   by_cases hc:(k==NameKind.free && sc.kind== .function && sc.names.lookup n==some .cell)=true
   ·rw [if_pos hc];simp only [List.lookup_cons,beq_self_eq_true,Option.map_some];rw [if_pos hc]
   ·rw [if_neg hc];simp only [List.lookup_cons,beq_self_eq_true,Option.map_some];rw [if_neg hc]
  ·have hb:(n==m)=false:=by simpa using hx
   by_cases hc:(k==NameKind.free && sc.kind== .function && sc.names.lookup m==some .cell)=true
   ·rw [if_pos hc];simp only [List.lookup_cons,hb];exact ih
   ·rw [if_neg hc];simp only [List.lookup_cons,hb];exact ih
structure CompOk (sc scope:Scope) (nm:Nat→Str) (vis:List Nat) (ns:List Str):Prop where
 kind:scope.kind= .function
 nodup:(scope.names.map (·.1)).Nodup
 free:∀ x∈scope.names,x.2= .free→sc.names.lookup x.1=some .cell∨sc.names.lookup x.1=some .free
 vis:∀ i∈vis,scope.names.lookup (nm i)=some .free
 tgt:∀ n∈ns,scope.names.lookup n=some .local∨scope.names.lookup n=some .cell
theorem Zj {α:Type}:∀ {l:List (Str×α)}{n:Str}{k:α},(l.map (·.1)).Nodup→(n,k)∈l→l.lookup n=some k
 | (m,j)::r,n,k,hd,hm=> by
  rw [List.map_cons,List.nodup_cons] at hd
  rw [List.lookup_cons]
  rcases List.mem_cons.mp hm with e | hm'
  ·cases e;simp
  ·have:(n==m)=false:=by
    simp only [beq_eq_false_iff_ne];rintro rfl;exact hd.1 (xr.mpr ⟨_,hm',rfl⟩)
   exact this▸Zj hd.2 hm'
noncomputable def zcy (env:Env):List (Str×NameKind)→List (Str×Addr)→List (Str×Addr)
 | [],cs=> cs
 | (n,k)::r,cs=> zcy env r (if k== .free then (n,(env.cells.lookup n).getD 0)::cs else cs)
theorem zgm (env:Env) (n:Str) (k:NameKind) (r:List (Str×NameKind)) (cs:List (Str×Addr)):zcy env ((n,k)::r) cs=zcy env r (if k== .free then (n,(env.cells.lookup n).getD 0)::cs else cs):=rfl
theorem zan {env:Env} (f:Str×NameKind→List (Str×Addr)→Sem (ForInStep (List (Str×Addr))))
  (hf:∀ n k cs,f (n,k) cs=if k== .free then (do let a←cellOf env n;pure (.yield ((n,a)::cs))) else pure (.yield cs)):
  ∀ (names:List (Str×NameKind)) (cs:List (Str×Addr)),(∀ x∈names,x.2= .free→∃ c,env.cells.lookup x.1=some c)→forIn names cs f=pure (zcy env names cs)
 | [],cs,_=> by simp only [List.forIn_nil];rfl
 | (n,k)::r,cs,h=> by
  rw [List.forIn_cons,hf]
  rw [zgm]
  by_cases hk:k= .free
  ·subst hk
   obtain ⟨c,hc⟩:=h (n,.free) xk rfl
   simp only [beq_self_eq_true,if_true]
   have:cellOf env n=pure c:=by unfold cellOf;rw [hc]
   rw [this,hc]
   show (pure (ForInStep.yield ((n,c)::cs)) >>=_)=_
   simp only [pure_bind]
   exact zan f hf r _ fun x hx=> h x (xf _ hx)
  ·have:(k==NameKind.free)=false:=by simpa using hk
   simp only [this,Bool.false_eq_true,if_false,pure_bind]
   exact zan f hf r _ fun x hx=> h x (xf _ hx)
theorem zid {scope:Scope}{env:Env} (h:∀ x∈scope.names,x.2= .free→∃ c,env.cells.lookup x.1=some c):closureFor scope env=pure (zcy env scope.names []):=by
 simp only [closureFor]
 rw [zan (env:=env) _ (fun n k cs=> by cases hkc:k==NameKind.free <;> simp [hkc]) scope.names [] h]
 rfl
theorem zdv {env:Env}{n:Str}:∀ (names:List (Str×NameKind)) (cs:List (Str×Addr)),(zcy env names cs).lookup n=if names.any (fun x=> n==x.1 && x.2== .free) then some ((env.cells.lookup n).getD 0) else cs.lookup n
 | [],cs=> rfl
 | (m,k)::r,cs=> by
  rw [zgm]
  simp only [zdv r]
  rw [List.any_cons]
  by_cases h:r.any (fun x=> n==x.1 && x.2== .free)=true
  ·rw [h,Bool.or_true];rfl
  ·have h':r.any (fun x=> n==x.1 && x.2== .free)=false:=Bool.not_eq_true _▸h
   simp only [h',Bool.or_false]
   by_cases hk:k= .free
   ·subst hk
    by_cases hx:n=m
    ·subst hx;simp
    ·have:(n==m)=false:=by simpa using hx
     simp [List.lookup_cons,this]
   ·have:(k==NameKind.free)=false:=by simpa using hk
    simp [this]
theorem jq:∀ (names:List (Str×NameKind)) (i:Nat) (acc:List (Str×Addr)),cellsFrom i names acc=cellsFrom i names [] ++ acc
 | [],_,_=> rfl
 | (n,k)::r,i,acc=> by
  unfold cellsFrom
  split
  ·rw [jq r (i + 1) ((n,i)::acc),jq r (i + 1) [(n,i)]];simp
  ·exact jq r i acc
set_option tactic.hygienic true in
theorem Q1:∀ (names:List (Str×NameKind)) (i:Nat) (n:Str) (c:Addr),(n,c)∈cellsFrom i names []→(n,.cell)∈names
 | [],_,_,_,h=> by cases h
 | (m,k)::r,i,n,c,h=> by
  unfold cellsFrom at h
  split at h
  ·rename_i hk
   rw [jq] at h
   rcases List.mem_append.mp h with h | h
   ·exact xf _ (Q1 r _ _ _ h)
   ·simp at h;obtain ⟨rfl,rfl⟩:=h
    have:k= .cell:=by simpa using hk
    subst this;exact xk
  ·exact xf _ (Q1 r _ _ _ h)
set_option tactic.hygienic true in
theorem zal:∀ (names:List (Str×NameKind)) (i:Nat) (n:Str),(n,.cell)∈names→∃ c,(cellsFrom i names []).lookup n=some c
 | (m,k)::r,i,n,h=> by
  unfold cellsFrom
  split
  ·rw [jq,List.lookup_append]
   rcases List.mem_cons.mp h with e | h
   ·injection e with e1 e3;subst e1
    cases e2:(cellsFrom (i + 1) r []).lookup n with
    | some c=> exact ⟨c,rfl⟩
    | none=> exact ⟨i,by simp⟩
   ·obtain ⟨c,hc⟩:=zal r (i + 1) n h
    exact ⟨c,by rw [hc];rfl⟩
  ·rename_i hk
   rcases List.mem_cons.mp h with e | h
   ·cases e;exact nomatch hk
   ·exact zal r i n h
def zcv (scope:Scope) (env:Env) (C:Addr):Env:=
 {scope:=relabel scope env,locals:=C,globals:=env.globals,cells:=cellsFrom (C + 1) scope.names (zcy env scope.names []),qual:=env.qual,func:=none,code:=env.code,frame:=env.frame,builtins:=env.builtins}
noncomputable def zb3 (scope:Scope) (h:Heap):Heap:=pushCells (h.push {cls:= .type "dict",data:= .dict #[]}) scope.names
noncomputable def Ql (scope:Scope) (C:Addr):List (Str×Addr):=cellsFrom (C + 1) scope.names []
theorem zix {M:Model}{A:Around}{E:Value→Shared→Prop}{s:Shared}{scope:Scope}{env:Env}{cl:List (Str×Addr)}{Q:Env→Shared→Prop}
  (h:Q {scope,locals:=s.heap.objs.size,globals:=env.globals,cells:=cellsFrom (s.heap.objs.size + 1) scope.names cl,qual:=env.qual,func:=none,code:=env.code,frame:=env.frame,builtins:=env.builtins} {s with heap:=zb3 scope s.heap}):
  wpAny M A (newFunctionEnv scope env.globals cl [] env.qual none .none (some env)) Q E s:=by
 simp only [newFunctionEnv,Option.isSome_some,if_true]
 refine xa (wpAny_alloc ?_)
 refine xa (wpAny_layCells _ (fun name kind cells=> by cases hkc:kind==NameKind.cell <;> simp [hkc]) _ _ _ _ ?_)
 rw [show ({s with heap:=s.heap.push {cls:= .type "dict",data:= .dict #[]}}:Shared).heap.objs.size=s.heap.objs.size + 1 from xv ..]
 exact xa (xg (xg h))
noncomputable def zq (vis:List Nat) (U:Ren):Ren:=fun i=> if vis.contains i then U i else none
section
variable {g:GC}{nm:Nat→Str}{sc scope:Scope}{env:Env}{ad:AD}{U:Ren}{W:Sto}{h:Heap}{vis:List Nat}{ns:List Str}
def zfm (scope:Scope) (C:Addr):List Addr:=C::(Ql scope C).map (·.2)
theorem zc9 (scope:Scope) (h:Heap):∀ b∈zfm scope h.objs.size,h.get? b=none:=by
 intro b hb
 have ok:=cellsFrom_ok scope.names (h.push {cls:= .type "dict",data:= .dict #[]}) (h.objs.size + 1) [] ⟨fun V V hm=> (nomatch hm),List.Pairwise.nil⟩ (by rw [xv];exact x9 _)
 rw [xv] at ok
 have hge:h.objs.size≤b:=by
  rcases List.mem_cons.mp hb with rfl | hb
  ·exact x9 _
  ·obtain ⟨⟨n,c⟩,hm,rfl⟩:=xr.mp hb
   have:=(ok.empty n c hm).2
   exact Nat.le_of_succ_le this
 cases e:h.get? b with
 | none=> rfl
 | some o=> exact absurd (Heap.lt_size e) (Nat.not_lt.mpr hge)
theorem zb4 (scope:Scope) (h:Heap):∀ b o,h.get? b=some o→(zb3 scope h).get? b=some o:=fun b o e=> pushCells_keeps _ _ b o (xb _ e)
theorem zch (scope:Scope) (h:Heap) {n:Str}{c:Addr} (hm:(n,c)∈Ql scope h.objs.size):(zb3 scope h).IsCell c none∧h.get? c=none:=by
 have ok:=cellsFrom_ok scope.names (h.push {cls:= .type "dict",data:= .dict #[]}) (h.objs.size + 1) [] ⟨fun V V hm=> (nomatch hm),List.Pairwise.nil⟩ (by rw [xv];exact x9 _)
 rw [xv] at ok
 exact ⟨(ok.empty n c hm).1,zc9 scope h c (xf _ (xr.mpr ⟨_,hm,rfl⟩))⟩
theorem zo8 (scope:Scope) (h:Heap):(Ql scope h.objs.size).Pairwise fun x y=> x.2≠y.2:=by
 have ok:=cellsFrom_ok scope.names (h.push {cls:= .type "dict",data:= .dict #[]}) (h.objs.size + 1) [] ⟨fun V V hm=> (nomatch hm),List.Pairwise.nil⟩ (by rw [xv];exact x9 _)
 rw [xv] at ok
 exact ok.apart
theorem zgk (scope:Scope) (h:Heap):∀ b∈zfm scope h.objs.size,∃ o,(zb3 scope h).get? b=some o:=by
 intro b hb
 rcases List.mem_cons.mp hb with rfl | hb
 ·exact ⟨_,pushCells_keeps _ _ _ _ (xj _ rfl)⟩
 ·refine bc fun J=> ?_
  obtain ⟨⟨n,c⟩,hm,rfl⟩:=xr.mp hb
  refine J ?_
  exact Zu (zch scope h hm).1
set_option tactic.hygienic true in
theorem Zn (he:ES env sc) (hx:EnvSh env h) (ok:CompOk sc scope nm vis ns) (C:Addr) (n:Str):
  (∀ c,(zcv scope env C).cells.lookup n=some c→((n,c)∈Ql scope C∧scope.names.lookup n=some .cell)∨(env.cells.lookup n=some c∧scope.names.lookup n=some .free))∧
  (scope.names.lookup n=some .free→(zcv scope env C).cells.lookup n=env.cells.lookup n)∧
  (scope.names.lookup n=some .cell→∃ c,(zcv scope env C).cells.lookup n=some c∧(n,c)∈Ql scope C):=by
 have happ:(zcv scope env C).cells=Ql scope C ++ zcy env scope.names []:=jq _ _ _
 have hcl:=zdv (env:=env) (n:=n) scope.names []
 have hfree:∀ k,scope.names.lookup n=some k→scope.names.any (fun x=> n==x.1 && x.2== .free)=(k== .free):=by
  intro k hk
  rw [Bool.eq_iff_iff,List.any_eq_true]
  constructor
  ·rintro ⟨⟨m,j⟩,hm,hp⟩
   simp only [xi,beq_iff_eq] at hp
   obtain ⟨rfl,rfl⟩:=hp
   rw [Zj ok.nodup hm] at hk;cases si hk;rfl
  ·intro hk'
   have:k= .free:=by simpa using hk'
   subst this
   exact ⟨(n,.free),mem_of_lookup hk,by simp⟩
 have hres:∀ (hk:scope.names.lookup n=some .free),∃ c,env.cells.lookup n=some c:=by
  intro hk
  have h1:=ok.free _ (mem_of_lookup hk) rfl
  refine hx.has n ?_
  unfold Env.kindOf;exact he.scope▸h1
 refine ⟨fun c hc=> ?_,fun hk=> ?_,fun hk=> ?_⟩
 ·rw [happ,List.lookup_append] at hc
  cases e:(Ql scope C).lookup n with
  | some d=>
   rw [e] at hc;cases si hc
   exact .inl ⟨mem_of_lookup e,Zj ok.nodup (Q1 _ _ _ _ (mem_of_lookup e))⟩
  | none=>
   rw [e] at hc
   simp only [Option.none_or] at hc
   rw [hcl] at hc
   split at hc
   ·rename_i ha
    obtain ⟨⟨m,j⟩,hm,hp⟩:=List.any_eq_true.mp ha
    simp only [xi,beq_iff_eq] at hp
    obtain ⟨rfl,rfl⟩:=hp
    have hk:=Zj ok.nodup hm
    obtain ⟨d,hd⟩:=hres hk
    rw [hd] at hc;cases si hc
    exact .inr ⟨hd,hk⟩
   ·exact nn hc
 ·simp only [happ,List.lookup_append]
  have:(Ql scope C).lookup n=none:=by
   cases e:(Ql scope C).lookup n with
   | none=> rfl
   | some d=>
    have:=Zj ok.nodup (Q1 _ _ _ _ (mem_of_lookup e))
    rw [hk] at this;cases si this
  simp only [this,Option.none_or,hcl,hfree _ hk]
  obtain ⟨d,hd⟩:=hres hk
  simp [hd]
 ·refine bc fun J=> ?_
  obtain ⟨c,hc⟩:=zal scope.names (C + 1) n (mem_of_lookup hk)
  refine J ?_
  refine ⟨c, ?_,mem_of_lookup hc⟩
  simp only [happ,List.lookup_append]
  show (Option.or (List.lookup n (cellsFrom (C + 1) scope.names [])) _)=_
  rw [hc];rfl
theorem zkw (he:ES env sc) (ok:CompOk sc scope nm vis ns) (C:Addr):ES (zcv scope env C) (j4 scope sc):=
 ⟨zhr he.scope,he.globals,he.builtins,ok.kind⟩
theorem zcg (he:ES env sc) (C:Addr) (n:Str):(zcv scope env C).kindOf n=(scope.names.lookup n).map fun k=> if (k== .free && sc.kind== .function && sc.names.lookup n==some .cell) then .cell else k:=by
 unfold Env.kindOf
 refine (?_:(relabel scope env).names.lookup n=_)
 simp only [zhr he.scope];exact zhc
theorem zy2 (he:ES env sc) (hx:EnvSh env h) (ok:CompOk sc scope nm vis ns):EnvSh (zcv scope env h.objs.size) (zb3 scope h) where
 ns:=⟨_,(Heap.Ns.new h (.type "dict")).keeps (pushCells_keeps _ _)⟩
 cells:=fun n c hc=> by
  rcases (Zn he hx ok h.objs.size n).1 c hc with ⟨hm,_⟩ | ⟨hc,_⟩
  ·exact ⟨_,(zch scope h hm).1⟩
  ·obtain ⟨v,q⟩:=hx.cells n c hc
   exact ⟨v,q.keeps (zb4 scope h)⟩
 apart:=fun n n' c hc hc'=> by
  rcases (Zn he hx ok h.objs.size n).1 c hc with ⟨hm,_⟩ | ⟨hc,_⟩ <;> rcases (Zn he hx ok h.objs.size n').1 c hc' with ⟨hm',_⟩ | ⟨hc',_⟩
  ·exact name_of_addr (zo8 scope h) hm hm'
  ·obtain ⟨v,q⟩:=hx.cells n' c hc'
   obtain ⟨o,e⟩:=Zu q
   rw [(zch scope h hm).2] at e;exact nn e
  ·obtain ⟨v,q⟩:=hx.cells n c hc
   obtain ⟨o,e⟩:=Zu q
   rw [(zch scope h hm').2] at e;exact nn e
  ·exact hx.apart n n' c hc hc'
 has:=fun n hk=> by
  rw [zcg he] at hk
  cases e:scope.names.lookup n with
  | none=> rw [e] at hk;simp at hk
  | some k=>
   have hq:=Zn he hx ok h.objs.size n
   cases k with
   | free=>
    rw [hq.2.1 e]
    refine hx.has n ?_
    unfold Env.kindOf;rw [he.scope]
    exact ok.free _ (mem_of_lookup e) rfl
   | cell=> obtain ⟨c,hc,_⟩:=hq.2.2 e;exact ⟨c,hc⟩
   | _=> rw [e] at hk;simp at hk
set_option tactic.hygienic true in
theorem zy1 (he:ES env sc) (hx:Cx g nm env ad U W h) (ok:CompOk sc scope nm vis ns):Cx g nm (zcv scope env h.objs.size) (ad.ban (zfm scope h.objs.size)) (zq vis U) W (zb3 scope h):=by
 have x:=hx.ban (zb4 scope h) (zc9 scope h) (zgk scope h)
 refine ⟨x.kin,x.top,fun i pv e=> ?_,x.sto,x.kno,x.tno,zy2 he hx.sh ok⟩
 unfold zq at e
 split at e
 ·rename_i hv
  have hv:i∈vis:=by simpa using hv
  obtain ⟨v,r,l⟩:=x.eo i pv e
  refine ⟨v,r,.inr ?_⟩
  have hk:=ok.vis i hv
  have hfk:=ok.free _ (mem_of_lookup hk) rfl
  have hko:env.kindOf (nm i)=some .cell∨env.kindOf (nm i)=some .free:=by unfold Env.kindOf;exact he.scope▸hfk
  rcases l with ⟨a,_⟩ | ⟨a,c,b,d⟩
  ·rw [a] at hko;simp at hko
  ·refine ⟨?_,c, ?_,d⟩
   ·simp only [zcg he,hk]
    simp only [Option.map_some]
    split
    ·exact .inl rfl
    ·exact .inr rfl
   ·rw [(Zn he hx.sh ok h.objs.size (nm i)).2.1 hk];exact b
 ·exact nn e
theorem zi3 (he:ES env sc) (hx:EnvSh env h) (ok:CompOk sc scope nm vis ns) {n:Str} (hn:n∈ns):ji (zcv scope env h.objs.size) n∈zfm scope h.objs.size:=by
 unfold ji
 rcases ok.tgt n hn with hk | hk
 ·have:(zcv scope env h.objs.size).kindOf n=some .local:=by rw [zcg he,hk];rfl
  rw [if_pos this];exact xk
 ·have:¬(zcv scope env h.objs.size).kindOf n=some .local:=by rw [zcg he,hk];simp
  rw [if_neg this]
  refine bc fun J=> ?_
  obtain ⟨c,hc,hm⟩:=(Zn he hx ok h.objs.size n).2.2 hk
  refine J ?_
  rw [hc];exact xf _ (xr.mpr ⟨_,hm,rfl⟩)
end
end
section
theorem Cx.step {g:GC}{nm:Nat→Str}{env:Env}{ad:AD}{U:Ren}{W:Sto}{h h':Heap}{L:List Addr} (x:Cx g nm env ad U W h) (st:Stays ad ad h h') (k:∀ b o,b∉L→h.get? b=some o→h'.get? b=some o)
  (hl:env.locals∉L) (hc:∀ n c,env.cells.lookup n=some c→c∉L) (hL:∀ b∈L,b∈ad.b):Cx g nm env ad U W h':=
 ⟨zeq x.kin x.kno st,ze4 x.top x.tno st,fun i pv e=> by
   obtain ⟨v,r,w⟩:=x.eo i pv e
   refine ⟨v,zk.stays st pv v r, ?_⟩
   rcases w with ⟨a,m,b,c⟩ | ⟨a,c,b,d⟩
   ·exact .inl ⟨a,m,b.at' fun o e=> k _ o hl e,c⟩
   ·exact .inr ⟨a,c,b,let ⟨o,ho,hd⟩:=d;⟨o,k _ o (hc _ _ b) ho,hd⟩⟩,
  x.sto.stays_b st fun a ha o e=> k a o (fun hb=> x.sto.dis a (hL a hb) ha) e,x.kno,x.tno,
  ⟨let ⟨m,w⟩:=x.sh.ns;⟨m,w.at' fun o e=> k _ o hl e⟩,fun n c e=> let ⟨v,o,ho,hd⟩:=x.sh.cells n c e;⟨v,o,k _ o (hc _ _ e) ho,hd⟩,x.sh.apart,x.sh.has⟩⟩
theorem Cx.mono {g:GC}{nm:Nat→Str}{env:Env}{ad:AD}{U U':Ren}{W:Sto}{h:Heap} (x:Cx g nm env ad U' W h) (hm:∀ i q,U i=some q→U' i=some q):Cx g nm env ad U W h:=
 ⟨x.kin,x.top,fun i pv e=> x.eo i pv (hm i pv e),x.sto,x.kno,x.tno,x.sh⟩
noncomputable def j6 (tg:Tg) (cond:q7) (bod:Ren→Sto→Option (List PV)) (U:Ren) (W:Sto):List PV→Option (List PV)
 | []=> some []
 | p::ps=> (tg p U).bind fun U'=> (cond U' W).bind fun b=> _root_.cond b ((bod U' W).bind fun q=> (j6 tg cond bod U W ps).map (q ++ ·)) (j6 tg cond bod U W ps)
noncomputable def J5 (f:Den):Ren→Sto→Option (List PV):=fun U W=> (f U W).map fun q=> [q]
theorem Qe {α β:Type}{o:Option α}{f:α→Option β}{y:β} (e:o.bind f=some y):∃ x,o=some x∧f x=some y:=xn.mp e
theorem zww {α β:Type}{f:α→β}{o:Option α}{y:β} (e:o.map f=some y):∃ x,o=some x∧f x=y:=xh.mp e
noncomputable def zb2 (g:GC) (nm:Nat→Str) (k:Nat) (sc:Scope) (ifs:List Expr) (cond:q7):Prop:=
 ∀ (A:Around) (env:Env) (s:Shared) (ad:AD) (U:Ren) (W:Sto) (b:Bool),Room k A→ES env sc→Cx g nm env ad U W s.heap→cond U W=some b→
  ∀ E,wpAny (model g.prog g.w) A (forIn ifs true fun c r=> if r=true then do let ok←isTrue c env (eval c env);pure (ForInStep.yield ok) else pure (ForInStep.yield r)) (fun c s'=> Gr s s'∧c=b) E s
noncomputable def qj:q7:=fun V V=> some true
section
variable {g:GC}{nm:Nat→Str}{k:Nat}{sc:Scope}
theorem zb2.nil:zb2 g nm k sc [] qj:=by
 intro A env s ad U W b hr he hx hp E;cases hp;exact wpAny_tests_nil ⟨Gr.refl s,rfl⟩
theorem zb2.one {e:Expr}{t:q7} (h:ST g nm k sc e t):zb2 g nm k sc [e] t:=by
 intro A env s ad U W b hr he hx hp E;exact wpAny_tests_one (h A env s ad U W b hr he hx hp E)
end
noncomputable def zav (p0:Pos) (I D:Addr) (e:Expr) (d:Nat) (t:Expr) (ifs:List Expr) (cenv:Env) (B:Sem Unit):Sem Fin:=do
   standAt p0
   match←pyNext (.ref I) with
   | none=> pure (.done .next)
   | some v=>
    letOwnedTupleGo t (.ref I) v
    assign t cenv v
    let ok←forIn ifs true fun c r=> if r=true then do let ok←isTrue c cenv (eval c cenv);pure (ForInStep.yield ok) else pure (ForInStep.yield r)
    if ok then B
    again (.compLoop e d (.ref I) (.ref D) cenv)
noncomputable def zmz (elt:Expr) (D:Addr) (cenv:Env):Sem Unit:=do let _←call (.builtin "list.append") [.ref D,←eval elt cenv]
theorem zif {elt t iter:Expr}{ifs:List Expr}{gens:List Comprehension}{d:Nat}{scope:Scope}{pos:Pos}{I D:Addr}{env:Env} (hg:gens[d]? =some ⟨t,iter,ifs,0⟩) (hg':gens[d + 1]? =none):
  compTurn (.ListComp elt gens scope pos) d (.ref I) (.ref D) env=zav iter.pos I D (.ListComp elt gens scope pos) d t ifs env (zmz elt D env):=by
 unfold compTurn
 simp only [hg,hg']
 rfl
section
variable {g:GC}{nm:Nat→Str}{k:Nat}{sc:Scope}{A:Around}{cenv:Env}{I D:Addr}{wr fp:List Addr}{its:List PV}{St:AD→Nat→Heap→Prop}{Mid:AD→Nat→Value→Heap→Prop}{py:Bool}{ns:List Str}
 {elt t iter:Expr}{ifs:List Expr}{gens:List Comprehension}{d:Nat}{scope:Scope}{pos:Pos}{tg:Tg}{cond:q7}{f:Den}{ad:AD}{U:Ren}{W:Sto}{R:Result→Shared→Prop}
structure Places (cenv:Env) (ad:AD) (wr fp:List Addr) (D:Addr) (ns:List Str):Prop where
 ap:Apart wr cenv ad
 Db:D∈ad.b
 Dfp:D∉fp
 Dwr:D∉wr
 Dl:D≠cenv.locals
 Dc:∀ n c,cenv.cells.lookup n=some c→c≠D
 sl:∀ n∈ns,ji cenv n∈ad.b∧ji cenv n∉wr∧ji cenv n∉fp∧ji cenv n≠D
theorem zjq (X:Itr g I wr fp its St Mid py) (ht:(∃ es x1 p,t= .Tuple es x1 p)∨((∃ n p,t= .Name n p)∧py=false)) {ad:AD}{i:Nat}{v:Value}{s:Shared}{Q:Unit→Shared→Prop}{E:Value→Shared→Prop} (m:Mid ad i v s.heap)
  (hQ:∀ h',St ad (i + 1) h'→Stays ad ad s.heap h'→(∀ b o,b∉wr→s.heap.get? b=some o→h'.get? b=some o)→Q () {s with heap:=h'}):
  wpAny (model g.prog g.w) A (letOwnedTupleGo t (.ref I) v) Q E s:=by
 rcases ht with ⟨es,x1,p,rfl⟩ | ⟨⟨n,p,rfl⟩,hp⟩
 ·exact X.go A es x1 p ad i v s Q E m hQ
 ·exact xg (hQ s.heap (X.goN hp ad i v _ m) (Stays.refl _ _) fun V V V e=> e)
abbrev zoq:=AD→List PV→Heap→Prop
noncomputable def zqz (D:Addr) (Acc:zoq):Prop:=∀ ad ad' dn h h',Acc ad dn h→Mv ad ad' h h'→(∀ o,h.get? D=some o→h'.get? D=some o)→Acc ad' dn h'
noncomputable def zgf (z:Prop) (g:GC) (nm:Nat→Str) (A:Around) (cenv:Env) (D:Addr) (ns':List Str) (Acc:zoq) (ad:AD) (W:Sto) (ok:Ren→Prop) (bod:Ren→Sto→Option (List PV)) (B:Sem Unit):Prop:=
 ∀ (s:Shared) (U:Ren) (dn qs:List PV) (Q:Unit→Shared→Prop) (E:Value→Shared→Prop),(z→0 < s.toks)→ok U→Cx g nm cenv ad U W s.heap→Acc ad dn s.heap→bod U W=some qs→ze (dn.length + qs.length)=true→
  (∀ h' tk,Stays ad ad s.heap h'→(∀ b o,b≠D→(∀ n∈ns',b≠ji cenv n)→s.heap.get? b=some o→h'.get? b=some o)→Cx g nm cenv ad U W h'→Acc ad (dn ++ qs) h'→Q () {s with heap:=h',toks:=tk})→
  wpAny (model g.prog g.w) A B Q E s
noncomputable def zso (g:GC) (A:Around) (t:Expr) (cenv:Env):Prop:=∀ (v:Value) (s:Shared) (Q:Unit→Shared→Prop) (E:Value→Shared→Prop),wpAny (model g.prog g.w) A (assign t cenv v) Q E s→wpAny (model g.prog g.w) A (assign t cenv v) (fun a s'=> 0 < s'.toks∧Q a s') E s
theorem zi7 {z:Prop}{e:Expr}{B:Sem Unit}{p0:Pos}{bod:Ren→Sto→Option (List PV)}{Acc:zoq}{ns':List Str} (hr:Room k A) (he:ES cenv sc) (X:Itr g I wr fp its St Mid py) (T:STg g nm sc ns t tg) (ht:(∃ es x1 p,t= .Tuple es x1 p)∨((∃ n p,t= .Name n p)∧py=false))
  (C:zb2 g nm k sc ifs cond) (hacc:zqz D Acc) (hz:z→zso g A t cenv) (Bo:zgf z g nm A cenv D ns' Acc (ad.ban wr) W (fun U'=> ∃ p,tg p U=some U') bod B) (hgrow:∀ p U',tg p U=some U'→∀ i q,U i=some q→U' i=some q)
  (hrun:∀ (R:Result→Shared→Prop) (s:Shared),wpAny (model g.prog g.w) A (zav p0 I D e d t ifs cenv B) (fun fin s'=> match fin with | .done f=> R (.ok f) s' | .again c'=> c'.quiet=true∧codeAny (model g.prog g.w) A c' R s') (notedBy (model g.prog g.w) A cenv fun e s'=> R (.error e) s') s→
   codeAny (model g.prog g.w) A (.compLoop e d (.ref I) (.ref D) cenv) R s)
  (hq:(Code.compLoop e d (.ref I) (.ref D) cenv).quiet=true) (P:Places cenv ad wr fp D (ns ++ ns')):
  ∀ (rem:List PV) (i:Nat),its.drop i=rem→i≤its.length→∀ (s:Shared) (dn outs:List PV),
   j6 tg cond bod U W rem=some outs→Cx g nm cenv (ad.ban wr) U W s.heap→St (ad.ban wr) i s.heap→Acc (ad.ban wr) dn s.heap→ze (dn.length + outs.length)=true→
   (∀ h' tk,(∀ b o,b∉wr→b≠D→(∀ n∈ns ++ ns',b≠ji cenv n)→s.heap.get? b=some o→h'.get? b=some o)→Cx g nm cenv ad U W h'→Acc ad (dn ++ outs) h'→R (.ok .next) {s with heap:=h',toks:=tk})→
   codeAny (model g.prog g.w) A (.compLoop e d (.ref I) (.ref D) cenv) R s:=by
 intro rem
 induction rem with
 | nil=>
  intro i hi hle s dn outs hgo hx hst hD hsz hR
  cases hgo
  have hil:i=its.length:=by
   have:=congrArg List.length hi;simp at this;lia
  subst hil
  refine hrun _ _ ?_
  skip
  refine xa (wpAny_standAt (xa (X.done A _ s _ _ hr.handled hst fun h' hk=> xg ?_)))
  refine hR h' s.toks (fun b o h1 V V e=> hk b o h1 e) (hx.unban P.ap hk) ?_
  rw [List.append_nil]
  exact hacc _ _ _ _ _ hD (Mv.unban hk) fun o e=> hk D o P.Dwr e
 | cons p ps ih=>
  intro i hi hle s dn outs hgo hx hst hD hsz hR
  obtain ⟨U',et,hgo⟩:=Qe hgo
  obtain ⟨b,ec,hgo⟩:=Qe hgo
  have hilt:i < its.length:=by
   have:=congrArg List.length hi;simp at this;lia
  have hip:its[i]? =some p:=by
   have:(its.drop i)[0]? =some p:=by rw [hi];rfl
   simpa using this
  have hi':its.drop (i + 1)=ps:=by
   have:(its.drop i).drop 1=ps:=by rw [hi];rfl
   rw [List.drop_drop] at this;exact this
  have wrb:∀ b∈wr,b∈(ad.ban wr).b:=fun b hb=> List.mem_append_left _ hb
  refine hrun _ _ ?_
  skip
  refine xa (wpAny_standAt (xa (X.item A _ i p s _ _ hr.handled (fun a e=> hx.sto.fresh e) hip hst fun v h1 tk1 m1 r1 x1 k1=> ?_)))
  have c1:Cx g nm cenv (ad.ban wr) U W h1:=hx.step x1 k1 P.ap.loc P.ap.cel wrb
  refine xa (zjq (s:={s with heap:=h1,toks:=tk1}) X ht m1 fun h2 st2 x2 k2=> ?_)
  have c2:Cx g nm cenv (ad.ban wr) U W h2:=c1.step x2 k2 P.ap.loc P.ap.cel wrb
  have slT:∀ n∈ns,n∈ns ++ ns':=fun n hn=> List.mem_append_left _ hn
  have slB:∀ n∈ns',n∈ns ++ ns':=fun n hn=> xu _ hn
  have asg:∀ (E:Value→Shared→Prop),wpAny (model g.prog g.w) A (assign t cenv v) (fun V s3=> (z→0 < s3.toks)∧∃ h3 tk3,s3={s with heap:=h3,toks:=tk3}∧Stays (ad.ban wr) (ad.ban wr) h2 h3∧(∀ b o,(∀ n∈ns,b≠ji cenv n)→h2.get? b=some o→h3.get? b=some o)∧Cx g nm cenv (ad.ban wr) U' W h3) E {s with heap:=h2,toks:=tk1}:=fun E=> by
   have base:=T A cenv {s with heap:=h2,toks:=tk1} (ad.ban wr) U U' W p v (fun V s3=> ∃ h3 tk3,s3={s with heap:=h3,toks:=tk3}∧Stays (ad.ban wr) (ad.ban wr) h2 h3∧(∀ b o,(∀ n∈ns,b≠ji cenv n)→h2.get? b=some o→h3.get? b=some o)∧Cx g nm cenv (ad.ban wr) U' W h3) E hr.handled he (fun n hn=> xu _ (P.sl n (slT n hn)).1) c2 (zk.stays x2 p v r1) et fun h3 tk3 x3 k3 c3=> ⟨h3,tk3,rfl,x3,k3,c3⟩
   by_cases hzz:z
   ·exact xp (hz hzz v _ _ _ base) (fun V V q=> ⟨fun V=> q.1,q.2⟩) fun V V x=> x
   ·exact xp base (fun V V q=> ⟨fun h=> absurd h hzz,q⟩) fun V V x=> x
  refine xa (xp (asg _) (fun V s3 hs3=> ?_) fun V V x=> x)
  refine bc fun J=> ?_
  obtain ⟨z3,h3,tk3,rfl,x3,k3,c3⟩:=hs3
  refine J ?_
  have st3:St (ad.ban wr) (i + 1) h3:=X.frame _ _ _ _ _ st2 x3 fun b hb o e=> k3 b o (fun n hn e'=> by
   subst e'
   rcases hb with hb | hb
   ·exact (P.sl n (slT n hn)).2.1 hb
   ·exact (P.sl n (slT n hn)).2.2.1 hb) e
  have D3:Acc (ad.ban wr) dn h3:=hacc _ _ _ _ _ hD ((x1.trans x2).trans x3).toMv fun o e=> k3 D o (fun n hn e'=> (P.sl n (slT n hn)).2.2.2 e'.symm) (k2 D o P.Dwr (k1 D o P.Dwr e))
  refine xa (xp (zh9 (C A cenv {s with heap:=h3,toks:=tk3} (ad.ban wr) U' W b hr he c3 ec _)) (fun ok s4 h4=> ?_) fun V V e=> e)
  obtain ⟨t4,g4,rfl⟩:=h4
  have k4:=g4.h
  obtain ⟨h4,tk4,rfl⟩:=g4.eq
  dsimp only at k4 t4 z3⊢
  have c4:Cx g nm cenv (ad.ban wr) U' W h4:=c3.keeps k4
  have st4:St (ad.ban wr) (i + 1) h4:=X.frame _ _ _ _ _ st3 (Stays.of_keeps k4) fun b V o e=> k4 b o e
  have D4:Acc (ad.ban wr) dn h4:=hacc _ _ _ _ _ D3 (Stays.of_keeps k4).toMv fun o e=> k4 D o e
  have all4:∀ b o,b∉wr→(∀ n∈ns ++ ns',b≠ji cenv n)→s.heap.get? b=some o→h4.get? b=some o:=fun b o hb hn e=> k4 b o (k3 b o (fun n h=> hn n (slT n h)) (k2 b o hb (k1 b o hb e)))
  cases ok with
  | false=>
   refine xa (xg (xg ⟨hq, ?_⟩))
   refine ih (i + 1) hi' (by lia) _ dn outs hgo (c4.mono (hgrow p U' et)) st4 D4 hsz fun h' tk hk hc hv=> ?_
   exact hR h' tk (fun b o h1 h2 h3 e=> hk b o h1 h2 h3 (all4 b o h1 h3 e)) hc hv
  | true=>
   refine bc fun J=> ?_
   obtain ⟨q,ee,hgo⟩:=Qe hgo
   obtain ⟨qs,er,hgo⟩:=zww hgo
   subst hgo
   refine J ?_
   have hlen:dn.length + (q ++ qs).length=(dn.length + q.length) + qs.length:=by rw [xz,Nat.add_assoc]
   refine xa (Bo {s with heap:=h4,toks:=tk4} U' dn q _ _ (fun h=> Nat.lt_of_lt_of_le (z3 h) t4) ⟨p,et⟩ c4 D4 ee (by simp [ze] at hsz⊢;lia) fun h6 tk6 x6 k6 c6 D6=> ?_)
   refine xg ⟨hq, ?_⟩
   have st6:St (ad.ban wr) (i + 1) h6:=X.frame _ _ _ _ _ st4 x6 fun b hb o e=> k6 b o (fun h=> by
    subst h
    rcases hb with hb | hb
    ·exact P.Dwr hb
    ·exact P.Dfp hb) (fun n hn h=> by
    subst h
    rcases hb with hb | hb
    ·exact (P.sl n (slB n hn)).2.1 hb
    ·exact (P.sl n (slB n hn)).2.2.1 hb) e
   refine ih (i + 1) hi' (by lia) _ (dn ++ q) qs er (c6.mono (hgrow p U' et)) st6 D6 ?_ fun h' tk hk hc hv=> ?_
   ·rw [xz,←hlen];exact hsz
   ·refine hR h' tk (fun b o h1 h2 h3 e=> hk b o h1 h2 h3 (k6 b o h2 (fun n hn=> h3 n (slB n hn)) (all4 b o h1 h3 e))) hc ?_
    rw [List.append_assoc] at hv;exact hv
end
def zmb (g:GC) (D:Addr):zoq:=fun ad dn h=> ∃ ys,h.PlainList D ys∧zh g ad h dn ys.toList
theorem zmb.mv {g:GC}{D:Addr}:zqz D (zmb g D):=fun ad ad' dn h h' ⟨ys,p,r⟩ m k=> ⟨ys,p.at k,zh.mv m dn _ r⟩
section
variable {g:GC}{nm:Nat→Str}{k:Nat}{sc:Scope}{A:Around}{cenv:Env}{I D:Addr}{elt t iter:Expr}{ifs:List Expr}{gens:List Comprehension}{d:Nat}{scope:Scope}{pos:Pos}{f:Den}{ad:AD}{W:Sto}
noncomputable def zmj (z:Prop) (g:GC) (nm:Nat→Str) (k:Nat) (sc:Scope) (e:Expr) (f:Den):Prop:=
 ∀ (A:Around) (env:Env) (s:Shared) (ad:AD) (U:Ren) (W:Sto) (pv:PV),(z→0 < s.toks)→Room k A→ES env sc→Cx g nm env ad U W s.heap→f U W=some pv→
  Gv g A ad (eval e env) pv s
theorem Snd.z {z:Prop}{e:Expr}{f:Den} (h:Snd g nm k sc e f):zmj z g nm k sc e f:=fun A env s ad U W pv V=> h A env s ad U W pv
theorem zvn {z:Prop} (hr:Room k A) (he:ES cenv sc) (El:zmj z g nm k sc elt f) (hb:D∈ad.b) (hl:D≠cenv.locals) (hc:∀ n c,cenv.cells.lookup n=some c→c≠D) {ok:Ren→Prop}:zgf z g nm A cenv D [] (zmb g D) ad W ok (J5 f) (zmz elt D cenv):=by
 intro s U dn qs Q E hzz _ hx hacc hbod hsz hQ
 refine bc fun J=> ?_
 obtain ⟨ys,pl,rs⟩:=hacc
 obtain ⟨q,e1,hbod⟩:=zww hbod
 subst hbod
 refine J ?_
 skip
 refine xa (xp (El A cenv s ad U W q hzz hr he hx e1 _) (fun y s5 h5=> ?_) fun V V e=> e)
 obtain ⟨⟨⟨h5,tk5,rfl⟩,k5⟩,r5⟩:=h5
 have hfit:ys.size≤sizeLine:=zy (by have:=rs.length;simp [ze] at hsz this⊢;lia)
 refine xa (wpAny_list_append_plain (s:={s with heap:=h5,toks:=tk5}) (hsz:=hfit) (pl.at fun o e=> k5 D o e) fun h6 D6 hs6=> xg ?_)
 have al6:∃ o',h6.get? D=some o':=let ⟨n,e⟩:=D6;⟨_,e⟩
 have x6:Stays ad ad h5 h6:=Stays.but hb hs6.extBut al6
 refine hQ h6 tk5 ((Stays.of_keeps k5).trans x6) (fun b o hb V e=> hs6.extBut b o hb (k5 b o e)) ((hx.keeps k5).step x6 (L:=[D]) (fun b o hb e=> hs6.extBut b o (fun h=> hb (by simp [h])) e) (fun h=> by simp at h;exact hl h.symm) (fun n c hc' h=> by simp at h;exact hc n c hc' h) fun b hb'=> by simp at hb';subst hb';exact hb) ⟨_,D6, ?_⟩
 rw [Array.toList_push]
 exact (zh.stays x6 dn _ (rs.keeps k5)).append (.cons (zk.stays x6 q y r5) .nil)
theorem z4e (hg:gens[d]? =some ⟨t,iter,ifs,0⟩) (hg':gens[d + 1]? =none) (R:Result→Shared→Prop) (s:Shared)
  (h:wpAny (model g.prog g.w) A (zav iter.pos I D (.ListComp elt gens scope pos) d t ifs cenv (zmz elt D cenv)) (fun fin s'=> match fin with | .done f=> R (.ok f) s' | .again c'=> c'.quiet=true∧codeAny (model g.prog g.w) A c' R s') (notedBy (model g.prog g.w) A cenv fun e s'=> R (.error e) s') s):
  codeAny (model g.prog g.w) A (.compLoop (.ListComp elt gens scope pos) d (.ref I) (.ref D) cenv) R s:=by
 refine codeAny_of_tree ?_
 show wpAny _ A ((compTurn (.ListComp elt gens scope pos) d (.ref I) (.ref D) cenv).onRaise (fun x=> do noteFrame x cenv;theTreesLotGoes x)) _ _ s
 refine wpAny_noted ?_
 rw [zif hg hg']
 exact h
end
end
section
theorem Cx.conv {g:GC}{nm:Nat→Str}{env:Env}{ad ad':AD}{U:Ren}{W:Sto}{h:Heap} (x:Cx g nm env ad U W h) (hm:ad'.m=ad.m) (hb:∀ a,a∈ad'.b↔a∈ad.b):Cx g nm env ad' U W h:=by
 have no:∀ a,ad.no a→ad'.no a:=fun a n=> ⟨by rw [hm];exact n.1,fun m=> n.2 ((hb a).mp m)⟩
 have mv:Mv ad ad' h h:=⟨fun V V V e=> e,fun i a e=> by rw [hm];exact e,fun b V V n=> no b n⟩
 exact ⟨x.kin,x.top,fun i pv e=> let ⟨v,r,q⟩:=x.eo i pv e;⟨v,zk.mv mv pv v r,q⟩,
  ⟨by rw [hm];exact x.sto.len,by rw [hm];exact x.sto.nd,fun b m=> x.sto.ban b ((hb b).mp m),fun b m=> by rw [hm];exact x.sto.dis b ((hb b).mp m),
   fun i a l e1 e2=> let ⟨vs,p,r⟩:=x.sto.at_ i a l (by rw [←hm];exact e1) e2;⟨vs,p,zh.mv mv l _ r⟩⟩,
  fun a o e=> no a (x.kno a o e),⟨no _ x.tno.1,no _ x.tno.2.1,no _ x.tno.2.2⟩,x.sh⟩
theorem Zr {h h':Heap} (k:∀ b o,h.get? b=some o→h'.get? b=some o) {b:Addr} (e:h'.get? b=none):h.get? b=none:=by
 cases e1:h.get? b with
 | none=> rfl
 | some o=> rw [k b o e1] at e;cases e
def qa (vis:List Nat) (tg:Tg) (fi:zai) (cond:q7) (f:Den):Den:=fun U W=> (fi W.length U W).bind fun its=> (j6 tg cond (J5 f) (zq vis U) W its).bind fun l=> if ze l.length then some (.lst l) else none
structure Made (g:GC) (ad:AD) (s:Shared) (D C:Addr) (pv:PV) (s':Shared):Prop where
 eq:∃ h' tk,s'={s with heap:=h',toks:=tk}
 keep:∀ b o,s.heap.get? b=some o→s'.heap.get? b=some o
 ns:∃ m,s'.heap.Ns C m
 dc:D≠C
 dn:s.heap.get? D=none
 cn:s.heap.get? C=none
 rep:∀ h',Heap.SameBut C s'.heap h'→zk g ad h' pv (.ref D)
 repC:zk g (ad.ban [C]) s'.heap pv (.ref D)
structure Kind (g:GC) (A:Around) (newAcc:Sem Value) (obj0:Obj) (Acc:Addr→zoq) (mk:List PV→Option PV):Prop where
 new:∀ (s:Shared) (Q:Value→Shared→Prop) (E:Value→Shared→Prop),Q (.ref s.heap.objs.size) {s with heap:=s.heap.push obj0}→wpAny (model g.prog g.w) A newAcc Q E s
 nf:obj0.isFreed=false
 mv:∀ D,zqz D (Acc D)
 start:∀ D ad h,h.get? D=some obj0→Acc D ad [] h
 rep:∀ D ad h outs pv,Acc D ad outs h→ad.no D→mk outs=some pv→zk g ad h pv (.ref D)
section
variable {g:GC}{nm:Nat→Str}{k:Nat}{sc scope:Scope}{vis:List Nat}{ns ns':List Str}{py:Bool}{t iter:Expr}{ifs:List Expr}{pos:Pos}{tg:Tg}{cond:q7}{fi:zai}
set_option tactic.hygienic true in
theorem zaz {z:Prop}{e:Expr}{newAcc:Sem Value}{obj0:Obj}{Acc:Addr→zoq}{mk:List PV→Option PV}{B:Addr→Env→Sem Unit}{bod:Ren→Sto→Option (List PV)}{p0:Pos}
  (ok:CompOk sc scope nm vis (ns ++ ns')) (hit:SI g nm k sc py iter fi) (T:STg g nm (j4 scope sc) ns t tg) (hids:∀ U p U',tg p U=some U'→∀ i∈vis,U' i=U i)
  (ht:(∃ es x1 p,t= .Tuple es x1 p)∨((∃ n p,t= .Name n p)∧py=false)) (C:zb2 g nm k (j4 scope sc) ifs cond)
  {A:Around}{env:Env}{s:Shared}{ad:AD}{U:Ren}{W:Sto}{its outs:List PV}{pv:PV} (hr:Room k A) (he:ES env sc) (hx:Cx g nm env ad U W s.heap) (ei:fi W.length U W=some its) (eo:j6 tg cond bod (zq vis U) W its=some outs) (eof:ze outs.length=true)
  (K:Kind g A newAcc obj0 Acc mk) (emk:mk outs=some pv) (hz:z→∀ cenv,ES cenv (j4 scope sc)→zso g A t cenv)
  (hbody:∀ (cenv:Env) (D:Addr) (adX:AD),ES cenv (j4 scope sc)→D∈adX.b→D≠cenv.locals→(∀ n c,cenv.cells.lookup n=some c→c≠D)→(∀ n∈ns',ji cenv n∈adX.b∧ji cenv n≠D)→
   zgf z g nm A cenv D ns' (Acc D) adX W (fun U'=> ∃ p,tg p (zq vis U)=some U') bod (B D cenv))
  (hrun:∀ (cenv:Env) (I D:Addr) (R:Result→Shared→Prop) (s:Shared),wpAny (model g.prog g.w) A (zav p0 I D e 0 t ifs cenv (B D cenv)) (fun fin s'=> match fin with | .done f=> R (.ok f) s' | .again c'=> c'.quiet=true∧codeAny (model g.prog g.w) A c' R s') (notedBy (model g.prog g.w) A cenv fun e s'=> R (.error e) s') s→
   codeAny (model g.prog g.w) A (.compLoop e 0 (.ref I) (.ref D) cenv) R s)
  (hq:∀ (cenv:Env) (I D:Addr),(Code.compLoop e 0 (.ref I) (.ref D) cenv).quiet=true)
  (hst0:∀ (cenv:Env) (it acc:Value) (R:Result→Shared→Prop) (s:Shared),codeAny (model g.prog g.w) A (.compLoop e 0 it acc cenv) R s→wpAny (model g.prog g.w) A (pyIter it) (fun it' s'=> codeAny (model g.prog g.w) A (.compLoop e 0 it' acc cenv) R s') (notedBy (model g.prog g.w) A cenv fun x s'=> R (.error x) s') s→
   codeAny (model g.prog g.w) A (.compStart e 0 it acc cenv) R s)
  {E:Value→Shared→Prop}{RR:Value→Addr→Result→Shared→Prop} (hRR:∀ D C s',Made g ad s D C pv s'→RR (.ref D) C (.ok .next) s'):
  wpAny (model g.prog g.w) A (eval iter env) (fun x s₁=> wpAny (model g.prog g.w) A (pyIter x) (fun it s₂=> wpAny (model g.prog g.w) A newAcc (fun acc s₃=>
   wpAny (model g.prog g.w) A (newFunctionEnv scope env.globals (zcy env scope.names []) [] env.qual none .none (some env)) (fun cenv s₄=>
    codeAny (model g.prog g.w) A (.compStart e 0 it acc {cenv with scope:=relabel scope env}) (RR acc cenv.locals) s₄) E s₃) E s₂) E s₁) E s:=by
 refine hit A env s ad W.length U W its hr he hx ei _ E fun I s₂ wr fp St Mid hm g₂ X k1 km wm wa fa fs hst hfit=> ?_
 refine K.new _ _ _ ?_
 obtain ⟨h₂,tk₂,rfl⟩:=g₂.eq
 have k₂:=g₂.h
 dsimp only at k₂ wa km hst⊢
 have wf:∀ b∈wr,s.heap.get? b=none:=fun b hb=> Zr k1 (wm b hb)
 have hD0:h₂.get? h₂.objs.size=none:=get?_size h₂
 refine zix ?_
 generalize hh₃:h₂.push obj0=h₃
 have k₃:∀ b o,h₂.get? b=some o→h₃.get? b=some o:=fun b o e=> by rw [←hh₃];exact xb _ e
 have hD3:h₃.get? h₂.objs.size=some obj0:=by rw [←hh₃];exact xj _ K.nf
 generalize hDe:h₂.objs.size=D at hD0 hD3
 have k₄:=zb4 scope h₃
 have ownf:=zc9 scope h₃
 have owna:=zgk scope h₃
 have hC:(zcv scope env h₃.objs.size).locals=h₃.objs.size:=rfl
 have x2:=hx.ban (l:=wr) k₂ wf wa
 have x3:=x2.ban (l:=[D]) k₃ (fun b hb=> by simp at hb;subst hb;exact hD0) (fun b hb=> by simp at hb;subst hb;exact ⟨_,hD3⟩)
 have x4:=zy1 he x3 ok
 have x5:Cx g nm (zcv scope env h₃.objs.size) (((ad.ban [D]).ban (zfm scope h₃.objs.size)).ban wr) (zq vis U) W (zb3 scope h₃):=x4.conv rfl fun a=> by
  simp only [AD.ban,List.mem_append];constructor <;> (intro h;rcases h with h | h | h | h <;> simp [h])
 have some2:∀ b∈wr,b∉zfm scope h₃.objs.size:=fun b hb m=> by
  obtain ⟨o,e⟩:=wa b hb
  have:=ownf b m
  rw [k₃ b o e] at this;cases this
 have DnotOwn:D∉zfm scope h₃.objs.size:=fun m=> by have:=ownf D m;rw [hD3] at this;cases this
 have Dnotwr:D∉wr:=fun m=> by obtain ⟨o,e⟩:=wa D m;rw [hD0] at e;cases e
 have locown:h₃.objs.size∈zfm scope h₃.objs.size:=xk
 have cel:∀ n c,(zcv scope env h₃.objs.size).cells.lookup n=some c→c∈zfm scope h₃.objs.size∨∃ o,s.heap.get? c=some o:=fun n c hc=> by
  rcases (Zn he hx.sh ok h₃.objs.size n).1 c hc with ⟨hm,_⟩ | ⟨hc,_⟩
  ·exact .inl (xf _ (xr.mpr ⟨_,hm,rfl⟩))
  ·obtain ⟨v,q⟩:=hx.sh.cells n c hc;exact .inr (Zu q)
 have P:Places (zcv scope env h₃.objs.size) ((ad.ban [D]).ban (zfm scope h₃.objs.size)) wr fp D (ns ++ ns'):=by
  refine ⟨⟨fun a ha m=> ?_,fun m=> some2 _ m locown,fun n c hc m=> ?_⟩, ?_,fun m=> ?_,Dnotwr,fun e=> DnotOwn (e▸locown),fun n c hc e=> ?_,fun n hn=> ?_⟩
  ·simp only [AD.ban,List.mem_append] at m
   rcases m with m | m | m
   ·exact some2 a ha m
   ·simp at m;subst m;exact Dnotwr ha
   ·obtain ⟨o,e⟩:=hx.sto.ban a m;rw [wf a ha] at e;cases e
  ·rcases cel n c hc with h | ⟨o,h⟩
   ·exact some2 c m h
   ·rw [wf c m] at h;cases h
  ·simp [AD.ban]
  ·obtain ⟨⟨o,e⟩,_⟩:=fa D m;rw [Zr km hD0] at e;cases e
  ·subst e
   rcases cel n _ hc with h | ⟨o,h⟩
   ·exact DnotOwn h
   ·rw [k₂ _ _ h] at hD0;cases hD0
  ·have hs:=zi3 (nm:=nm) (vis:=vis) he x3.sh ok hn
   refine ⟨?_,fun m=> some2 _ m hs,fun m=> ?_,fun e=> DnotOwn (e▸hs)⟩
   ·simp only [AD.ban,List.mem_append];exact .inl hs
   ·obtain ⟨⟨o,e⟩,_⟩:=fa _ m
    have:=ownf _ hs
    rw [k₃ _ o (km _ o e)] at this;cases this
 have st5:St (((ad.ban [D]).ban (zfm scope h₃.objs.size)).ban wr) 0 (zb3 scope h₃):=by
  refine hst _ _ (fun b hb=> List.mem_append_left _ hb) ⟨⟨fun b o V e=> k₄ b o (k₃ b o (km b o e)),fun V V e=> e,fun b o e n=> ?_⟩,fun b o e=> ⟨o,k₄ b o (k₃ b o (km b o e))⟩,fun a m=> ?_⟩ fun b o V e=> k₄ b o (k₃ b o e)
  ·refine AD.ban_no.mpr ⟨AD.ban_no.mpr ⟨AD.ban_no.mpr ⟨n,fun m=> ?_⟩,fun m=> ?_⟩,fun m=> ?_⟩
   ·simp at m;subst m;rw [km _ o e] at hD0;cases hD0
   ·have:=ownf b m;rw [k₃ b o (km b o e)] at this;cases this
   ·rw [wm b m] at e;cases e
  ·exact xu _ (xu _ (xu _ m))
 have D5:(zb3 scope h₃).get? D=some obj0:=k₄ _ _ hD3
 have hgrow:∀ p U',tg p (zq vis U)=some U'→∀ i q,zq vis U i=some q→U' i=some q:=fun p U' e i q h=> by
  have hv:i∈vis:=by
   unfold zq at h
   split at h
   ·rename_i hc;simpa using hc
   ·cases h
  rw [hids _ p U' e i hv];exact h
 have loop:∀ s₅:Shared,s₅={s with heap:=zb3 scope h₃,toks:=tk₂}→codeAny (model g.prog g.w) A (.compLoop e 0 (.ref I) (.ref D) (zcv scope env h₃.objs.size)) (RR (.ref D) h₃.objs.size) s₅:=by
  rintro s₅ rfl
  refine zi7 (ad:=(ad.ban [D]).ban (zfm scope h₃.objs.size)) hr (zkw he ok _) X T ht C (K.mv D) (fun h=> hz h _ (zkw he ok _)) (hbody _ D _ (zkw he ok _) (xu _ P.Db) P.Dl P.Dc (fun n hn=> ?_)) hgrow (hrun _ I D) (hq _ I D) P its 0 rfl (yc _) _ [] outs eo x5 st5 (K.start D _ _ D5) (by simpa using eof) fun h' tk hk hc hv=> ?_
  ·have q:=P.sl n (xu _ hn)
   exact ⟨xu _ q.1,q.2.2.2⟩
  refine hRR D h₃.objs.size _ ⟨⟨h',tk,rfl⟩,fun b o e=> ?_,hc.sh.ns,fun e=> DnotOwn (e▸locown),Zr k₂ hD0,Zr (fun b o e=> k₃ b o (k₂ b o e)) (get?_size h₃),fun h'' hs=> ?_, ?_⟩
  ·have e2:=k₂ b o e
   refine hk b o (fun m=> by rw [wf b m] at e;cases e) (fun e'=> ?_) (fun n hn e'=> ?_) (k₄ b o (k₃ b o e2))
   ·subst e';rw [hD0] at e2;cases e2
   ·subst e'
    have:=ownf _ (zi3 (nm:=nm) (vis:=vis) he x3.sh ok hn)
    rw [k₃ _ o e2] at this;cases this
  ·refine K.rep D ad h'' outs pv (K.mv D _ _ _ _ _ hv ⟨fun b o nb e=> hs.extBut b o (fun e'=> (AD.ban_no.mp nb).2 (e'▸locown)) e,fun V V e=> e,fun b o V nb=> (AD.ban_no.mp (AD.ban_no.mp nb).1).1⟩ fun o e=> hs.extBut _ _ (fun e=> DnotOwn (e▸locown)) e) ?_ emk
   exact (AD.ban_no.mp (x2.sto.fresh (s:={s with heap:=h₂}) hD0)).1
  ·refine K.rep D (ad.ban [h₃.objs.size]) h' outs pv (K.mv D _ _ _ _ _ hv ⟨fun b o nb e=> e,fun V V e=> e,fun b o V nb=> AD.ban_no.mpr ⟨(AD.ban_no.mp (AD.ban_no.mp nb).1).1,fun m=> (AD.ban_no.mp nb).2 (by simp at m;subst m;exact locown)⟩⟩ fun o e=> e) ?_ emk
   exact AD.ban_no.mpr ⟨(AD.ban_no.mp (x2.sto.fresh (s:={s with heap:=h₂}) hD0)).1,fun m=> by simp at m;subst m;exact DnotOwn locown⟩
 exact hst0 _ _ _ _ _ (loop _ rfl) (X.self A _ 0 {s with heap:=zb3 scope h₃,toks:=tk₂} _ _ st5 (loop _ rfl))
end
theorem zrs {g:GC}{A:Around}:Kind g A (newList []) {cls:= .type "list",data:= .seq ([]:List Value).toArray} (zmb g) (fun l=> some (.lst l)) where
 new:=fun s Q E h=> wpAny_newList h
 nf:=rfl
 mv:=fun D=> zmb.mv
 start:=fun D ad h e=> ⟨#[],⟨0,e⟩,.nil⟩
 rep:=fun D ad h outs pv ⟨ys,hd,hv⟩ n e=> by cases e;exact ⟨D,ys,rfl,n,hd,hv⟩
end
section
section
variable {g:GC}{nm:Nat→Str}{k:Nat}{sc scope:Scope}{vis:List Nat}{ns:List Str}{py:Bool}{elt t iter:Expr}{ifs:List Expr}{pos:Pos}{tg:Tg}{cond:q7}{f:Den}{fi:zai}
theorem zay {env:Env}{h:Heap} (ok:CompOk sc scope nm vis ns) (he:ES env sc) (hx:EnvSh env h):closureFor scope env=pure (zcy env scope.names []):=
 zid fun x hm hf=> hx.has x.1 (by unfold Env.kindOf;rw [he.scope];exact ok.free x hm hf)
theorem Jn (ok:CompOk sc scope nm vis ns):∀ x∈scope.names,x.2= .local→scope.names.lookup x.1=some .local:=fun x hm hl=> by
 obtain ⟨n,k⟩:=x;simp only at hl;subst hl;exact Zj ok.nodup hm
theorem zgo {U:Ren}{W:Sto}{pv:PV} (h:qa vis tg fi cond f U W=some pv):∃ its outs,fi W.length U W=some its∧j6 tg cond (J5 f) (zq vis U) W its=some outs∧ze outs.length=true∧pv= .lst outs:=by
 refine bc fun J=> ?_
 obtain ⟨its,e,h⟩:=Qe h
 obtain ⟨outs,e1,h⟩:=Qe h
 obtain ⟨h1,rfl⟩:=z0 h
 refine J ?_
 exact ⟨its,outs,e,e1,h1,rfl⟩
theorem Made.gr {ad:AD}{s s':Shared}{D C:Addr}{pv:PV} (M:Made g ad s D C pv s') {h':Heap} (hs:Heap.SameBut C s'.heap h'):Gr s {s' with heap:=h'}:=by
 obtain ⟨h1,tk,rfl⟩:=M.eq
 exact Gr.of_heap fun b o e=> hs.extBut b o (fun e'=> by subst e';rw [M.cn] at e;cases e) (M.keep b o e)
theorem Snd.compG (ok:CompOk sc scope nm vis (ns ++ [])) (hit:SI g nm k sc py iter fi) (T:STg g nm (j4 scope sc) ns t tg) (hids:∀ U p U',tg p U=some U'→∀ i∈vis,U' i=U i)
  (ht:(∃ es x1 p,t= .Tuple es x1 p)∨((∃ n p,t= .Name n p)∧py=false)) (C:zb2 g nm k (j4 scope sc) ifs cond) {z:Prop} (hz:z→∀ A cenv,ES cenv (j4 scope sc)→zso g A t cenv) (El:zmj z g nm k (j4 scope sc) elt f) (hs:∀ env x,foldedSetIterable iter env x=pure x):
  Snd g nm k sc (.ListComp elt [⟨t,iter,ifs,0⟩] scope pos) (qa vis tg fi cond f):=by
 intro A env s ad U W pv hr he hx hp E
 refine bc fun J=> ?_
 obtain ⟨its,outs,ei,eo,eof,rfl⟩:=zgo hp
 refine J ?_
 rw [eval_ListComp]
 refine wpAny_comprehension_free (use:=Option.none) rfl (hs env) (zay ok he hx.sh) ok.kind (Jn ok) ?_
 refine zaz (ns':=[]) ok hit T hids ht C hr he hx ei eo eof zrs rfl (z:=z) (fun h cenv he=> hz h A cenv he) (B:=fun D cenv=> zmz elt D cenv) (p0:=iter.pos) (fun cenv D adX he' hb hl hc V=> zvn hr he' El hb hl hc) (fun cenv I D R s h=> z4e rfl rfl R s h) (fun V V V=> rfl) (fun V V V V V h0 h=> codeAny_compStart_list h0 h) (RR:=fun acc C=> compPost (model g.prog g.w) A E Option.none (fun v s'=> Gr s s'∧zk g ad s'.heap (.lst outs) v) acc C) fun D C s' M=> ?_
 obtain ⟨m,hm⟩:=M.ns
 exact ⟨m,hm,fun h' hs'=> ⟨M.gr hs',M.rep h' hs'⟩⟩
noncomputable def SU (g:GC) (nm:Nat→Str) (k:Nat) (sc:Scope) (e:Expr) (f:Den):Prop:=
 ∀ (A:Around) (env:Env) (s:Shared) (ad:AD) (U:Ren) (W:Sto) (pv:PV),Room k A→ES env sc→Cx g nm env ad U W s.heap→f U W=some pv→
  ∀ (E:Value→Shared→Prop) (use:Value→Sem Unit) (Q:Unit→Shared→Prop),
   (∀ D C s',Gr s s'→zk g (ad.ban [C]) s'.heap pv (.ref D)→s.heap.get? C=none→(∃ m,s'.heap.Ns C m)→D≠C→s.heap.get? D=none→
    wpAny (model g.prog g.w) A (use (.ref D)) (fun V s''=> ∃ m,s''.heap.Ns C m∧∀ h',Heap.SameBut C s''.heap h'→Q () {s'' with heap:=h'}) E s')→
   wpAny (model g.prog g.w) A (evalThenUse e env use) Q E s
theorem SU.compG (ok:CompOk sc scope nm vis (ns ++ [])) (hit:SI g nm k sc py iter fi) (T:STg g nm (j4 scope sc) ns t tg) (hids:∀ U p U',tg p U=some U'→∀ i∈vis,U' i=U i)
  (ht:(∃ es x1 p,t= .Tuple es x1 p)∨((∃ n p,t= .Name n p)∧py=false)) (C:zb2 g nm k (j4 scope sc) ifs cond) {z:Prop} (hz:z→∀ A cenv,ES cenv (j4 scope sc)→zso g A t cenv) (El:zmj z g nm k (j4 scope sc) elt f) (hs:∀ env x,foldedSetIterable iter env x=pure x):
  SU g nm k sc (.ListComp elt [⟨t,iter,ifs,0⟩] scope pos) (qa vis tg fi cond f):=by
 intro A env s ad U W pv hr he hx hp E use Q hQ
 refine bc fun J=> ?_
 obtain ⟨its,outs,ei,eo,eof,rfl⟩:=zgo hp
 refine J ?_
 rw [arm_evalThenUse_ListComp]
 show wpAny _ A (do let _←comprehension (.ListComp elt [⟨t,iter,ifs,0⟩] scope pos) scope env _ (newList []) false (eval iter env) (some use)) _ _ s
 refine xa (xp (wpAny_comprehension_free (use:=some use) (Q:=fun V s'=> Q () s') rfl (hs env) (zay ok he hx.sh) ok.kind (Jn ok)
  (zaz (ns':=[]) ok hit T hids ht C hr he hx ei eo eof zrs rfl (z:=z) (fun h cenv he=> hz h A cenv he) (B:=fun D cenv=> zmz elt D cenv) (p0:=iter.pos) (fun cenv D adX he' hb hl hc V=> zvn hr he' El hb hl hc) (fun cenv I D R s h=> z4e rfl rfl R s h) (fun V V V=> rfl) (fun V V V V V h0 h=> codeAny_compStart_list h0 h) (RR:=fun acc C=> compPost (model g.prog g.w) A E (some use) (fun V s'=> Q () s') acc C) fun D C s' M=> ?_)) (fun V s' hq=> xg hq) fun V V e=> e)
 have hg:Gr s s':=by obtain ⟨h1,tk,rfl⟩:=M.eq;exact Gr.of_heap M.keep
 exact hQ D C s' hg M.repC M.cn M.ns M.dc M.dn
theorem zuf {g:GC}{sc:Scope}{n:Str}{p:Pos} (hk:sc.names.lookup n=some .local):∀ A cenv,ES cenv sc→zso g A (.Name n p) cenv:=fun A cenv he v s Q E h=>
 zyc (by unfold Env.kindOf;rw [he.scope];exact hk) (by rw [he.scope];exact he.kind) h
end
end
section
def zyz (fi2:zai) (tg2:Tg) (cond2:q7) (f:Den):Ren→Sto→Option (List PV):=fun U W=> match fi2 W.length U W with
 | some its=> j6 tg2 cond2 (J5 f) U W its
 | none=> none
noncomputable def zhh (e iter2:Expr) (D:Addr) (cenv:Env):Sem Unit:=do
 let x←eval iter2 cenv
 standAt iter2.pos
 let x←foldedSetIterable iter2 cenv x
 let _←runOwn (.compStart e 1 (←holding [x] (pyIter x)) (.ref D) cenv) cenv
theorem zig {elt t iter t2 iter2:Expr}{ifs ifs2:List Expr}{scope:Scope}{pos:Pos}{I D:Addr}{env:Env}:
  compTurn (.ListComp elt [⟨t,iter,ifs,0⟩,⟨t2,iter2,ifs2,0⟩] scope pos) 0 (.ref I) (.ref D) env=zav iter.pos I D (.ListComp elt [⟨t,iter,ifs,0⟩,⟨t2,iter2,ifs2,0⟩] scope pos) 0 t ifs env (zhh (.ListComp elt [⟨t,iter,ifs,0⟩,⟨t2,iter2,ifs2,0⟩] scope pos) iter2 (D:Addr) env):=by
 unfold compTurn zav zhh
 simp only [bind_assoc]
 rfl
section
variable {prog:Program}{w:World}{A:Around}{R:Result→Shared→Prop}{s:Shared}
theorem zcw {elt:Expr}{gens:List Comprehension}{scope:Scope}{pos:Pos}{it acc:Value}{env:Env}{g':Comprehension} (hg:gens[1]? =some g') (ha:g'.is_async=0)
  (h0:codeAny (model prog w) A (.compLoop (.ListComp elt gens scope pos) 1 it acc env) R s)
  (h:wpAny (model prog w) A (pyIter it) (fun it' s'=> codeAny (model prog w) A (.compLoop (.ListComp elt gens scope pos) 1 it' acc env) R s')
   (notedBy (model prog w) A env fun x s'=> R (.error x) s') s):
  codeAny (model prog w) A (.compStart (.ListComp elt gens scope pos) 1 it acc env) R s:=by
 refine codeAny_of_tree ?_
 show wpAny _ A ((compStart (.ListComp elt gens scope pos) 1 it acc env).onRaise (fun x=> do noteFrame x env;standAt theWindowsPlace)) _ _ s
 refine wpAny_notedAt ?_
 unfold compStart
 have hc:(clausesOf (.ListComp elt gens scope pos))[1]? =some g':=hg
 simp only [hc,Option.elim,ha]
 refine Qs (by decide) ?_
 refine xa (wpAny_askSetting ?_)
 refine wpAny_ite ?_
 split
 ·exact xg (And.intro rfl h0)
 ·exact xa (wpAny_rule (xa (wpAny_standAt (xa (xp h (fun it' s' h'=> xg (And.intro rfl h')) fun V V x=> x)))))
end
section
variable {g:GC}{nm:Nat→Str}{k:Nat}{sc:Scope}{A:Around}{cenv:Env}{D:Addr}{elt t iter t2 iter2:Expr}{ifs ifs2:List Expr}{scope:Scope}{pos:Pos}{f:Den}{ad:AD}{W:Sto}{ns2:List Str}{tg2:Tg}{cond2:q7}
 {fi2:zai}{py2:Bool}
theorem z1e (hr:Room k A) (he:ES cenv sc) (hit2:SI g nm k sc py2 iter2 fi2) (T2:STg g nm sc ns2 t2 tg2) (ht2:(∃ es x1 p,t2= .Tuple es x1 p)∨((∃ n p,t2= .Name n p)∧py2=false)) (C2:zb2 g nm k sc ifs2 cond2)
  (El:Snd g nm k sc elt f) (hs2:∀ env x,foldedSetIterable iter2 env x=pure x) (hb:D∈ad.b) (hl:D≠cenv.locals) (hc:∀ n c,cenv.cells.lookup n=some c→c≠D) (hsl:∀ n∈ns2,ji cenv n∈ad.b∧ji cenv n≠D)
  {ok:Ren→Prop} (hgrow:∀ U1,ok U1→∀ p U',tg2 p U1=some U'→∀ i q,U1 i=some q→U' i=some q):
  zgf False g nm A cenv D ns2 (zmb g D) ad W ok (zyz fi2 tg2 cond2 f) (zhh (.ListComp elt [⟨t,iter,ifs,0⟩,⟨t2,iter2,ifs2,0⟩] scope pos) iter2 D cenv):=by
 intro s U dn qs Q E _ hok hx hacc hbod hsz hQ
 unfold zyz at hbod
 cases ei:fi2 W.length U W with
 | none=> rw [ei] at hbod;cases hbod
 | some its=>
 rw [ei] at hbod;simp only at hbod
 unfold zhh
 refine xa (xp (hit2 A cenv s ad W.length U W its hr he hx ei (fun it s'=> wpAny (model g.prog g.w) A (do let _←runOwn (.compStart (.ListComp elt [⟨t,iter,ifs,0⟩,⟨t2,iter2,ifs2,0⟩] scope pos) 1 it (.ref D) cenv) cenv) Q E s') E ?_) (fun x s₁ h₁=> ?_) fun V V e=> e)
 rotate_left
 ·refine xa (wpAny_standAt (xa (wpAny_of_eq (hs2 cenv x) (xa (wpAny_holding h₁)))))
 intro I s₂ wr fp St Mid hm g₂ X k1 km wm wa fa fs hst hfit
 obtain ⟨h₂,tk₂,rfl⟩:=g₂.eq
 have k₂:=g₂.h
 dsimp only at k₂ wa km hst⊢
 have wf:∀ b∈wr,s.heap.get? b=none:=fun b hb=> Zr k1 (wm b hb)
 have x2:Cx g nm cenv (ad.ban wr) U W h₂:=hx.ban k₂ wf wa
 have nwr:∀ b o,s.heap.get? b=some o→b∉wr:=fun b o e m=> by rw [wf b m] at e;cases e
 have banS:∀ b∈ad.b,b∉wr:=fun b hb m=> by obtain ⟨o,e⟩:=hx.sto.ban b hb;exact nwr b o e m
 have P:Places cenv ad wr fp D (ns2 ++ []):=by
  refine ⟨⟨fun a ha m=> banS a m ha, ?_,fun n c e=> ?_⟩,hb,fun m=> (fa D m).2.1 hb,banS D hb,hl,hc,fun n hn=> ?_⟩
  ·obtain ⟨m,q⟩:=hx.sh.ns;obtain ⟨o,e⟩:=q9 q;exact nwr _ o e
  ·obtain ⟨v,q⟩:=hx.sh.cells n c e;obtain ⟨o,e⟩:=Zu q;exact nwr _ o e
  ·rw [List.append_nil] at hn
   have q:=hsl n hn
   exact ⟨q.1,banS _ q.1,fun m=> (fa _ m).2.1 q.1,q.2⟩
 have st2:St (ad.ban wr) 0 h₂:=hst _ _ (fun b hb=> List.mem_append_left _ hb) (Stays.ban km wm) fun b o V e=> e
 have loop:∀ s₅:Shared,s₅={s with heap:=h₂,toks:=tk₂}→codeAny (model g.prog g.w) A (.compLoop (.ListComp elt [⟨t,iter,ifs,0⟩,⟨t2,iter2,ifs2,0⟩] scope pos) 1 (.ref I) (.ref D) cenv)
   (fun r s'=> match r with | .ok f=> wpAny (model g.prog g.w) A (pure ():Sem Unit) Q E s' | .error e=> False) s₅:=by
  rintro s₅ rfl
  refine zi7 (ns':=[]) (p0:=iter2.pos) (z:=False) hr he X T2 ht2 C2 zmb.mv nofun (zvn hr he El.z (xu _ hb) hl hc) (hgrow U hok) (fun R s h=> z4e rfl rfl R s h) rfl P its 0 rfl (yc _) _ dn qs hbod x2 st2 (zmb.mv _ _ _ _ _ hacc (Stays.ban k₂ wf).toMv fun o e=> k₂ D o e) hsz fun h' tk hk hc' hv=> ?_
  refine xg ?_
  have kk:∀ b o,b≠D→(∀ n∈ns2,b≠ji cenv n)→s.heap.get? b=some o→h'.get? b=some o:=fun b o h1 h2 e=> hk b o (nwr b o e) h1 (fun n hn=> by rw [List.append_nil] at hn;exact h2 n hn) (k₂ b o e)
  refine hQ h' tk ⟨⟨fun b o n e=> kk b o (fun h=> n.2 (h▸hb)) (fun n' hn h=> n.2 (h▸(hsl n' hn).1)) e,fun V V e=> e,fun V V V n=> n⟩,fun b o e=> ?_,fun V m=> m⟩ kk hc' hv
  by_cases hbb:b∈ad.b
  ·exact hc'.sto.ban b hbb
  ·exact ⟨o,kk b o (fun h=> hbb (h▸hb)) (fun n' hn h=> hbb (h▸(hsl n' hn).1)) e⟩
 refine xa (wpAny_runOwn (h:=none) ?_)
 have hA:A.mark none=A:=rfl
 rw [hA]
 refine codeAny_mono (R:=fun r s'=> match r with | .ok f=> wpAny (model g.prog g.w) A (pure ():Sem Unit) Q E s' | .error e=> False) ?_ (fun r s' h=> by cases r with | ok f=> exact h | error e=> exact h.elim)
 exact zcw (g':=⟨t2,iter2,ifs2,0⟩) rfl rfl (loop _ rfl) (X.self A _ 0 {s with heap:=h₂,toks:=tk₂} _ _ st2 (loop _ rfl))
theorem z6p (I:Addr) (R:Result→Shared→Prop) (s:Shared)
  (h:wpAny (model g.prog g.w) A (zav iter.pos I D (.ListComp elt [⟨t,iter,ifs,0⟩,⟨t2,iter2,ifs2,0⟩] scope pos) 0 t ifs cenv (zhh (.ListComp elt [⟨t,iter,ifs,0⟩,⟨t2,iter2,ifs2,0⟩] scope pos) iter2 D cenv)) (fun fin s'=> match fin with | .done f=> R (.ok f) s' | .again c'=> c'.quiet=true∧codeAny (model g.prog g.w) A c' R s') (notedBy (model g.prog g.w) A cenv fun e s'=> R (.error e) s') s):
  codeAny (model g.prog g.w) A (.compLoop (.ListComp elt [⟨t,iter,ifs,0⟩,⟨t2,iter2,ifs2,0⟩] scope pos) 0 (.ref I) (.ref D) cenv) R s:=by
 refine codeAny_of_tree ?_
 show wpAny _ A ((compTurn (.ListComp elt [⟨t,iter,ifs,0⟩,⟨t2,iter2,ifs2,0⟩] scope pos) 0 (.ref I) (.ref D) cenv).onRaise (fun x=> do noteFrame x cenv;theTreesLotGoes x)) _ _ s
 refine wpAny_noted ?_
 rw [zig]
 exact h
end
def Q9 (vis:List Nat) (tg:Tg) (fi:zai) (cond:q7) (tg2:Tg) (fi2:zai) (cond2:q7) (f:Den):Den:=fun U W=> match fi W.length U W with
 | some its=> match j6 tg cond (zyz fi2 tg2 cond2 f) (zq vis U) W its with
  | some l=> if ze l.length then some (.lst l) else none
  | none=> none
 | none=> none
section
variable {g:GC}{nm:Nat→Str}{k:Nat}{sc scope:Scope}{vis:List Nat}{ns ns2:List Str}{py py2:Bool}{elt t iter t2 iter2:Expr}{ifs ifs2:List Expr}{pos:Pos}{tg tg2:Tg}{cond cond2:q7}{f:Den}{fi fi2:zai}
set_option tactic.hygienic true in
theorem Snd.comp2 (ok:CompOk sc scope nm vis (ns ++ ns2)) (hit:SI g nm k sc py iter fi) (T:STg g nm (j4 scope sc) ns t tg) (hids:∀ U p U',tg p U=some U'→∀ i∈vis,U' i=U i)
  (ht:(∃ es x1 p,t= .Tuple es x1 p)∨((∃ n p,t= .Name n p)∧py=false)) (C:zb2 g nm k (j4 scope sc) ifs cond)
  (hit2:SI g nm k (j4 scope sc) py2 iter2 fi2) (T2:STg g nm (j4 scope sc) ns2 t2 tg2) (ht2:(∃ es x1 p,t2= .Tuple es x1 p)∨((∃ n p,t2= .Name n p)∧py2=false)) (C2:zb2 g nm k (j4 scope sc) ifs2 cond2)
  (hgrow:∀ U p U1,tg p (zq vis U)=some U1→∀ q U',tg2 q U1=some U'→∀ i v,U1 i=some v→U' i=some v)
  (El:Snd g nm k (j4 scope sc) elt f) (hs:∀ env x,foldedSetIterable iter env x=pure x) (hs2:∀ env x,foldedSetIterable iter2 env x=pure x):
  Snd g nm k sc (.ListComp elt [⟨t,iter,ifs,0⟩,⟨t2,iter2,ifs2,0⟩] scope pos) (Q9 vis tg fi cond tg2 fi2 cond2 f):=by
 intro A env s ad U W pv hr he hx hp E
 unfold Q9 at hp
 split at hp
 ·rename_i its ei
  split at hp
  ·rename_i outs eo
   obtain ⟨eof,rfl⟩:=z0 hp
   rw [eval_ListComp]
   refine wpAny_comprehension_free (use:=Option.none) rfl (hs env) (zay ok he hx.sh) ok.kind (Jn ok) ?_
   refine zaz ok hit T hids ht C hr he hx ei eo eof zrs rfl (z:=False) nofun (p0:=iter.pos) (B:=fun D cenv=> zhh (.ListComp elt [⟨t,iter,ifs,0⟩,⟨t2,iter2,ifs2,0⟩] scope pos) iter2 D cenv)
    (fun cenv D adX he' hb hl hc hsl=> z1e hr he' hit2 T2 ht2 C2 El hs2 hb hl hc hsl fun U1 ⟨p,e⟩ q U' e'=> hgrow U p U1 e q U' e') (fun cenv I D R s h=> z6p I R s h) (fun V V V=> rfl) (fun V V V V V h0 h=> codeAny_compStart_list h0 h)
    (RR:=fun acc C=> compPost (model g.prog g.w) A E Option.none (fun v s'=> Gr s s'∧zk g ad s'.heap (.lst outs) v) acc C) fun D C s' M=> ?_
   obtain ⟨m,hm⟩:=M.ns
   exact ⟨m,hm,fun h' hs'=> ⟨M.gr hs',M.rep h' hs'⟩⟩
  ·cases hp
 ·cases hp
set_option tactic.hygienic true in
theorem SU.comp2 (ok:CompOk sc scope nm vis (ns ++ ns2)) (hit:SI g nm k sc py iter fi) (T:STg g nm (j4 scope sc) ns t tg) (hids:∀ U p U',tg p U=some U'→∀ i∈vis,U' i=U i)
  (ht:(∃ es x1 p,t= .Tuple es x1 p)∨((∃ n p,t= .Name n p)∧py=false)) (C:zb2 g nm k (j4 scope sc) ifs cond)
  (hit2:SI g nm k (j4 scope sc) py2 iter2 fi2) (T2:STg g nm (j4 scope sc) ns2 t2 tg2) (ht2:(∃ es x1 p,t2= .Tuple es x1 p)∨((∃ n p,t2= .Name n p)∧py2=false)) (C2:zb2 g nm k (j4 scope sc) ifs2 cond2)
  (hgrow:∀ U p U1,tg p (zq vis U)=some U1→∀ q U',tg2 q U1=some U'→∀ i v,U1 i=some v→U' i=some v)
  (El:Snd g nm k (j4 scope sc) elt f) (hs:∀ env x,foldedSetIterable iter env x=pure x) (hs2:∀ env x,foldedSetIterable iter2 env x=pure x):
  SU g nm k sc (.ListComp elt [⟨t,iter,ifs,0⟩,⟨t2,iter2,ifs2,0⟩] scope pos) (Q9 vis tg fi cond tg2 fi2 cond2 f):=by
 intro A env s ad U W pv hr he hx hp E use Q hQ
 unfold Q9 at hp
 split at hp
 ·rename_i its ei
  split at hp
  ·rename_i outs eo
   obtain ⟨eof,rfl⟩:=z0 hp
   rw [arm_evalThenUse_ListComp]
   show wpAny _ A (do let _←comprehension (.ListComp elt [⟨t,iter,ifs,0⟩,⟨t2,iter2,ifs2,0⟩] scope pos) scope env _ (newList []) false (eval iter env) (some use)) _ _ s
   refine xa (xp (wpAny_comprehension_free (use:=some use) (Q:=fun V s'=> Q () s') rfl (hs env) (zay ok he hx.sh) ok.kind (Jn ok)
    (zaz ok hit T hids ht C hr he hx ei eo eof zrs rfl (z:=False) nofun (p0:=iter.pos) (B:=fun D cenv=> zhh (.ListComp elt [⟨t,iter,ifs,0⟩,⟨t2,iter2,ifs2,0⟩] scope pos) iter2 D cenv)
     (fun cenv D adX he' hb hl hc hsl=> z1e hr he' hit2 T2 ht2 C2 El hs2 hb hl hc hsl fun U1 ⟨p,e⟩ q U' e'=> hgrow U p U1 e q U' e') (fun cenv I D R s h=> z6p I R s h) (fun V V V=> rfl) (fun V V V V V h0 h=> codeAny_compStart_list h0 h)
     (RR:=fun acc C=> compPost (model g.prog g.w) A E (some use) (fun V s'=> Q () s') acc C) fun D C s' M=> ?_)) (fun V s' hq=> xg hq) fun V V e=> e)
   have hg:Gr s s':=by obtain ⟨h1,tk,rfl⟩:=M.eq;exact Gr.of_heap M.keep
   exact hQ D C s' hg M.repC M.cn M.ns M.dc M.dn
  ·cases hp
 ·cases hp
end
end
section
noncomputable def zrd (kx vx:Expr) (D:Addr) (cenv:Env):Sem Unit:=do
 let kv←eval kx cenv
 let vv←holding [kv] (eval vx cenv)
 standAt {kx.pos with endLine:=vx.pos.endLine,endCol:=vx.pos.endCol}
 holding [kv,vv] (dictSet D kv vv)
theorem zie {kx vx t iter:Expr}{ifs:List Expr}{scope:Scope}{pos:Pos}{I D:Addr}{env:Env}:
  compTurn (.DictComp kx vx [⟨t,iter,ifs,0⟩] scope pos) 0 (.ref I) (.ref D) env=zav iter.pos I D (.DictComp kx vx [⟨t,iter,ifs,0⟩] scope pos) 0 t ifs env (zrd kx vx D env):=by
 unfold zav
 rfl
def z1k (p:PV):Option (List Nat):=match p with
 | .tup l=> g2 (fun a V=> onS some a) l
 | _=> none
theorem ztl {p:PV}{k:List Nat} (e:z1k p=some k):∃ v,p= .tup [.str k,v]:=by
 cases p with
 | tup l=>
  obtain ⟨a,b,rfl,e⟩:=zgz e
  obtain ⟨x,rfl,e⟩:=Q4 e
  cases si e;exact ⟨b,rfl⟩
 | _=> exact nn e
noncomputable def zg5:List PV→Option (List (List Nat))
 | []=> some []
 | p::r=> (z1k p).bind fun k=> (zg5 r).map (k::·)
noncomputable def ze6:List PV→List PV
 | .tup [_,v]::r=> v::ze6 r
 | _=> []
def zum (g:GC) (D:Addr):zoq:=fun ad dn h=> ∃ kvs ks,h.DictOf (PySem.strKind g.prog g.w) D kvs∧kvs.length≤dn.length∧zg5 dn=some ks∧
 (ks.Nodup→∃ vs,(ze6 dn).length=ks.length∧ks.length=vs.length∧kvs=((ks.map fun k=> (⟨k.toArray⟩:Str)).zip vs)∧zh g ad h (ze6 dn) vs)
theorem zum.mv {g:GC}{D:Addr}:zqz D (zum g D):=fun ad ad' dn h h' ⟨kvs,ks,a,b,c,d⟩ m k=> ⟨kvs,ks,a.at k,b,c,fun n=> let ⟨vs,p,q,e,r⟩:=d n;⟨vs,p,q,e,zh.mv m _ _ r⟩⟩
def mkD (l:List PV):Option PV:=(zg5 l).bind fun ks=> if ks.Nodup then some (.dct ks (ze6 l)) else none
theorem z51 {g:GC}{A:Around}:Kind g A newDict {cls:= .type "dict",data:= .dict #[]} (zum g) mkD where
 new:=fun s Q E h=> wpAny_newObj_type h
 nf:=rfl
 mv:=fun D=> zum.mv
 start:=fun D ad h e=> ⟨[],[],⟨_,#[],0,e,⟨rfl,rfl,rfl⟩,rfl,(fun V h=> by simp at h),.nil,List.nodup_nil⟩,x9 _,rfl,fun V=> ⟨[],rfl,rfl,rfl,.nil⟩⟩
 rep:=fun D ad h outs pv ⟨kvs,ks,a,b,c,d⟩ n em=> by
  refine bc fun J=> ?_
  obtain ⟨ks',c',em⟩:=xn.mp em
  cases si (c.symm.trans c')
  obtain ⟨hn,rfl⟩:=z0 em
  obtain ⟨vs,p,q,e,r⟩:=d hn
  subst e
  refine J ?_
  exact ⟨D,vs,rfl,n,q,a,r⟩
def zy0 (fk fv:Den):Ren→Sto→Option (List PV):=fun U W=> (fk U W).bind fun p=> onS (fun k=> (fv U W).map fun v=> [.tup [.str k,v]]) p
theorem zg6:∀ {l:List PV}{k:List Nat}{v:PV}{ks:List (List Nat)},zg5 l=some ks→zg5 (l ++ [.tup [.str k,v]])=some (ks ++ [k])∧ze6 (l ++ [.tup [.str k,v]])=ze6 l ++ [v]
 | [],k,v,ks,e=> by cases si e;exact ⟨rfl,rfl⟩
 | p::r,k,v,ks,e=> by
  refine bc fun J=> ?_
  obtain ⟨k0,e1,e⟩:=xn.mp e
  obtain ⟨v0,rfl⟩:=ztl e1
  obtain ⟨ks0,e0,rfl⟩:=xh.mp e
  obtain ⟨a,b⟩:=zg6 (k:=k) (v:=v) e0
  refine J ?_
  exact ⟨(congrArg (fun o=> Option.map (k0::·) o) a).trans rfl,congrArg (v0::·) b⟩
theorem zqp (prog:Program) (w:World) {ks:List (List Nat)}{vs:List Value}{k:List Nat}{v:Value} (hl:ks.length=vs.length) (hn:k∉ks):
  stored ((ks.map fun k=> (⟨k.toArray⟩:Str)).zip vs) (⟨k.toArray⟩:Str) v=((ks ++ [k]).map fun k=> (⟨k.toArray⟩:Str)).zip (vs ++ [v]):=by
 unfold stored
 have:(((ks.map fun k=> (⟨k.toArray⟩:Str)).zip vs).any fun kv=> decide (kv.1=(⟨k.toArray⟩:Str)))=false:=by
  rw [List.any_eq_false]
  intro x hx
  have:=(List.of_mem_zip hx).1
  obtain ⟨q,hq,e⟩:=xr.mp this
  simp only [decide_eq_true_eq]
  intro e2
  rw [←e] at e2
  injection e2 with e2
  have:q=k:=by simpa using congrArg Array.toList e2
  exact hn (this▸hq)
 rw [this]
 simp only [Bool.false_eq_true,if_false,List.map_append,List.map_cons,List.map_nil]
 rw [List.zip_append (by simpa using hl)]
 rfl
section
variable {g:GC}{nm:Nat→Str}{k:Nat}{sc:Scope}{A:Around}{cenv:Env}{I D:Addr}{kx vx t iter:Expr}{ifs:List Expr}{scope:Scope}{pos:Pos}{fk fv:Den}{ad:AD}{W:Sto}
theorem z5f (hr:Room k A) (he:ES cenv sc) (Ek:Snd g nm k sc kx fk) (Ev:Snd g nm k sc vx fv) (hb:D∈ad.b) (hl:D≠cenv.locals) (hc:∀ n c,cenv.cells.lookup n=some c→c≠D) {ok:Ren→Prop}:
  zgf False g nm A cenv D [] (zum g D) ad W ok (zy0 fk fv) (zrd kx vx D cenv):=by
 intro s U dn qs Q E _ _ hx hacc hbod hsz hQ
 refine bc fun J=> ?_
 obtain ⟨kvs,ks,hd,hlen,hks,hv⟩:=hacc
 obtain ⟨p,ek,hbod⟩:=xn.mp hbod
 obtain ⟨key,rfl,hbod⟩:=Q4 hbod
 obtain ⟨val,ev,hbod⟩:=xh.mp hbod
 subst hbod
 refine J ?_
 skip
 refine xa (Ek.go hr he hx ek fun y h5 tk5 k5 r5=> ?_)
 obtain ⟨t5,rfl⟩:=r5.str_inv
 refine xa (wpAny_holding (Ev.go (s:={s with heap:=h5,toks:=tk5}) hr he (hx.keeps k5) ev fun z h6 tk6 k6 r6=> ?_))
 refine xa (wpAny_standAt (wpAny_holding ?_))
 refine wpAny_dictSet_pairs (knd:=PySem.strKind g.prog g.w) (s:={s with heap:=h6,toks:=tk6}) (k:=(⟨key.toArray⟩:Str)) (by simp [PySem.strKind,Value.isStrOf]) ((hd.at fun o e=> k5 D o e).at fun o e=> k6 D o e) (fun h7 hd7 hs7=> ?_) (zy (by simp [ze] at hsz⊢;lia))
 have al7:∃ o',h7.get? D=some o':=by obtain ⟨o,_,_,e,_⟩:=hd7;exact ⟨o,e⟩
 have x7:Stays ad ad h6 h7:=Stays.but hb hs7.extBut al7
 have up:∀ b o,b≠D→s.heap.get? b=some o→h7.get? b=some o:=fun b o hb e=> hs7.extBut b o hb (k6 b o (k5 b o e))
 refine hQ h7 _ (((Stays.of_keeps k5).trans (Stays.of_keeps k6)).trans x7) (fun b o hb V e=> up b o hb e) (((hx.keeps k5).keeps k6).step x7 (L:=[D]) (fun b o hb e=> hs7.extBut b o (fun h=> hb (by simp [h])) e) (fun h=> by simp at h;exact hl h.symm) (fun n c hc' h=> by simp at h;exact hc n c hc' h) fun b hb'=> by simp at hb';subst hb';exact hb) ?_
 obtain ⟨e1,e2⟩:=zg6 (k:=key) (v:=val) hks
 refine ⟨_,ks ++ [key],hd7, ?_,e1,fun hn=> ?_⟩
 ·unfold stored
  split
  ·simp;lia
  ·simp;lia
 ·rw [List.nodup_append] at hn
  refine bc fun J=> ?_
  obtain ⟨hn1,_,hn2⟩:=hn
  have hnk:key∉ks:=fun m=> hn2 key m key (by simp) rfl
  obtain ⟨vs,p,q,e,r⟩:=hv hn1
  subst e
  refine J ?_
  refine ⟨vs ++ [z], ?_, ?_,zqp g.prog g.w q hnk, ?_⟩
  ·rw [e2];simp [p]
  ·simp [q]
  ·rw [e2]
   exact (zh.stays x7 _ _ ((r.keeps k5).keeps k6)).append (.cons (zk.stays x7 val z r6) .nil)
theorem z7u (R:Result→Shared→Prop) (s:Shared)
  (h:wpAny (model g.prog g.w) A (zav iter.pos I D (.DictComp kx vx [⟨t,iter,ifs,0⟩] scope pos) 0 t ifs cenv (zrd kx vx D cenv)) (fun fin s'=> match fin with | .done f=> R (.ok f) s' | .again c'=> c'.quiet=true∧codeAny (model g.prog g.w) A c' R s') (notedBy (model g.prog g.w) A cenv fun e s'=> R (.error e) s') s):
  codeAny (model g.prog g.w) A (.compLoop (.DictComp kx vx [⟨t,iter,ifs,0⟩] scope pos) 0 (.ref I) (.ref D) cenv) R s:=by
 refine codeAny_of_tree ?_
 show wpAny _ A ((compTurn (.DictComp kx vx [⟨t,iter,ifs,0⟩] scope pos) 0 (.ref I) (.ref D) cenv).onRaise (fun x=> do noteFrame x cenv;theTreesLotGoes x)) _ _ s
 refine wpAny_noted ?_
 rw [zie]
 exact h
end
def zk6 (vis:List Nat) (tg:Tg) (fi:zai) (cond:q7) (fk fv:Den):Den:=fun U W=> (fi W.length U W).bind fun its=> (j6 tg cond (zy0 fk fv) (zq vis U) W its).bind fun l=> if ze l.length then mkD l else none
section
variable {g:GC}{nm:Nat→Str}{k:Nat}{sc scope:Scope}{vis:List Nat}{ns:List Str}{py:Bool}{kx vx t iter:Expr}{ifs:List Expr}{pos:Pos}{tg:Tg}{cond:q7}{fk fv:Den}{fi:zai}
theorem Snd.dictcomp (ok:CompOk sc scope nm vis (ns ++ [])) (hit:SI g nm k sc py iter fi) (T:STg g nm (j4 scope sc) ns t tg) (hids:∀ U p U',tg p U=some U'→∀ i∈vis,U' i=U i)
  (ht:(∃ es x1 p,t= .Tuple es x1 p)∨((∃ n p,t= .Name n p)∧py=false)) (C:zb2 g nm k (j4 scope sc) ifs cond) (Ek:Snd g nm k (j4 scope sc) kx fk) (Ev:Snd g nm k (j4 scope sc) vx fv) (hs:∀ env x,foldedSetIterable iter env x=pure x):
  Snd g nm k sc (.DictComp kx vx [⟨t,iter,ifs,0⟩] scope pos) (zk6 vis tg fi cond fk fv):=by
 intro A env s ad U W pv hr he hx hp E
 refine bc fun J=> ?_
 obtain ⟨its,ei,hp⟩:=xn.mp hp
 obtain ⟨outs,eo,hp⟩:=xn.mp hp
 obtain ⟨eof,hmk⟩:=jg hp
 refine J ?_
 rw [arm_eval_DictComp]
 refine wpAny_comprehension_free (use:=Option.none) rfl (hs env) (zay ok he hx.sh) ok.kind (Jn ok) ?_
 refine zaz (ns':=[]) ok hit T hids ht C hr he hx ei eo eof z51 hmk (z:=False) nofun (p0:=iter.pos) (B:=fun D cenv=> zrd kx vx D cenv)
  (fun cenv D adX he' hb hl hc V=> z5f hr he' Ek Ev hb hl hc) (fun cenv I D R s h=> z7u R s h) (fun V V V=> rfl) (fun V V V V V h0 h=> codeAny_compStart_dict h0 h)
  (RR:=fun acc C=> compPost (model g.prog g.w) A E Option.none (fun v s'=> Gr s s'∧zk g ad s'.heap pv v) acc C) fun D C s' M=> ?_
 obtain ⟨m,hm⟩:=M.ns
 exact ⟨m,hm,fun h' hs'=> ⟨M.gr hs',M.rep h' hs'⟩⟩
end
end
section
inductive Fl where
 | next | brk | cont | ret (p:PV)
def ziy (g:GC) (ad:AD) (h:Heap):Fl→Flow→Prop
 | .next,f=> f= .next
 | .brk,f=> f= .brk
 | .cont,f=> f= .cont
 | .ret p,f=> ∃ v,f= .ret v∧zk g ad h p v
abbrev Stm:=Nat→Ren→Sto→Option (Fl×Ren×Sto)
noncomputable def Own (sc:Scope) (n:Str):Prop:=sc.names.lookup n=some .local∨sc.names.lookup n=some .cell
structure Nx (base:Nat) (env:Env) (sc:Scope) (ad ad':AD) (h h':Heap):Prop where
 keep:∀ b o,(∀ i,ad.m[i]? =some b→i < base)→(∀ n,Own sc n→b≠ji env n)→h.get? b=some o→h'.get? b=some o
 pre:∀ (i:Nat) (a:Addr),ad.m[i]? =some a→ad'.m[i]? =some a
 len:ad.m.length≤ad'.m.length
 new:∀ (i:Nat) (a:Addr),ad'.m[i]? =some a→ad.m.length≤i→h.get? a=none
 b:ad'.b=ad.b
 alive:∀ b o,h.get? b=some o→∃ o',h'.get? b=some o'
structure FO (env:Env) (sc:Scope) (ad:AD):Prop where
 own:∀ n,Own sc n→ji env n∈ad.b
theorem Nx.old {base:Nat}{env:Env}{sc:Scope}{ad ad':AD}{h h':Heap} (x:Nx base env sc ad ad' h h') {i:Nat}{b:Addr} (e:ad'.m[i]? =some b) {o:Obj} (ho:h.get? b=some o):ad.m[i]? =some b:=by
 by_cases hi:i < ad.m.length
 ·have:=x.pre i _ (xt hi)
  rw [e] at this;cases this
  exact xt hi
 ·rw [x.new i b e (Nat.le_of_not_lt hi)] at ho;cases ho
theorem Nx.stays {base:Nat}{env:Env}{sc:Scope}{ad ad':AD}{h h':Heap} (x:Nx base env sc ad ad' h h') (F:FO env sc ad):Stays ad ad' h h':=by
 refine ⟨⟨fun b o n e=> x.keep b o (fun i ei=> absurd (xw ei) n.1) (fun m hm e'=> n.2 (e'▸F.own m hm)) e,x.pre,fun b o e n=> ⟨fun m=> ?_,by rw [x.b];exact n.2⟩⟩,x.alive,by rw [x.b];exact fun V m=> m⟩
 obtain ⟨i,ei⟩:=List.getElem?_of_mem m
 exact n.1 (xw (x.old ei e))
theorem Nx.of_keeps {base:Nat}{env:Env}{sc:Scope}{ad:AD}{h h':Heap} (k:∀ b o,h.get? b=some o→h'.get? b=some o):Nx base env sc ad ad h h':=by
 refine ⟨fun b o V V e=> k b o e,fun V V e=> e,x9 _,fun i a e hi=> ?_,rfl,fun b o e=> ⟨o,k b o e⟩⟩
 have:=(xe.mp e).1;lia
theorem Nx.trans {base:Nat}{env:Env}{sc:Scope}{ad ad' ad'':AD}{h h' h'':Heap} (x:Nx base env sc ad ad' h h') (y:Nx base env sc ad' ad'' h' h''):Nx base env sc ad ad'' h h'':=by
 refine ⟨fun b o hb hs e=> y.keep b o (fun i ei=> hb i (x.old ei e)) hs (x.keep b o hb hs e),
  fun i a e=> y.pre i a (x.pre i a e),x8 x.len y.len,fun i a e hi=> ?_,y.b.trans x.b,fun b o e=> let ⟨o',e'⟩:=x.alive b o e;y.alive b o' e'⟩
 by_cases h1:i < ad'.m.length
 ·have:=y.pre i _ (xt h1)
  rw [e] at this;cases this
  exact x.new i _ (xt h1) hi
 ·have h2:=y.new i a e (Nat.le_of_not_lt h1)
  cases e1:h.get? a with
  | none=> rfl
  | some o=> obtain ⟨o',e2⟩:=x.alive a o e1;rw [h2] at e2;cases e2
theorem FO.nx {base:Nat}{env:Env}{sc:Scope}{ad ad':AD}{h h':Heap} (F:FO env sc ad) (x:Nx base env sc ad ad' h h'):FO env sc ad':=⟨fun n hn=> by rw [x.b];exact F.own n hn⟩
theorem Nx.store {base:Nat}{env:Env}{sc:Scope}{ad:AD}{h h':Heap}{ns:List Str} (x:Stays ad ad h h') (k:∀ b o,(∀ n∈ns,b≠ji env n)→h.get? b=some o→h'.get? b=some o) (hns:∀ n∈ns,Own sc n):Nx base env sc ad ad h h':=
 ⟨fun b o V hs e=> k b o (fun n hn=> hs n (hns n hn)) e,fun V V e=> e,x9 _,fun i a e hi=> (by have:=(xe.mp e).1;lia),rfl,x.alive⟩
noncomputable def SX (g:GC) (nm:Nat→Str) (k:Nat) (sc:Scope) (st:Stmt) (f:Stm):Prop:=
 ∀ (A:Around) (env:Env) (s:Shared) (ad:AD) (base:Nat) (U:Ren) (W:Sto) (fl:Fl) (U':Ren) (W':Sto),Room k A→ES env sc→FO env sc ad→Cx g nm env ad U W s.heap→f base U W=some (fl,U',W')→
  ∀ (Q:Flow→Shared→Prop) (E:Value→Shared→Prop),(∀ fv h' tk ad',Nx base env sc ad ad' s.heap h'→ziy g ad' h' fl fv→Cx g nm env ad' U' W' h'→Q fv {s with heap:=h',toks:=tk})→wpAny (model g.prog g.w) A (exec st env) Q E s
noncomputable def SS (g:GC) (nm:Nat→Str) (k:Nat) (sc:Scope) (sts:List Stmt) (f:Stm):Prop:=
 ∀ (A:Around) (env:Env) (s:Shared) (ad:AD) (base:Nat) (U:Ren) (W:Sto) (fl:Fl) (U':Ren) (W':Sto),Room k A→ES env sc→FO env sc ad→Cx g nm env ad U W s.heap→f base U W=some (fl,U',W')→
  ∀ (Q:Flow→Shared→Prop) (E:Value→Shared→Prop),(∀ fv h' tk ad',Nx base env sc ad ad' s.heap h'→ziy g ad' h' fl fv→Cx g nm env ad' U' W' h'→Q fv {s with heap:=h',toks:=tk})→wpAny (model g.prog g.w) A (execs sts env) Q E s
noncomputable def zl:Stm:=fun V U W=> some (.next,U,W)
noncomputable def Qz:Stm:=fun V V V=> none
noncomputable def zb (f f':Stm):Stm:=fun base U W=> match f base U W with
 | some (.next,U1,W1)=> f' base U1 W1
 | r=> r
section
variable {g:GC}{nm:Nat→Str}{k:Nat}{sc:Scope}
theorem SS.nil:SS g nm k sc [] zl:=by
 intro A env s ad base U W fl U' W' hr he F hx hp Q E hQ
 cases hp
 exact wpAny_execs_nil (hQ _ s.heap s.toks ad (Nx.of_keeps fun V V e=> e) rfl hx)
theorem SX.stuck {st:Stmt}:SX g nm k sc st Qz:=by
 intro A env s ad base U W fl U' W' hr he F hx hp;cases hp
theorem SS.cons {st:Stmt}{rest:List Stmt}{f f':Stm} (h:SX g nm k sc st f) (h':SS g nm k sc rest f'):SS g nm k sc (st::rest) (zb f f'):=by
 intro A env s ad base U W fl U' W' hr he F hx hp Q E hQ
 unfold zb at hp
 cases e1:f base U W with
 | none=> rw [e1] at hp;cases hp
 | some r=>
  refine bc fun J=> ?_
  obtain ⟨fl1,U1,W1⟩:=r
  refine J ?_
  rw [e1] at hp
  refine wpAny_execs_cons (h A env s ad base U W fl1 U1 W1 hr he F hx e1 _ _ fun fv h1 tk1 ad1 x1 r1 c1=> ?_)
  cases fl1 with
  | next=>
   cases r1
   refine h' A env {s with heap:=h1,toks:=tk1} ad1 base U1 W1 fl U' W' hr he (F.nx x1) c1 hp Q E fun fv h2 tk2 ad2 x2 r2 c2=> ?_
   exact hQ fv h2 tk2 ad2 (x1.trans x2) r2 c2
  | brk=> cases r1;cases hp;exact hQ _ h1 tk1 ad1 x1 rfl c1
  | cont=> cases r1;cases hp;exact hQ _ h1 tk1 ad1 x1 rfl c1
  | ret p=> obtain ⟨v,rfl,r1⟩:=r1;cases hp;exact hQ _ h1 tk1 ad1 x1 ⟨v,rfl,r1⟩ c1
noncomputable def zc (tg:Tg) (f:Den):Stm:=fun V U W=> match f U W with
 | some p=> match tg p U with | some U'=> some (.next,U',W) | none=> none
 | none=> none
theorem SX.asg {t:Expr}{value:Expr}{pos:Pos}{ns:List Str}{tg:Tg}{f:Den} (h:Snd g nm k sc value f) (T:STg g nm sc ns t tg) (hns:∀ n∈ns,Own sc n)
  (hsw:∀ env,env.scope=sc→swapsWithSole [t] value pos.line env=pure false) (hst:∀ env,env.scope=sc→swappedStores [t] value env=pure none)
  (ha:∀ env,(assignEach [t] env).map (·.2)=[assign t env]):SX g nm k sc (.Assign [t] value pos) (zc tg f):=by
 intro A env s ad base U W fl U' W' hr he F hx hp Q E hQ
 unfold zc at hp
 cases e1:f U W with
 | none=> rw [e1] at hp;cases hp
 | some p=>
 rw [e1] at hp;simp only at hp
 cases e2:tg p U with
 | none=> rw [e2] at hp;cases hp
 | some U1=>
 rw [e2] at hp;cases hp
 rw [arm_exec_Assign]
 refine xa (wpAny_standAt ?_)
 rw [hsw env he.scope]
 refine xa (xg ?_)
 refine Qs (by decide) ?_
 refine xa (xp (h A env s ad U W p hr he hx e1 E) (fun v s1 h1=> ?_) fun V V x=> x)
 rw [hst env he.scope]
 refine xa (xg ?_)
 rw [ha env]
 show wpAny _ A (do assignAll v [assign t env];pure Flow.next) Q E s1
 refine bc fun J=> ?_
 obtain ⟨g1,r1⟩:=h1
 have k1:=g1.h
 obtain ⟨h1,tk1,rfl⟩:=g1.eq
 refine J ?_
 dsimp only at k1 r1⊢
 refine xa ?_
 show wpAny _ A (assign t env v) _ E _
 refine T A env {s with heap:=h1,toks:=tk1} ad U _ W p v _ E hr.handled he (fun n hn=> F.own n (hns n hn)) (hx.keeps k1) r1 e2 fun h2 tk2 x2 k2 c2=> xg ?_
 exact hQ _ h2 tk2 ad ((Nx.of_keeps k1).trans (Nx.store x2 k2 hns)) rfl c2
theorem SX.asgU {n:Str}{i:Nat}{value:Expr}{p0 pos:Pos}{f:Den} (hinj:∀ i j,nm i=nm j→i=j) (hi:nm i=n) (h:SU g nm k sc value f) (hk:sc.names.lookup n=some .local)
  (hsw:∀ env,env.scope=sc→swapsWithSole [.Name n p0] value pos.line env=pure true):SX g nm k sc (.Assign [.Name n p0] value pos) (zc (tNm i) f):=by
 intro A env s ad base U W fl U' W' hr he F hx hp Q E hQ
 unfold zc at hp
 cases e1:f U W with
 | none=> rw [e1] at hp;cases hp
 | some p=>
 rw [e1] at hp;cases hp
 rw [arm_exec_Assign]
 refine xa (wpAny_standAt ?_)
 rw [hsw env he.scope]
 refine xa (xg ?_)
 refine J4 rfl ?_
 refine xa (h A env s ad U W p hr he hx e1 E _ _ fun D C s1 g1 r1 cn hm hdc dn=> ?_)
 have k1:=g1.h
 obtain ⟨h1,tk1,rfl⟩:=g1.eq
 dsimp only at k1 r1 hm⊢
 show wpAny _ A (assign (.Name n p0) env (.ref D)) _ E _
 have hO:∀ n'∈[n],Own sc n':=fun n' h=> by simp at h;subst h;exact .inl hk
 have kC:∀ b∈[C],s.heap.get? b=none:=fun b hb=> by simp at hb;subst hb;exact cn
 obtain ⟨m,hm⟩:=hm
 have xC:=hx.ban (l:=[C]) k1 kC fun b hb=> by simp at hb;subst hb;exact q9 hm
 have hslot:ji env n=env.locals:=by
  unfold ji;rw [if_pos];unfold Env.kindOf;rw [he.scope];exact hk
 obtain ⟨m0,hm0⟩:=hx.sh.ns
 have hCL:C≠env.locals:=fun e=> by obtain ⟨o,e'⟩:=q9 hm0;rw [←e,cn] at e';cases e'
 refine STg.name (pos:=p0) hinj hi (.inl hk) A env {s with heap:=h1,toks:=tk1} (ad.ban [C]) U (upd U i p) W p (.ref D) _ E hr.handled he (fun n' hn=> xu _ (F.own n' (hO n' hn))) xC r1 rfl fun h2 tk2 x2 k2 c2=> ?_
 refine ⟨m,hm.at' fun o e=> k2 C o (fun n' hn=> by simp at hn;subst hn;rw [hslot];exact hCL) e,fun h3 hs3=> xg ?_⟩
 have noC:∀ b o,s.heap.get? b=some o→b≠C:=fun b o e e'=> by subst e';rw [cn] at e;cases e
 have k3:∀ b o,b≠C→h2.get? b=some o→h3.get? b=some o:=fun b o hb e=> hs3.extBut b o hb e
 have ap:Apart [C] env ad:=by
  refine ⟨fun a ha m=> ?_,fun m=> by simp at m;exact hCL m.symm,fun n' c hc m=> ?_⟩
  ·simp at ha;subst ha;obtain ⟨o,e⟩:=hx.sto.ban _ m;rw [cn] at e;cases e
  ·simp at m;subst m;obtain ⟨v,q⟩:=hx.sh.cells n' _ hc;obtain ⟨o,e⟩:=Zu q;rw [cn] at e;cases e
 refine hQ _ h3 tk2 ad ⟨fun b o hb hs e=> k3 b o (noC b o e) (k2 b o (fun n' hn=> hs n' (hO n' hn)) (k1 b o e)),fun V V e=> e,x9 _,fun i a e hi=> (by have:=(xe.mp e).1;lia),rfl,fun b o e=> ?_⟩ rfl (c2.unban ap fun b o hb e=> k3 b o (fun h=> hb (by simp [h])) e)
 obtain ⟨o',e'⟩:=x2.alive b o (k1 b o e)
 exact ⟨o',k3 b o' (noC b o e) e'⟩
end
end
section
theorem Nx.mono {base base':Nat}{env:Env}{sc:Scope}{ad ad':AD}{h h':Heap} (x:Nx base' env sc ad ad' h h') (hb:base≤base'):Nx base env sc ad ad' h h':=
 ⟨fun b o hi hs e=> x.keep b o (fun i ei=> Nat.lt_of_lt_of_le (hi i ei) hb) hs e,x.pre,x.len,x.new,x.b,x.alive⟩
theorem Nx.wr {base:Nat}{env:Env}{sc:Scope}{ad ad':AD}{h h' h'':Heap}{wr:List Addr} (x:Nx base env sc ad ad' h h') (hf:∀ b∈wr,h.get? b=none) (k:∀ b o,b∉wr→h'.get? b=some o→h''.get? b=some o):Nx base env sc ad ad' h h'':=by
 have nw:∀ b o,h.get? b=some o→b∉wr:=fun b o e m=> by rw [hf b m] at e;cases e
 exact ⟨fun b o hi hs e=> k b o (nw b o e) (x.keep b o hi hs e),x.pre,x.len,x.new,x.b,fun b o e=> let ⟨o',e'⟩:=x.alive b o e;⟨o',k b o' (nw b o e) e'⟩⟩
theorem Nx.strip {base:Nat}{env:Env}{sc:Scope}{ad ad':AD}{h h':Heap}{wr:List Addr} (x:Nx base env sc (ad.ban wr) ad' h h'):Nx base env sc ad ⟨ad'.m,ad.b⟩ h h'∧ad'=(⟨ad'.m,ad.b⟩:AD).ban wr:=by
 refine ⟨⟨x.keep,x.pre,x.len,x.new,rfl,x.alive⟩, ?_⟩
 have:=x.b
 cases ad';simp only [AD.ban] at this⊢;rw [this]
noncomputable def z5t (next:Ren→Sto→Option (Fl×Ren×Sto)) (r:Fl×Ren×Sto):Option (Fl×Ren×Sto):=match r.1 with
 | .next=> next r.2.1 r.2.2
 | .cont=> next r.2.1 r.2.2
 | .brk=> some (.next,r.2)
 | .ret q=> some (.ret q,r.2)
noncomputable def zbz (tg:Tg) (body:Stm) (base:Nat):List PV→Ren→Sto→Option (Fl×Ren×Sto)
 | [],U,W=> some (.next,U,W)
 | p::ps,U,W=> (tg p U).bind fun U1=> (body base U1 W).bind (z5t (zbz tg body base ps))
theorem Zi {tg:Tg}{body:Stm}{base:Nat}{p:PV}{ps:List PV}{U U1 U2:Ren}{W W2:Sto} (e1:tg p U=some U1) (e2:body base U1 W=some (.next,U2,W2)):zbz tg body base (p::ps) U W=zbz tg body base ps U2 W2:=by
 show (tg p U).bind _=_
 rw [e1,Option.bind_some,e2];rfl
theorem zs5 {tg:Tg}{body:Stm}{base:Nat}{p:PV}{ps:List PV}{U U1 U2:Ren}{W W2:Sto} (e1:tg p U=some U1) (e2:body base U1 W=some (.cont,U2,W2)):zbz tg body base (p::ps) U W=zbz tg body base ps U2 W2:=by
 show (tg p U).bind _=_
 rw [e1,Option.bind_some,e2];rfl
theorem zwh {tg:Tg}{body:Stm}{base:Nat}{p q:PV}{ps:List PV}{U U1 U2:Ren}{W W2:Sto} (e1:tg p U=some U1) (e2:body base U1 W=some (.ret q,U2,W2)):zbz tg body base (p::ps) U W=some (.ret q,U2,W2):=by
 show (tg p U).bind _=_
 rw [e1,Option.bind_some,e2];rfl
theorem zlz {g:GC}{nm:Nat→Str}{env:Env}{ad:AD}{h:Heap}{fv:Flow}{t t':Fl×Ren×Sto} (e:some t=some t') (r:ziy g ad h t.1 fv) (c:Cx g nm env ad t.2.1 t.2.2 h):ziy g ad h t'.1 fv∧Cx g nm env ad t'.2.1 t'.2.2 h:=si e▸⟨r,c⟩
noncomputable def zdd (frz:Bool) (base n:Nat):Nat:=if frz then max base n else base
theorem zzk {frz:Bool}{base n:Nat}:base≤zdd frz base n:=by unfold zdd;split;exact Nat.le_max_left _ _;exact x9 _
def Q8 (frz:Bool) (tg:Tg) (fi:zai) (body:Stm):Stm:=fun base U W=> (fi (zdd frz base W.length) U W).bind fun its=> zbz tg body (zdd frz base W.length) its U W
section
variable {g:GC}{nm:Nat→Str}{k:Nat}{sc:Scope}
theorem SX.for_ {t iter:Expr}{body:List Stmt}{pos:Pos}{py frz:Bool}{ns:List Str}{tg:Tg}{fi:zai}{fb:Stm} (hit:SI g nm k sc py iter fi) (T:STg g nm sc ns t tg) (hns:∀ n∈ns,Own sc n)
  (ht:(∃ es x1 p,t= .Tuple es x1 p)∨((∃ n p,t= .Name n p)∧py=false)) (B:SS g nm k sc body fb) (hs:∀ env x,foldedSetIterable iter env x=pure x):SX g nm k sc (.For t iter body [] pos) (Q8 frz tg fi fb):=by
 intro A env s ad base U W fl U' W' hr he F hx hp Q E hQ
 refine bc fun K=> ?_
 unfold Q8 at hp
 generalize hbb:zdd frz base W.length=b' at hp
 have hle:base≤b':=hbb▸zzk
 obtain ⟨its,ei,hp⟩:=Qe hp
 refine K ?_
 refine wpAny_For (hit A env s ad b' U W its hr he hx ei _ _ fun I s' wr fp St Mid hm gS X hm0 hm1 hwn hwa hfp hfi hst V=> ?_) (hs env)
 obtain ⟨h1,tk1,rfl⟩:=gS.eq
 dsimp only at hm1 hwa hst⊢
 have xm:=hx.keeps hm0
 have notw:∀ b,(∃ o,hm.get? b=some o)→b∉wr:=fun b h=> qp hwn h
 have slot_alive:∀ n,Own sc n→∃ o,hm.get? (ji env n)=some o:=fun n hn=> xm.sto.ban _ (F.own n hn)
 have ap:∀ adi:AD,adi.b=ad.b→Apart wr env adi:=fun adi hb=>
  ⟨fun a ha m=> notw a (xm.sto.ban a (hb▸m)) ha,notw _ (let ⟨_,q⟩:=xm.sh.ns;q9 q),fun n c e=> notw _ (let ⟨_,q⟩:=xm.sh.cells n c e;Zu q)⟩
 have c1:Cx g nm env (ad.ban wr) U W h1:=xm.ban hm1 hwn hwa
 have st1:St (ad.ban wr) 0 h1:=hst _ _ (fun b hb=> List.mem_append_left _ hb) (Stays.ban hm1 hwn) fun b o V e=> e
 refine codeAny_forLoop_any (fun n s''=> ∃ i Ui Wi adi hi tki,s''={s with heap:=hi,toks:=tki}∧n=its.length - i∧i≤its.length∧zbz tg fb b' (its.drop i) Ui Wi=some (fl,U',W')∧Cx g nm env (adi.ban wr) Ui Wi hi∧St (adi.ban wr) i hi∧Nx b' env sc ad adi hm hi)
  ?_ its.length ⟨0,U,W,ad,h1,tk1,rfl,rfl,yc _,by simpa using hp,c1,st1,Nx.of_keeps hm1⟩
 intro n s'' hv;refine bc fun K=> ?_;obtain ⟨i,Ui,Wi,adi,hi,tki,rfl,rfl,hle',hfor,ci,sti,nxi⟩:=hv
 have fin:∀ (fv:Flow) (h0 h':Heap) (tk:Nat) (ad':AD),Nx b' env sc ad ad' hm h0→(∀ b o,b∉wr→h0.get? b=some o→h'.get? b=some o)→∀ t,some t=some (fl,U',W')→ziy g (ad'.ban wr) h0 t.1 fv→Cx g nm env (ad'.ban wr) t.2.1 t.2.2 h0→Q fv {s with heap:=h',toks:=tk}:=by
  intro fv h0 h' tk ad' x kk t e r c
  obtain ⟨r,c⟩:=zlz e r c
  refine hQ fv h' tk ad' (((Nx.of_keeps hm0).trans (x.wr hwn kk)).mono hle) ?_ (c.unban (ap ad' x.b) kk)
  cases fl with
  | ret p=> obtain ⟨v,e,r⟩:=r;exact ⟨v,e,zk.mv (Mv.unban kk) p v r⟩
  | _=> exact r
 by_cases hil:i=its.length
 ·rw [hil,List.drop_length] at hfor
  refine K ?_
  exact X.done A _ _ _ _ hr.handled (hil▸sti) fun h' hk=> wpAny_execs_nil (fin .next hi h' tki adi nxi hk _ hfor rfl ci)
 ·have hilt:i < its.length:=Nat.lt_of_le_of_ne hle' hil
  have hd:its.drop i=its[i]::its.drop (i + 1):=List.drop_eq_getElem_cons hilt
  generalize its[i]=p at hd
  have hip:its[i]? =some p:=by
   have:(its.drop i)[0]? =some p:=by rw [hd];rfl
   simpa using this
  rw [hd] at hfor
  obtain ⟨U1,et,hfor⟩:=Qe hfor
  obtain ⟨⟨fl4,U4,W4⟩,ebo,hfor⟩:=Qe hfor
  have wrb:∀ b∈wr,b∈(adi.ban wr).b:=fun b hb=> List.mem_append_left _ hb
  have apI:=ap adi nxi.b
  have hb:∀ n,Own sc n→ji env n∈(adi.ban wr).b:=fun n hn=> xu _ (by rw [nxi.b];exact F.own n hn)
  have Fi:FO env sc (adi.ban wr):=⟨hb⟩
  have slotw:∀ n,Own sc n→∀ b∈wr,b≠ji env n:=fun n hn b hb e=> notw _ (slot_alive n hn) (e▸hb)
  have slotf:∀ n,Own sc n→∀ b∈fp,b≠ji env n:=fun n hn b hb e=> (hfp b hb).2.1 (e▸F.own n hn)
  refine K ?_
  refine X.item A _ i p _ _ _ hr.handled (fun a e=> ci.sto.fresh e) hip sti fun v h1 tk1 m1 r1 x1 k1=> ?_
  have d1:Cx g nm env (adi.ban wr) Ui Wi h1:=ci.step x1 k1 apI.loc apI.cel wrb
  refine zjq (s:={s with heap:=h1,toks:=tk1}) X ht m1 fun h2 st2 x2 k2=> ?_
  have d2:Cx g nm env (adi.ban wr) Ui Wi h2:=d1.step x2 k2 apI.loc apI.cel wrb
  refine T A env {s with heap:=h2,toks:=tk1} (adi.ban wr) Ui U1 Wi p v _ _ hr.handled he (fun n hn=> hb n (hns n hn)) d2 (zk.stays x2 p v r1) et fun h3 tk3 x3 k3 d3=> ?_
  refine bc fun K=> ?_
  have st3:St (adi.ban wr) (i + 1) h3:=X.frame _ _ _ _ _ st2 x3 fun b hbb o e=> k3 b o (fun n hn=> hbb.elim (slotw n (hns n hn) b) (slotf n (hns n hn) b)) e
  have nx2:Nx b' env sc ad adi hm h2:=(nxi.wr hwn k1).wr hwn k2
  have nx3:Nx b' env sc ad adi hm h3:=nx2.trans ((Nx.store x3 k3 hns).strip (ad:=adi)).1
  refine K ?_
  refine B A env {s with heap:=h3,toks:=tk3} (adi.ban wr) b' U1 Wi fl4 U4 W4 hr he Fi d3 ebo _ _ fun fv h4 tk4 ad4 x4 r4 d4=> ?_
  refine bc fun K=> ?_
  obtain ⟨x5,e5⟩:=x4.strip
  generalize hadj:(⟨ad4.m,adi.b⟩:AD)=adj at x5 e5
  have st4:St ad4 (i + 1) h4:=X.frame _ _ _ _ _ st3 (x4.stays Fi) fun b hbb o e=> x4.keep b o (fun j ej=> by
    rcases hbb with hbb | hbb
    ·exact absurd (xw ej) (d3.sto.dis b (wrb b hbb))
    ·obtain ⟨⟨o',e'⟩,_⟩:=hfp b hbb
     exact hfi b hbb j (nx3.old ej e')) (fun n hn=> hbb.elim (slotw n hn b) (slotf n hn b)) e
  have nx4:=nx3.trans x5
  subst e5
  have again:∀ (f:Flow),zbz tg fb b' (its.drop (i + 1)) U4 W4=some (fl,U',W')→∃ m,m < its.length - i∧∃ i Ui Wi adi hi tki,(({s with heap:=h4,toks:=tk4}:Shared)={s with heap:=hi,toks:=tki})∧m=its.length - i∧i≤its.length∧zbz tg fb b' (its.drop i) Ui Wi=some (fl,U',W')∧Cx g nm env (adi.ban wr) Ui Wi hi∧St (adi.ban wr) i hi∧Nx b' env sc ad adi hm hi:=
   fun V h=> ⟨its.length - (i + 1),by lia,i + 1,U4,W4,adj,h4,tk4,rfl,rfl,hilt,h,d4,st4,nx4⟩
  cases fl4 with
  | next=> cases r4;exact K (again .next hfor)
  | cont=> cases r4;exact K (again .next hfor)
  | brk=> cases r4;exact K (fin .next h4 h4 tk4 adj nx4 (fun b o V e=> e) _ hfor rfl d4)
  | ret q=> obtain ⟨v',rfl,r4⟩:=r4;exact K (fin (.ret v') h4 h4 tk4 adj nx4 (fun b o V e=> e) _ hfor ⟨v',rfl,r4⟩ d4)
end
end
section
section
variable {g:GC}{nm:Nat→Str}{k:Nat}{sc:Scope}
noncomputable def sIf (t:q7) (f f':Stm):Stm:=fun base U W=> (t U W).bind fun b=> cond b (f base U W) (f' base U W)
theorem SX.ite_ {test:Expr}{body orelse:List Stmt}{pos:Pos}{t:q7}{f f':Stm} (ht:ST g nm k sc test t) (h:SS g nm k sc body f) (h':SS g nm k sc orelse f'):SX g nm k sc (.If test body orelse pos) (sIf t f f'):=by
 intro A env s ad base U W fl U' W' hr he F hx hp Q E hQ
 obtain ⟨b,e1,hp⟩:=xn.mp hp
 refine wpAny_If (ht.go hr he hx e1 fun h1 tk1 k1=> ?_)
 have hQ':∀ fv h2 tk2 ad2,Nx base env sc ad ad2 h1 h2→ziy g ad2 h2 fl fv→Cx g nm env ad2 U' W' h2→Q fv {s with heap:=h2,toks:=tk2}:=fun fv h2 tk2 ad2 x2 r2 c2=> hQ fv h2 tk2 ad2 ((Nx.of_keeps k1).trans x2) r2 c2
 cases b with
 | true=> exact h A env {s with heap:=h1,toks:=tk1} ad base U W fl U' W' hr he F (hx.keeps k1) hp Q E hQ'
 | false=> exact h' A env {s with heap:=h1,toks:=tk1} ad base U W fl U' W' hr he F (hx.keeps k1) hp Q E hQ'
noncomputable def j8 (f:Den):Stm:=fun V U W=> (f U W).map fun p=> (.ret p,U,W)
theorem SX.ret {e:Expr}{pos:Pos}{f:Den} (h:Snd g nm k sc e f):SX g nm k sc (.Return (some e) pos) (j8 f):=by
 intro A env s ad base U W fl U' W' hr he F hx hp Q E hQ
 refine bc fun J=> ?_
 obtain ⟨p,e1,hp⟩:=xh.mp hp
 cases hp
 refine J ?_
 exact wpAny_Return_some (h.go hr he hx e1 fun v h1 tk1 k1 r1=> hQ _ h1 tk1 ad (Nx.of_keeps k1) ⟨v,rfl,r1⟩ (hx.keeps k1))
noncomputable def zef:Stm:=fun V U W=> some (.cont,U,W)
theorem SX.cont {pos:Pos}:SX g nm k sc (.Continue pos) zef:=by
 intro A env s ad base U W fl U' W' hr he F hx hp Q E hQ
 cases hp
 exact wpAny_Continue (hQ _ s.heap s.toks ad (Nx.of_keeps fun V V e=> e) rfl hx)
theorem ztn {A:Around}{env:Env}{s:Shared}{ad:AD}{U:Ren}{W:Sto}{i:Nat}{n:Str}{p:PV}{Q:Value→Shared→Prop}{E:Value→Shared→Prop} (hi:nm i=n) (hc:(n==("__classdict__":Str))=false) (he:ES env sc) (hx:Cx g nm env ad U W s.heap) (hp:U i=some p)
  (h:∀ v,zk g ad s.heap p v→Q v s):wpAny (model g.prog g.w) A (loadName env n) Q E s:=by
 refine bc fun J=> ?_
 obtain ⟨v,r,l⟩:=hx.eo i p hp
 refine J ?_
 rw [hi] at l
 have hk:env.scope.kind= .function:=by rw [he.scope];exact he.kind
 rcases l with ⟨a,m,b,c⟩ | ⟨a | a,c,b,d⟩
 ·exact wpAny_loadName_local hk a b c (h v r)
 ·exact wpAny_loadName_cell hk a b d (h v r)
 ·exact wpAny_loadName_free hk a b d (h v r) hc
def z1o:Ops where
 ii a b:=some (.int (a + b))
 ss a b:=if ze (a.length + b.length) then some (.str (a ++ b)) else none
def q6 (_:Sto) (a b:PV):Option PV:=z1o.app a b
theorem z0c:Op2 g k (inplaceOp .Add) q6:=by
 intro A s ad W pa pb pv a b hr kin top S ra rb e E
 refine Ops.ok z1o e ra rb (ff:=n4) (fi:=n4) (jf:=n4) (ll:=n2) (bi:=n3) (ib:=n3) (si:=n4) (Q:=BQ g ad A s E pv (inplaceOp .Add)) (ii:=fun x y t u=> bs (AutoIntOps.iadd_0 ⟨Gr.tok s _,Jy⟩)) (ss:=fun x y t u=> bi fun h1=> ?_)
 refine PyProof.Rows.iadd_str (fun t' tk=> ⟨Gr.tok s _,ze0 ?_⟩) (by rw [Qq,Qq];exact zy h1)
 exact congrArg Str.mk (List.append_toArray x y)
def j9 (op:Sto→PV→PV→Option PV) (i:Nat) (f:Den):Stm:=fun V U W=> (U i).bind fun a=> (f U W).bind fun b=> (op W a b).map fun p=> (.next,upd U i p,W)
theorem SX.aug {n:Str}{i:Nat}{o:Operator}{e:Expr}{p0 pos:Pos}{f:Den}{op:Sto→PV→PV→Option PV} (ho:Op2 g k (inplaceOp o) op) (hinj:∀ i j,nm i=nm j→i=j) (hi:nm i=n) (hc:(n==("__classdict__":Str))=false) (hk:Own sc n) (h:Snd g nm k sc e f):SX g nm k sc (.AugAssign (.Name n p0) o e pos) (j9 op i f):=by
 intro A env s ad base U W fl U' W' hr he F hx hp Q E hQ
 refine bc fun J=> ?_
 obtain ⟨a,e1,hp⟩:=xn.mp hp
 obtain ⟨b,e2,hp⟩:=xn.mp hp
 obtain ⟨p,e3,hp⟩:=xh.mp hp
 cases hp
 refine J ?_
 refine wpAny_AugAssign_Name (ztn hi hc he hx e1 fun va ra=> ?_)
 refine h.go hr he hx e2 fun vb h1 tk1 k1 rb=> ?_
 have x1:=hx.keeps k1
 refine xp (ho A {s with heap:=h1,toks:=tk1} ad W a b p va vb hr x1.kin x1.top x1.sto (ra.keeps k1) rb e3 E) (fun v s2 h2=> ?_) fun V V x=> x
 refine bc fun J=> ?_
 obtain ⟨⟨⟨h2,tk2,rfl⟩,k2⟩,r⟩:=h2
 refine J ?_
 refine zh2 hinj hi he hk (F.own n hk) (x1.keeps k2) r fun h3 tk3 x3 k3 c3=> ?_
 exact hQ _ h3 tk3 ad (((Nx.of_keeps k1).trans (Nx.of_keeps k2)).trans (Nx.store (ns:=[n]) x3 (fun b o hb e=> k3 b o (hb n (List.mem_singleton_self n)) e) fun n' hn=> List.mem_singleton.mp hn▸hk)) rfl c3
noncomputable def J2 (t:q7) (body:Stm) (base:Nat):Nat→Ren→Sto→Option (Fl×Ren×Sto)
 | 0,_,_=> none
 | n + 1,U,W=> (t U W).bind fun b=> cond b ((body base U W).bind (z5t (J2 t body base n))) (some (.next,U,W))
def zbo (N:Nat) (t:q7) (body:Stm):Stm:=fun base U W=> J2 t body base N U W
theorem SX.whl {test:Expr}{body:List Stmt}{pos:Pos}{t:q7}{fb:Stm}{N:Nat} (ht:ST g nm k sc test t) (B:SS g nm k sc body fb):SX g nm k sc (.While test body [] pos) (zbo N t fb):=by
 intro A env s ad base U W fl U' W' hr he F hx hp Q E hQ
 unfold zbo at hp
 refine wpAny_While (codeAny_whileLoop (fun n s''=> ∃ Ui Wi adi hi tki,s''={s with heap:=hi,toks:=tki}∧J2 t fb base n Ui Wi=some (fl,U',W')∧Cx g nm env adi Ui Wi hi∧Nx base env sc ad adi s.heap hi)
  ?_ N ⟨U,W,ad,s.heap,s.toks,rfl,hp,hx,Nx.of_keeps fun V V e=> e⟩)
 intro n s'' hv;refine bc fun K=> ?_
 obtain ⟨Ui,Wi,adi,hi,tki,rfl,hw,ci,nxi⟩:=hv
 cases n with
 | zero=> exact nn hw
 | succ n=>
 obtain ⟨b,e1,hw⟩:=xn.mp hw
 refine K (ht.go hr he ci e1 fun h1 tk1 k1=> ?_)
 clear K
 have nx1:=nxi.trans (Nx.of_keeps (base:=base) (env:=env) (sc:=sc) (ad:=adi) k1)
 cases b with
 | false=>
  obtain ⟨r,c⟩:=zlz (fv:= .next) hw rfl (ci.keeps k1)
  exact wpAny_execs_nil (hQ _ h1 tk1 adi nx1 r c)
 | true=>
  refine bc fun J=> ?_
  obtain ⟨⟨fl4,U4,W4⟩,ebo,hw⟩:=xn.mp hw
  refine J ?_
  refine B A env {s with heap:=h1,toks:=tk1} adi base Ui Wi fl4 U4 W4 hr he (F.nx nxi) (ci.keeps k1) ebo _ _ fun fv h4 tk4 ad4 x4 r4 d4=> ?_
  have nx4:=nx1.trans x4
  cases fl4 with
  | next=> cases r4;exact ⟨n,Nat.lt_succ_self n,U4,W4,ad4,h4,tk4,rfl,hw,d4,nx4⟩
  | cont=> cases r4;exact ⟨n,Nat.lt_succ_self n,U4,W4,ad4,h4,tk4,rfl,hw,d4,nx4⟩
  | brk=> obtain ⟨r,c⟩:=zlz (fv:= .next) hw rfl d4;cases r4;exact hQ .next h4 tk4 ad4 nx4 r c
  | ret q=> obtain ⟨v',rfl,r4⟩:=r4;obtain ⟨r,c⟩:=zlz hw ⟨v',rfl,r4⟩ d4;exact hQ (.ret v') h4 tk4 ad4 nx4 r c
abbrev zcu:=Nat→Ren→Sto→Option (PV×Sto)
noncomputable def SE (g:GC) (nm:Nat→Str) (k:Nat) (sc:Scope) (e:Expr) (f:zcu):Prop:=
 ∀ (A:Around) (env:Env) (s:Shared) (ad:AD) (base:Nat) (U:Ren) (W:Sto) (pv:PV) (W':Sto),Room k A→ES env sc→FO env sc ad→Cx g nm env ad U W s.heap→f base U W=some (pv,W')→
  ∀ (Q:Value→Shared→Prop) (E:Value→Shared→Prop),(∀ v h' tk ad',Nx base env sc ad ad' s.heap h'→zk g ad' h' pv v→Cx g nm env ad' U W' h'→Q v {s with heap:=h',toks:=tk})→wpAny (model g.prog g.w) A (eval e env) Q E s
noncomputable def eOf (f:Den):zcu:=fun V U W=> (f U W).map fun p=> (p,W)
theorem SE.of {e:Expr}{f:Den} (h:Snd g nm k sc e f):SE g nm k sc e (eOf f):=by
 intro A env s ad base U W pv W' hr he F hx hp Q E hQ
 refine bc fun J=> ?_
 obtain ⟨p,e1,hp⟩:=xh.mp hp
 cases hp
 refine J ?_
 exact h.go hr he hx e1 fun v h1 tk1 k1 r1=> hQ v h1 tk1 ad (Nx.of_keeps k1) r1 (hx.keeps k1)
noncomputable def eIf (t:q7) (f f':zcu):zcu:=fun base U W=> (t U W).bind fun b=> cond b (f base U W) (f' base U W)
theorem SE.ifexp {t a b:Expr}{pos:Pos}{ft:q7}{fa fb:zcu} (ht:ST g nm k sc t ft) (ha:SE g nm k sc a fa) (hb:SE g nm k sc b fb):SE g nm k sc (.IfExp t a b pos) (eIf ft fa fb):=by
 intro A env s ad base U W pv W' hr he F hx hp Q E hQ
 refine bc fun J=> ?_
 obtain ⟨c,e1,hp⟩:=xn.mp hp
 refine J ?_
 refine wpAny_IfExp (ht.go hr he hx e1 fun h1 tk1 k1=> ?_)
 have hQ':∀ v h2 tk2 ad2,Nx base env sc ad ad2 h1 h2→zk g ad2 h2 pv v→Cx g nm env ad2 U W' h2→Q v {s with heap:=h2,toks:=tk2}:=fun v h2 tk2 ad2 x2 r2 c2=> hQ v h2 tk2 ad2 ((Nx.of_keeps k1).trans x2) r2 c2
 cases c with
 | true=> exact ha A env {s with heap:=h1,toks:=tk1} ad base U W pv W' hr he F (hx.keeps k1) hp Q E hQ'
 | false=> exact hb A env {s with heap:=h1,toks:=tk1} ad base U W pv W' hr he F (hx.keeps k1) hp Q E hQ'
noncomputable def Qp (tg:Tg) (f:zcu):Stm:=fun base U W=> (f base U W).bind fun r=> (tg r.1 U).map fun U'=> (.next,U',r.2)
theorem SX.asgE {t:Expr}{value:Expr}{pos:Pos}{ns:List Str}{tg:Tg}{f:zcu} (h:SE g nm k sc value f) (T:STg g nm sc ns t tg) (hns:∀ n∈ns,Own sc n)
  (hsw:∀ env,env.scope=sc→swapsWithSole [t] value pos.line env=pure false) (hst:∀ env,env.scope=sc→swappedStores [t] value env=pure none)
  (ha:∀ env,(assignEach [t] env).map (·.2)=[assign t env]):SX g nm k sc (.Assign [t] value pos) (Qp tg f):=by
 intro A env s ad base U W fl U' W' hr he F hx hp Q E hQ
 refine bc fun J=> ?_
 obtain ⟨⟨p,W1⟩,e1,hp⟩:=xn.mp hp
 obtain ⟨U1,e2,hp⟩:=xh.mp hp
 cases hp
 refine J ?_
 rw [arm_exec_Assign]
 refine xa (wpAny_standAt ?_)
 rw [hsw env he.scope]
 refine xa (xg ?_)
 refine Qs (by decide) ?_
 refine xa (h A env s ad base U W p _ hr he F hx e1 _ _ fun v h1 tk1 ad1 x1 r1 c1=> ?_)
 rw [hst env he.scope]
 refine xa (xg ?_)
 rw [ha env]
 show wpAny _ A (do assignAll v [assign t env];pure Flow.next) Q E _
 refine xa ?_
 show wpAny _ A (assign t env v) _ E _
 have F1:=F.nx x1
 refine T A env {s with heap:=h1,toks:=tk1} ad1 U _ _ p v _ E hr.handled he (fun n hn=> F1.own n (hns n hn)) c1 r1 e2 fun h2 tk2 x2 k2 c2=> xg ?_
 exact hQ _ h2 tk2 ad1 (x1.trans (Nx.store x2 k2 hns)) rfl c2
noncomputable def onN {α:Type} (x:Option α) (p:PV):Option α:=match p with
 | .none=> x
 | _=> none
theorem z0a {α:Type}{x:Option α}{p:PV}{y:α} (e:onN x p=some y):p= .none∧x=some y:=by
 cases p with
 | none=> exact ⟨rfl,e⟩
 | _=> exact nn e
def ju (f:zcu):Stm:=fun base U W=> (f base U W).bind fun r=> onN (some (.next,U,r.2)) r.1
theorem SX.expr {e:Expr}{pos:Pos}{f:zcu} (h:SE g nm k sc e f) (hi:∀ env,env.scope=sc→interactive env=false) (hs:∀ env,env.scope=sc→swapsWith e none pos.line env=pure false):SX g nm k sc (.Expr e pos) (ju f):=by
 intro A env s ad base U W fl U' W' hr he F hx hp Q E hQ
 refine bc fun J=> ?_
 obtain ⟨⟨p,W1⟩,e1,hp⟩:=xn.mp hp
 obtain ⟨e2,hp⟩:=z0a hp
 cases e2
 cases hp
 refine J ?_
 refine wpAny_Expr (h A env s ad base _ W .none _ hr he F hx e1 _ _ fun v h1 tk1 ad1 x1 r1 c1=> ?_) (hi env he.scope) (hs env he.scope)
 cases r1
 exact hQ _ h1 tk1 ad1 x1 rfl c1
end
end
section
structure Wd (g:GC) (ad:AD) (W:Sto) (h:Heap):Prop where
 kin:g.K.In h
 top:TopRead g.p g.loose g.mg g.mb h
 sto:StoreOk g ad W h
 kno:∀ a o,g.K.lookup a=some o→ad.no a
 tno:ad.no mainGlobals∧ad.no builtinsNs∧ad.no cStatics
theorem Cx.wd {g:GC}{nm:Nat→Str}{env:Env}{ad:AD}{U:Ren}{W:Sto}{h:Heap} (x:Cx g nm env ad U W h):Wd g ad W h:=⟨x.kin,x.top,x.sto,x.kno,x.tno⟩
theorem Wd.keeps {g:GC}{ad:AD}{W:Sto}{h h':Heap} (x:Wd g ad W h) (k:∀ b o,h.get? b=some o→h'.get? b=some o):Wd g ad W h':=⟨x.kin.keeps k,x.top.keeps k,x.sto.keeps k,x.kno,x.tno⟩
structure NC (base:Nat) (ad ad':AD) (h h':Heap):Prop where
 keep:∀ b o,(∀ i,ad.m[i]? =some b→i < base)→h.get? b=some o→h'.get? b=some o
 pre:∀ (i:Nat) (a:Addr),ad.m[i]? =some a→ad'.m[i]? =some a
 len:ad.m.length≤ad'.m.length
 new:∀ (i:Nat) (a:Addr),ad'.m[i]? =some a→ad.m.length≤i→h.get? a=none
 b:ad'.b=ad.b
 alive:∀ b o,h.get? b=some o→∃ o',h'.get? b=some o'
theorem NC.nx {base:Nat}{env:Env}{sc:Scope}{ad ad':AD}{h h':Heap} (x:NC base ad ad' h h'):Nx base env sc ad ad' h h':=⟨fun b o hi V e=> x.keep b o hi e,x.pre,x.len,x.new,x.b,x.alive⟩
theorem NC.old {base:Nat}{ad ad':AD}{h h':Heap} (x:NC base ad ad' h h') {i:Nat}{b:Addr} (e:ad'.m[i]? =some b) {o:Obj} (ho:h.get? b=some o):ad.m[i]? =some b:=by
 by_cases hi:i < ad.m.length
 ·have:=x.pre i _ (xt hi)
  rw [e] at this;cases si this
  exact xt hi
 ·rw [x.new i b e (Nat.le_of_not_lt hi)] at ho;exact nn ho
theorem NC.mv {base:Nat}{ad ad':AD}{h h':Heap} (x:NC base ad ad' h h'):Mv ad ad' h h':=by
 refine ⟨fun b o n e=> x.keep b o (fun i ei=> absurd (xw ei) n.1) e,x.pre,fun b o e n=> ⟨fun m=> ?_,by rw [x.b];exact n.2⟩⟩
 obtain ⟨i,ei⟩:=List.getElem?_of_mem m
 exact n.1 (xw (x.old ei e))
theorem StoreOk.obj_m {g:GC}{ad:AD}{W:Sto}{h:Heap} (S:StoreOk g ad W h) {a:Addr} (m:a∈ad.m):∃ vs,h.PlainList a vs:=by
 obtain ⟨i,ei⟩:=List.getElem?_of_mem m
 have hi:i < W.length:=by simp only [←S.len];exact (xe.mp ei).1
 obtain ⟨vs',pl,_⟩:=S.at_ i _ _ ei (xt hi)
 exact ⟨vs',pl⟩
theorem StoreOk.ns_not {g:GC}{ad:AD}{W:Sto}{h:Heap} (S:StoreOk g ad W h) {a:Addr}{m:Str→Option Value} (n:h.Ns a m):a∉ad.m:=fun hm=> by
 obtain ⟨vs,k,e⟩:=S.obj_m hm
 obtain ⟨o,es,ep,ho,hd,_⟩:=n
 rw [e] at ho;cases si ho;cases hd
theorem StoreOk.cell_not {g:GC}{ad:AD}{W:Sto}{h:Heap} (S:StoreOk g ad W h) {a:Addr}{v:Option Value} (n:h.IsCell a v):a∉ad.m:=fun hm=> by
 obtain ⟨vs,k,e⟩:=S.obj_m hm
 obtain ⟨o,ho,hd⟩:=n
 rw [e] at ho;cases ho;cases hd
theorem Cx.nc {g:GC}{nm:Nat→Str}{env:Env}{base:Nat}{ad ad':AD}{U:Ren}{W W':Sto}{h h':Heap} (x:Cx g nm env ad U W h) (n:NC base ad ad' h h') (w:Wd g ad' W' h'):Cx g nm env ad' U W' h':=by
 have kl:∀ o,h.get? env.locals=some o→h'.get? env.locals=some o:=fun o e=> n.keep _ o (fun i ei=> absurd (xw ei) (let ⟨_,q⟩:=x.sh.ns;x.sto.ns_not q)) e
 have kc:∀ n' c,env.cells.lookup n'=some c→∀ o,h.get? c=some o→h'.get? c=some o:=fun n' c ec o e=> n.keep _ o (fun i ei=> absurd (xw ei) (let ⟨_,q⟩:=x.sh.cells n' c ec;x.sto.cell_not q)) e
 refine ⟨w.kin,w.top,fun i pv e=> ?_,w.sto,w.kno,w.tno,⟨let ⟨m,q⟩:=x.sh.ns;⟨m,q.at' kl⟩,fun n' c e=> let ⟨v,o,ho,hd⟩:=x.sh.cells n' c e;⟨v,o,kc n' c e o ho,hd⟩,x.sh.apart,x.sh.has⟩⟩
 obtain ⟨v,r,l⟩:=x.eo i pv e
 refine ⟨v,zk.mv n.mv pv v r, ?_⟩
 rcases l with ⟨a,m,b,c⟩ | ⟨a,c,b,o,ho,hd⟩
 ·exact .inl ⟨a,m,b.at' kl,c⟩
 ·exact .inr ⟨a,c,b,o,kc _ c b o ho,hd⟩
noncomputable def qw:List Nat→List PV→Ren→Ren
 | i::is,p::ps,U=> qw is ps (upd U i p)
 | _,_,U=> U
noncomputable def Zy:Ren:=fun V=> none
noncomputable def zki (g:GC) (nm:Nat→Str) (ad:AD) (h:Heap) (kindOf:Str→Option NameKind) (U:Ren) (m cm:Str→Option Value):Prop:=
 ∀ i pv,U i=some pv→∃ v,zk g ad h pv v∧((kindOf (nm i)=some .local∧m (nm i)=some v)∨(kindOf (nm i)=some .cell∧cm (nm i)=some v))
theorem zkt {g:GC}{nm:Nat→Str}{ad:AD}{h:Heap}{kindOf:Str→Option NameKind} (hinj:∀ i j,nm i=nm j→i=j):
  ∀ (binds:List (Str×Value)) (ids:List Nat) (ps:List PV) (U:Ren) (m cm:Str→Option Value),binds.map (·.1)=ids.map nm→zh g ad h ps (binds.map (·.2))→(∀ x∈binds,kindOf x.1=some .local∨kindOf x.1=some .cell)→
   zki g nm ad h kindOf U m cm→zki g nm ad h kindOf (qw ids ps U) (bindL kindOf binds m) (bindC kindOf binds cm)
 | [],ids,ps,U,m,cm,hn,r,_,P=> by
  cases ids with
  | nil=> exact P
  | cons i is=> cases hn
 | (n,v)::rest,ids,ps,U,m,cm,hn,r,hk,P=> by
  cases ids with
  | nil=> cases hn
  | cons i is=>
  cases ps with
  | nil=> have:=r.inv_nil;cases this
  | cons p ps=>
  refine bc fun J=> ?_
  obtain ⟨v',vs',e,r1,r2⟩:=r.inv_cons
  cases e
  simp only [List.map_cons,List.cons.injEq] at hn
  obtain ⟨hn1,hn2⟩:=hn
  refine J ?_
  skip
  refine zkt hinj rest is ps _ _ _ hn2 r2 (fun x hx=> hk x (xf _ hx)) fun j pv e=> ?_
  unfold upd at e
  by_cases hj:j=i
  ·rw [if_pos hj] at e;cases si e;subst hj
   rcases hk (n,v) xk with hl | hl
   ·exact ⟨v,r1,.inl ⟨by rw [←hn1];exact hl,by rw [if_pos hl,if_pos hn1.symm]⟩⟩
   ·refine ⟨v,r1,.inr ⟨by rw [←hn1];exact hl, ?_⟩⟩
    have hl':kindOf n=some .cell:=hl
    rw [if_neg (by rw [hl'];decide),if_pos hn1.symm]
  ·rw [if_neg hj] at e
   have hne:nm j≠n:=fun e=> hj (hinj j i (e.trans hn1))
   obtain ⟨u,ru,d⟩:=P j pv e
   refine ⟨u,ru, ?_⟩
   rcases d with ⟨a,b⟩ | ⟨a,b⟩
   ·refine .inl ⟨a, ?_⟩
    split
    ·exact (if_neg hne).trans b
    ·exact b
   ·refine .inr ⟨a, ?_⟩
    split
    ·exact b
    ·exact (if_neg hne).trans b
set_option tactic.hygienic true in
theorem j5 {n:Str}:∀ (names:List (Str×NameKind)) (start:Nat) (acc:List (Str×Addr)),(names.lookup n=some .cell∨(acc.lookup n).isSome=true)→((cellsFrom start names acc).lookup n).isSome=true
 | [],_,acc,h=> by
  delta cellsFrom
  rcases h with h | h
  ·exact nn h
  ·exact h
 | (x,kd)::r,start,acc,h=> by
  unfold cellsFrom
  have up:∀ a:Addr,(acc.lookup n).isSome=true→(((x,a)::acc).lookup n).isSome=true:=fun a h=> by
   simp only [List.lookup_cons];split;rfl;exact h
  split
  ·rename_i hc
   refine j5 r _ _ ?_
   rcases h with h | h
   ·rw [List.lookup_cons] at h
    split at h
    ·rename_i hb;exact .inr (by simp only [List.lookup_cons,hb];rfl)
    ·exact .inl h
   ·exact .inr (up _ h)
  ·rename_i hc
   refine j5 r _ _ ?_
   rcases h with h | h
   ·rw [List.lookup_cons] at h
    split at h
    ·cases si h;exact absurd rfl hc
    ·exact .inl h
   ·exact .inr h
structure FnOk (g:GC) (nm:Nat→Str) (k:Nat) (a:Addr) (o:Obj) (fd:FuncData) (body:List Stmt) (ids:List Nat) (f:Stm):Prop where
 ho:g.K.lookup a=some o
 data:o.data= .func fd
 bod:fd.body= .stmts body
 clo:fd.closure=[]
 glob:fd.globals=mainGlobals
 blt:fd.builtins=builtinsNs
 co:fd.scope.isCoroutine=false
 gen:fd.scope.isGenerator=false
 kind:fd.scope.kind= .function
 code:∀ h,g.K.In h→h.CodeRec fd.code fd.qualname
 free:(fd.scope.names.all fun x=> decide (x.2≠.free))=true
 par:(ids.all fun i=> decide (fd.scope.names.lookup (nm i)=some .local) || decide (fd.scope.names.lookup (nm i)=some .cell))=true
 ss:SS g nm k fd.scope body f
noncomputable def zrh:Fl→PV
 | .ret p=> p
 | _=> .none
theorem zbk {α:Type}:∀ {l:List (Str×α)}{n:Str}{k:α},l.lookup n=some k→(n,k)∈l:=fun h=> mem_of_lookup h
theorem FnOk.run {g:GC}{nm:Nat→Str}{k:Nat}{a:Addr}{o:Obj}{fd:FuncData}{body:List Stmt}{ids:List Nat}{f:Stm} (X:FnOk g nm k a o fd body ids f) (hinj:∀ i j,nm i=nm j→i=j)
  {A:Around}{s s':Shared}{ad:AD}{W:Sto}{base:Nat}{args:Args}{binds:List (Str×Value)}{bps:List PV}{fl:Fl}{U':Ren}{W':Sto}{R:Result→Shared→Prop}
  (hr:Room (k + 1) A) (w:Wd g ad W s.heap) (gr:Gr s s') (hbind:∀ (M:Model) (A:Around) (E:Value→Shared→Prop) (Q:List (Str×Value)→Shared→Prop),Q binds s'→wpAny M A (bindArgs fd args) Q E s)
  (hn:binds.map (·.1)=ids.map nm) (rv:zh g ad s'.heap bps (binds.map (·.2))) (hp:f base (qw ids bps Zy) W=some (fl,U',W'))
  (hR:∀ v h' tk ad',NC base ad ad' s.heap h'→zk g ad' h' (zrh fl) v→Wd g ad' W' h'→R (.ok (.ret v)) {s with heap:=h',toks:=tk}):
  codeAny (model g.prog g.w) A (.call (.ref a) args) R s:=by
 have hpar:∀ x∈binds,fd.scope.names.lookup x.1=some .local∨fd.scope.names.lookup x.1=some .cell:=fun x hx=> by
  have:x.1∈ids.map nm:=by rw [←hn];exact xr.mpr ⟨x,hx,rfl⟩
  obtain ⟨i,hi,e⟩:=xr.mp this
  have:=xo.mp X.par i hi
  rw [e] at this
  rcases Bool.or_eq_true_iff.mp this with h | h
  ·exact .inl (xx h)
  ·exact .inr (xx h)
 have w':=w.keeps gr.h
 refine codeAny_call_function hr.lt (w.kin a o X.ho) X.data X.co X.gen X.bod (X.code _ w.kin) ?_
 refine hbind _ _ _ _ ?_
 rw [X.clo]
 refine wpAny_newFunctionEnv_cells X.kind (fun x hx=> (hpar x hx).elim .inl fun h=> .inr ⟨h,j5 _ _ _ (.inl h)⟩) fun env henv s1 x=> ?_
 have hsc:env.scope=fd.scope:=by subst henv;rfl
 have hES:ES env fd.scope:=⟨hsc,by subst henv;exact X.glob,by subst henv;exact X.blt,X.kind⟩
 obtain ⟨h1,tk1,e1⟩:=x.toInCall.same
 have k1:=x.toInCall.keep
 subst e1
 dsimp only at k1
 have w1:=w'.keeps k1
 refine ⟨w1.top.nolimit,codeAny_func ?_⟩
 have hcell:∀ n,fd.scope.names.lookup n=some .cell→∃ c,env.cells.lookup n=some c:=fun n hc=> Option.isSome_iff_exists.mp (by subst henv;exact j5 _ _ _ (.inl hc))
 have hnf:∀ n,fd.scope.names.lookup n≠some .free:=fun n e=> by
  have:=xo.mp X.free _ (zbk e);exact xx this rfl
 have sh1:EnvSh env h1:=⟨⟨_,x.toInCall.ns⟩,fun n c e=> ⟨_,x.cell n c e⟩,fun n n' c e e'=> name_of_addr x.apart (mem_of_lookup e) (mem_of_lookup e'),fun n h=> by
  rcases h with h | h
  ·exact hcell n (by rw [←hsc];exact h)
  ·exact absurd (show fd.scope.names.lookup n=some .free by rw [←hsc];exact h) (hnf n)⟩
 generalize hl:env.locals::fd.scope.names.filterMap (fun x=> env.cells.lookup x.1)=l
 have hmem:∀ b∈l,b=env.locals∨∃ n,env.cells.lookup n=some b:=fun b hb=> by
  rw [←hl] at hb
  rcases List.mem_cons.mp hb with h | h
  ·exact .inl h
  ·obtain ⟨y,_,e⟩:=List.mem_filterMap.mp h;exact .inr ⟨y.1,e⟩
 have lnone:∀ b∈l,s'.heap.get? b=none:=fun b hb=> by
  have hge:s'.heap.objs.size≤b:=by
   rcases hmem b hb with rfl | ⟨n,e⟩
   ·exact x.toInCall.fresh
   ·exact Nat.le_of_lt (Nat.lt_of_le_of_lt x.toInCall.fresh (x.above n b (mem_of_lookup e)))
  cases e:s'.heap.get? b with
  | none=> rfl
  | some o=> exact absurd (Heap.lt_size e) (Nat.not_lt.mpr hge)
 have lsome:∀ b∈l,∃ o,h1.get? b=some o:=fun b hb=> by
  rcases hmem b hb with rfl | ⟨n,e⟩
  ·exact q9 x.toInCall.ns
  ·exact Zu (x.cell n b e)
 have hown:∀ n,Own fd.scope n→ji env n∈l:=fun n hn=> by
  rw [←hl]
  rcases hn with hn | hn
  ·have:env.kindOf n=some .local:=by unfold Env.kindOf;rw [hsc];exact hn
   unfold ji;rw [if_pos this];exact xk
  ·have hk:env.kindOf n=some .cell:=by unfold Env.kindOf;rw [hsc];exact hn
   obtain ⟨c,hc⟩:=hcell n hn
   unfold ji;rw [if_neg (by rw [hk];decide),hc]
   exact xf _ (List.mem_filterMap.mpr ⟨(n,.cell),zbk hn,hc⟩)
 have B0:zki g nm (ad.ban l) h1 env.kindOf (qw ids bps Zy) (bindL env.kindOf binds fun V=> none) (bindC env.kindOf binds fun V=> none):=by
  refine zkt hinj binds ids bps Zy _ _ hn (zh.stays (Stays.ban k1 lnone) bps _ rv) (fun y hy=> ?_) fun i pv e=> (by exact nn e)
  unfold Env.kindOf;exact hsc▸hpar y hy
 have cx:Cx g nm env (ad.ban l) (qw ids bps Zy) W h1:=by
  refine ⟨w1.kin,w1.top,fun i pv e=> ?_,w'.sto.banned k1 lnone lsome,fun b o e=> AD.ban_no.mpr ⟨w.kno b o e,qp lnone ⟨o,w'.kin b o e⟩⟩,
   ⟨AD.ban_no.mpr ⟨w.tno.1,qp lnone (q9 w'.top.g)⟩,AD.ban_no.mpr ⟨w.tno.2.1,qp lnone (q9 w'.top.b)⟩,AD.ban_no.mpr ⟨w.tno.2.2,qp lnone (let ⟨_,q,_⟩:=w'.top.nolimit;q9 q)⟩⟩,sh1⟩
  obtain ⟨v,r,d⟩:=B0 i pv e
  refine ⟨v,r, ?_⟩
  rcases d with ⟨a1,b1⟩ | ⟨a1,b1⟩
  ·exact .inl ⟨a1,_,x.toInCall.ns,b1⟩
  ·obtain ⟨c,hc⟩:=hcell (nm i) (by rw [←hsc];exact a1)
   refine .inr ⟨.inl a1,c,hc, ?_⟩
   have:=x.cell _ c hc
   rw [b1] at this;exact this
 refine X.ss (A.deeper env) env {s' with heap:=h1,toks:=tk1} (ad.ban l) base _ W fl U' W' hr.deeper hES ⟨fun n hn=> List.mem_append_left _ (hown n hn)⟩ cx hp _ _ fun fv h2 tk2 ad2 x2 r2 c2=> ?_
 obtain ⟨x3,e3⟩:=x2.strip
 generalize hadj:(⟨ad2.m,ad.b⟩:AD)=adj at x3 e3
 subst e3
 have gr':=gr.h
 have lnone0:∀ b∈l,s.heap.get? b=none:=fun b hb=> by
  cases e:s.heap.get? b with
  | none=> rfl
  | some o=> have:=lnone b hb;rw [gr' b o e] at this;exact nomatch this
 have nc:NC base ad adj s.heap h2:=by
  refine ⟨fun b o hi e=> x3.keep b o hi (fun n hn e'=> ?_) (k1 b o (gr' b o e)),x3.pre,x3.len,fun i a' e hi=> ?_,x3.b,fun b o e=> x3.alive b o (k1 b o (gr' b o e))⟩
  ·subst e';rw [lnone0 _ (hown n hn)] at e;exact nn e
  ·have h9:=x3.new i a' e hi
   cases e9:s.heap.get? a' with
   | none=> rfl
   | some o=> rw [k1 a' o (gr' a' o e9)] at h9;cases h9
 have q:∀ b,b∈l→b∉adj.b:=fun b hb m=> by
  rw [x3.b] at m
  obtain ⟨o,e⟩:=w.sto.ban b m
  rw [lnone0 b hb] at e;exact nn e
 have wd:Wd g adj W' h2:=by
  refine ⟨c2.kin,c2.top,⟨c2.sto.len,c2.sto.nd,fun b m=> c2.sto.ban b (xu _ m),fun b m=> c2.sto.dis b (xu _ m),fun i a' w9 e1 e2=> ?_⟩,
   fun b o e=> (AD.ban_no.mp (c2.kno b o e)).1,⟨(AD.ban_no.mp c2.tno.1).1,(AD.ban_no.mp c2.tno.2.1).1,(AD.ban_no.mp c2.tno.2.2).1⟩⟩
  obtain ⟨vs,p,r⟩:=c2.sto.at_ i a' w9 e1 e2
  exact ⟨vs,p,zh.mv (Mv.unban fun b o V e=> e) w9 _ r⟩
 obtain ⟨h0,tk0,e0⟩:=gr.eq
 subst e0
 cases fl with
 | ret p=> obtain ⟨v,rfl,r2⟩:=r2;exact hR v h2 tk2 adj nc (zk.mv (Mv.unban fun b o V e=> e) p v r2) wd
 | next=> subst r2;exact hR .none h2 tk2 adj nc zff wd
 | brk=> subst r2;exact hR .none h2 tk2 adj nc zff wd
 | cont=> subst r2;exact hR .none h2 tk2 adj nc zff wd
noncomputable def Jc (g:GC) (nm:Nat→Str) (fd:FuncData) (ids:List Nat) (kw:List (Str×Value)) (bf:List PV→Option (List PV)):Prop:=
 ∀ (s:Shared) (ad:AD) (W:Sto) (ps bps:List PV) (vs:List Value),Wd g ad W s.heap→zh g ad s.heap ps vs→bf ps=some bps→
  ∃ s' binds,Gr s s'∧(∀ (M:Model) (A:Around) (E:Value→Shared→Prop) (Q:List (Str×Value)→Shared→Prop),Q binds s'→wpAny M A (bindArgs fd ⟨vs,kw⟩) Q E s)∧binds.map (·.1)=ids.map nm∧zh g ad s'.heap bps (binds.map (·.2))
abbrev BF:=List PV→Option (List PV)
def fnP (bf:BF) (ids:List Nat) (f:Stm) (base:Nat) (W:Sto) (ps:List PV):Option (PV×Sto):=
 match bf ps with
 | some bps=> match f base (qw ids bps Zy) W with
  | some (fl,_,W')=> some (zrh fl,W')
  | none=> none
 | none=> none
def fnV (bf:BF) (ids:List Nat) (f:Stm) (W:Sto) (ps:List PV):Option PV:=
 match fnP bf ids f W.length W ps with
 | some (p,_)=> if noM p then some p else none
 | none=> none
section
variable {g:GC}{nm:Nat→Str}{k:Nat}{sc:Scope}{a:Addr}{o:Obj}{fd:FuncData}{body:List Stmt}{ids:List Nat}{f:Stm}{kw:List (Str×Value)}{bf:BF}
theorem zld (X:FnOk g nm k a o fd body ids f) (hinj:∀ i j,nm i=nm j→i=j) (Bd:Jc g nm fd ids kw bf) {A:Around}{s:Shared}{ad:AD}{W W':Sto}{base:Nat}{ps:List PV}{vs:List Value}{pv:PV}{Q:Value→Shared→Prop}{E:Value→Shared→Prop}
  (hr:Room (k + 1) A) (w:Wd g ad W s.heap) (rv:zh g ad s.heap ps vs) (hp:fnP bf ids f base W ps=some (pv,W'))
  (hQ:∀ v h' tk ad',NC base ad ad' s.heap h'→zk g ad' h' pv v→Wd g ad' W' h'→Q v {s with heap:=h',toks:=tk}):wpAny (model g.prog g.w) A (call (.ref a) vs kw) Q E s:=by
 unfold fnP at hp
 cases e1:bf ps with
 | none=> rw [e1] at hp;cases hp
 | some bps=>
 rw [e1] at hp;simp only at hp
 cases e2:f base (qw ids bps Zy) W with
 | none=> rw [e2] at hp;cases hp
 | some r=>
 refine bc fun J=> ?_
 obtain ⟨fl,U',W1⟩:=r
 rw [e2] at hp;simp only [Option.some.injEq,Prod.mk.injEq] at hp
 obtain ⟨rfl,rfl⟩:=hp
 obtain ⟨s',binds,gr,hb,hn,rb⟩:=Bd s ad W ps bps vs w rv e1
 refine J ?_
 exact wpAny_call (X.run hinj hr w gr hb hn rb e2 fun v h' tk ad' n r w'=> hQ v h' tk ad' n r w')
theorem zlf (X:FnOk g nm k a o fd body ids f) (hinj:∀ i j,nm i=nm j→i=j) (Bd:Jc g nm fd ids kw bf) {A:Around}{s:Shared}{ad:AD}{W:Sto}{ps:List PV}{vs:List Value}{pv:PV}{E:Value→Shared→Prop}
  (hr:Room (k + 1) A) (w:Wd g ad W s.heap) (rv:zh g ad s.heap ps vs) (hp:fnV bf ids f W ps=some pv):
  wpAny (model g.prog g.w) A (call (.ref a) vs kw) (fun v s'=> Gr s s'∧zk g ad s'.heap pv v) E s:=by
 unfold fnV at hp
 cases e1:fnP bf ids f W.length W ps with
 | none=> rw [e1] at hp;cases hp
 | some r=>
 obtain ⟨p,W'⟩:=r
 rw [e1] at hp;simp only at hp
 obtain ⟨h1,rfl⟩:=z0 hp
 refine zld X hinj Bd hr w rv e1 fun v h' tk ad' n r w'=> ⟨Gr.of_heap fun b o e=> n.keep b o (fun i ei=> ?_) e, ?_⟩
 ·rw [←w.sto.len];exact (xe.mp ei).1
 ·refine zk.sub (ad':=ad') (fun b hb=> ⟨fun m=> ?_, ?_⟩) _ v h1 r
  ·obtain ⟨i,ei⟩:=List.getElem?_of_mem m
   exact hb.1 (xw (n.pre i b ei))
  ·have:=hb.2;rw [n.b] at this;exact this
def dFn (bf:BF) (ids:List Nat) (f:Stm) (fs:List Den):Den:=fun U W=> match jm fs U W with | some ps=> fnV bf ids f W ps | none=> none
theorem Snd.fn {n:Str}{es:List Expr}{fs:List Den}{p pos:Pos} (X:FnOk g nm k a o fd body ids f) (hinj:∀ i j,nm i=nm j→i=j) (Bd:Jc g nm fd ids [] bf) (hn:sc.names.lookup n=some .globalImplicit)
  (G:IsGlob g n (.ref a)) (K:keepIn g.K (.ref a)=true) (L:jl g nm (k + 1) sc es fs) (hplain:∀ env,(starEach es env).any (·.1)=false) (hd:(n==("__debug__":Str))=false):
  Snd g nm (k + 1) sc (.Call (.Name n p) es [] pos) (dFn bf ids f fs):=by
 intro A env s ad U W pv hr he hx hp E
 unfold dFn at hp
 cases ea:jm fs U W with
 | none=> rw [ea] at hp;cases hp
 | some ps=>
  rw [ea] at hp
  refine Zc hr he hx hn G (.glob K) L ea (hplain env) hd fun vs s' g' r'=> ?_
  exact xp (zlf X hinj Bd hr (hx.keeps g'.h).wd r' hp) (fun v s'' q=> ⟨g'.trans q.1,q.2⟩) fun V V x=> x
structure HK (g:GC):Prop where
 ga:findIn g.K (.ref g.hd) "__getattribute__"=some (some (.builtin "object.__getattribute__"))
 gt:findIn g.K (.ref g.hd) "__getattr__"=some none
 dict:hasDictIn g.K g.hd=true
 free:findIn g.K (.ref g.hd) "_headers"=some none
structure HMeth (g:GC) (name:Str) (f:Addr):Prop where
 find:findIn g.K (.ref g.hd) name=some (some (.ref f))
 fn:typeIn g.K (.ref f)=some (.type "function")
 keep:keepIn g.K (.ref f)=true
 own:∀ hsh t a,getL name [⟨hsh,.str "_headers" t,.ref a⟩]=some none
theorem zrq {h:Heap}{x d:Addr}{hsh:Int}{t:Tok}{a:Addr}{n:Nat} (h1:h.get? x=some (zpq g.hd d)) (h2:h.get? d=some (zlj hsh t a n)):InstAt h x (zpq g.hd d) g.hd (some (zlj hsh t a n)):=⟨h1,rfl,rfl,h2⟩
theorem zg3 {A:Around}{s:Shared}{ad:AD}{i:Nat}{v:Value}{name:Str}{fa:Addr}{pl:Sem Bool}{Q:Value×List Value→Shared→Prop}{E:Value→Shared→Prop} (H:HK g) (M:HMeth g name fa) (kin:g.K.In s.heap) (r:zk g ad s.heap (.hdr i) v)
  (h:Q (.ref fa,[v]) s):wpAny (model g.prog g.w) A (getMethod v name pl) Q E s:=by
 refine bc fun J=> ?_
 obtain ⟨x,d,a,rfl,_,_,_,e1,hsh,t,n,e2⟩:=r
 refine J ?_
 exact method_fn kin (zrq e1 e2) H.ga H.gt M.find M.fn (by show (lookIn name (dictOf _ n)).map _=_;rw [lookIn_dict,M.own];rfl) h
noncomputable def Jl (oe:Expr) (name:Str) (apos pos:Pos) (es:List Expr) (kws:List Keyword):Prop:=
 ∃ pl:Env→Sem Bool,∀ env,eval (.Call (.Attribute oe name apos) es kws pos) env=(do
   let ov←eval oe env
   standAt apos.atName
   let (f,first)←holding [ov] (getMethod ov name (pl env))
   callWith pos f first (backTo pos (starEach es env)) (backToKw pos (keywordEach kws env)))
def zcz (bf:BF) (ids:List Nat) (f:Stm) (fo:Den) (fs:List Den):zcu:=fun base U W=> match fo U W,jm fs U W with
 | some (.hdr i),some ps=> fnP bf ids f base W (.hdr i::ps)
 | _,_=> none
def q5 (bf:BF) (ids:List Nat) (f:Stm) (fo:Den) (fs:List Den):Den:=fun U W=> match fo U W,jm fs U W with
 | some (.hdr i),some ps=> fnV bf ids f W (.hdr i::ps)
 | _,_=> none
theorem zrv {oe:Expr}{name:Str}{apos pos:Pos}{es:List Expr}{fo:Den}{fs:List Den}{fa:Addr} (hm:Jl oe name apos pos es []) (H:HK g) (M:HMeth g name fa) (ho:Snd g nm k sc oe fo) (L:jl g nm k sc es fs) (hplain:∀ env,(starEach es env).any (·.1)=false)
  {A:Around}{env:Env}{s:Shared}{ad:AD}{U:Ren}{W:Sto}{i:Nat}{ps:List PV}{Q:Value→Shared→Prop}{E:Value→Shared→Prop} (hr:Room k A) (he:ES env sc) (hx:Cx g nm env ad U W s.heap) (eo:fo U W=some (.hdr i)) (ea:jm fs U W=some ps)
  (h:∀ v vs s',Gr s s'→zh g ad s'.heap (.hdr i::ps) (v::vs)→wpAny (model g.prog g.w) A (call (.ref fa) (v::vs)) Q E s'):
  wpAny (model g.prog g.w) A (eval (.Call (.Attribute oe name apos) es [] pos) env) Q E s:=by
 obtain ⟨pl,hm⟩:=hm
 refine methodCall_KW (pl:=pl env) ?_ (hm env)
 refine xp (ho A env s ad U W _ hr he hx eo E) (fun v s1 h1=> ?_) fun V V x=> x
 have x1:=hx.keeps h1.1.h
 refine zg3 H M x1.kin h1.2 ?_
 exact Z0 hr he x1 (.glob M.keep) L ea (hplain env) fun vs s2 g2 r2=> h v vs s2 (h1.1.trans g2) (.cons (h1.2.keeps g2.h) r2)
theorem zsv {bf:BF}{ids:List Nat}{f:Stm}{fo:Den}{fs:List Den}{base:Nat}{U:Ren}{W:Sto}{r:PV×Sto} (e:zcz bf ids f fo fs base U W=some r):∃ i ps,fo U W=some (.hdr i)∧jm fs U W=some ps∧fnP bf ids f base W (.hdr i::ps)=some r:=by
 delta zcz at e
 generalize fo U W=o at e⊢
 generalize jm fs U W=o2 at e⊢
 cases o with
 | none=> exact nn e
 | some p=>
  cases p with
  | hdr i=>
   cases o2 with
   | none=> exact nn e
   | some q=> exact ⟨i,q,rfl,rfl,e⟩
  | _=> exact nn e
theorem zi9 {bf:BF}{ids:List Nat}{f:Stm}{fo:Den}{fs:List Den}{U:Ren}{W:Sto}{r:PV} (e:q5 bf ids f fo fs U W=some r):∃ i ps,fo U W=some (.hdr i)∧jm fs U W=some ps∧fnV bf ids f W (.hdr i::ps)=some r:=by
 delta q5 at e
 generalize fo U W=o at e⊢
 generalize jm fs U W=o2 at e⊢
 cases o with
 | none=> exact nn e
 | some p=>
  cases p with
  | hdr i=>
   cases o2 with
   | none=> exact nn e
   | some q=> exact ⟨i,q,rfl,rfl,e⟩
  | _=> exact nn e
theorem SE.meth {oe:Expr}{name:Str}{apos pos:Pos}{es:List Expr}{fo:Den}{fs:List Den} (X:FnOk g nm k a o fd body ids f) (hinj:∀ i j,nm i=nm j→i=j) (Bd:Jc g nm fd ids [] bf) (hm:Jl oe name apos pos es []) (H:HK g) (M:HMeth g name a) (ho:Snd g nm (k + 1) sc oe fo) (L:jl g nm (k + 1) sc es fs) (hplain:∀ env,(starEach es env).any (·.1)=false):
  SE g nm (k + 1) sc (.Call (.Attribute oe name apos) es [] pos) (zcz bf ids f fo fs):=by
 intro A env s ad base U W pv W' hr he F hx hp Q E hQ
 refine bc fun J=> ?_
 obtain ⟨i,ps,eo,ea,hp⟩:=zsv hp
 refine J ?_
 refine zrv hm H M ho L hplain hr he hx eo ea fun v vs s1 g1 r1=> ?_
 have k1:=g1.h
 obtain ⟨h1,tk1,rfl⟩:=g1.eq
 dsimp only at k1 r1
 have x1:=hx.keeps k1
 refine zld X hinj Bd hr x1.wd r1 hp fun v h' tk ad' n r w'=> ?_
 exact hQ v h' tk ad' ((Nx.of_keeps k1).trans n.nx) r (x1.nc n w')
theorem Snd.meth {oe:Expr}{name:Str}{apos pos:Pos}{es:List Expr}{fo:Den}{fs:List Den} (X:FnOk g nm k a o fd body ids f) (hinj:∀ i j,nm i=nm j→i=j) (Bd:Jc g nm fd ids [] bf) (hm:Jl oe name apos pos es []) (H:HK g) (M:HMeth g name a) (ho:Snd g nm (k + 1) sc oe fo) (L:jl g nm (k + 1) sc es fs) (hplain:∀ env,(starEach es env).any (·.1)=false):
  Snd g nm (k + 1) sc (.Call (.Attribute oe name apos) es [] pos) (q5 bf ids f fo fs):=by
 intro A env s ad U W pv hr he hx hp E
 refine bc fun J=> ?_
 obtain ⟨i,ps,eo,ea,hp⟩:=zi9 hp
 refine J ?_
 refine zrv hm H M ho L hplain hr he hx eo ea fun v vs s1 g1 r1=> ?_
 exact xp (zlf X hinj Bd hr (hx.keeps g1.h).wd r1 hp) (fun v s'' q=> ⟨g1.trans q.1,q.2⟩) fun V V x=> x
theorem Snd.methKw {oe e1:Expr}{name kn:Str}{b:Bool}{x1:Nat}{apos pos p1 p2:Pos}{fo f1:Den} (X:FnOk g nm k a o fd body ids f) (hinj:∀ i j,nm i=nm j→i=j) (Bd:Jc g nm fd ids [(kn,.bool b)] bf)
  (hm:Jl oe name apos pos [e1] [⟨some kn,.Constant (.bool b) x1 p1,p2⟩]) (H:HK g) (M:HMeth g name a) (ho:Snd g nm (k + 1) sc oe fo) (h1:Snd g nm (k + 1) sc e1 f1) (hst:∀ env,starEach [e1] env=[(false,eval e1 env)]):
  Snd g nm (k + 1) sc (.Call (.Attribute oe name apos) [e1] [⟨some kn,.Constant (.bool b) x1 p1,p2⟩] pos) (q5 bf ids f fo [f1]):=by
 intro A env s ad U W pv hr he hx hp E
 refine bc fun J=> ?_
 obtain ⟨i,ps,eo,ea,hp⟩:=zi9 hp
 obtain ⟨pl,hm⟩:=hm
 refine J ?_
 refine methodCall_KW (pl:=pl env) ?_ (hm env)
 refine xp (ho A env s ad U W _ hr he hx eo E) (fun v s1 hh=> ?_) fun V V x=> x
 have x1:=hx.keeps hh.1.h
 refine zg3 H M x1.kin hh.2 ?_
 have L:jl g nm (k + 1) sc [e1] [f1]:=jl.cons h1 jl.nil hst
 refine callWith_KW x1.kin M.keep rfl ?_ (by rw [hst];rfl) (by rw [hst];rfl)
 refine xp (L pos A env s1 ad U W ps hr he x1 ea E) (fun vs s2 h2=> ?_) fun V V x=> x
 have g2:=hh.1.trans h2.1
 have x2:=x1.keeps h2.1.h
 refine kwAll_cons ?_
 show wpAny _ A (pure (Value.bool b)) _ _ s2
 refine xg (wpAny_evalAll_nil ?_)
 refine ⟨x2.kin, ?_⟩
 exact xp (zlf X hinj Bd hr x2.wd (.cons (hh.2.keeps h2.1.h) h2.2) hp) (fun v s'' q=> ⟨g2.trans q.1,q.2⟩) fun V V x=> x
end
end
section
section
variable {g:GC}{ad:AD}{h:Heap}
theorem zh.one {p:PV}{vs:List Value} (r:zh g ad h [p] vs):∃ v,vs=[v]∧zk g ad h p v:=by
 refine bc fun J=> ?_
 obtain ⟨v,vs',rfl,r1,r2⟩:=r.inv_cons
 refine J ?_
 rw [r2.inv_nil];exact ⟨v,rfl,r1⟩
theorem zh.two {p q:PV}{vs:List Value} (r:zh g ad h [p,q] vs):∃ v u,vs=[v,u]∧zk g ad h p v∧zk g ad h q u:=by
 obtain ⟨v,vs',rfl,r1,r2⟩:=r.inv_cons
 obtain ⟨u,rfl,r3⟩:=r2.one;exact ⟨v,u,rfl,r1,r3⟩
theorem zh.three {p q w:PV}{vs:List Value} (r:zh g ad h [p,q,w] vs):∃ v u x,vs=[v,u,x]∧zk g ad h p v∧zk g ad h q u∧zk g ad h w x:=by
 obtain ⟨v,vs',rfl,r1,r2⟩:=r.inv_cons
 obtain ⟨u,x,rfl,r3,r4⟩:=r2.two;exact ⟨v,u,x,rfl,r1,r3,r4⟩
theorem zd4 {W:Sto}{p:PV}{l:List PV}{s:Shared}{v:Value} (S:StoreOk g ad W s.heap) (r:zk g ad s.heap p v) (e:dr W p= .lst l):∃ a vs,v= .ref a∧s.heap.PlainList a vs∧zh g ad s.heap l vs.toList:=r.dr_lst S e
end
theorem zvy {W:Sto}{p:PV}{l:List Nat} (e:dr W p= .str l):p= .str l:=zpf e
def z52 (q:PV):Option PV:=match q with
 | .lst l=> if ze l.length then some (.int l.length) else none
 | .str l=> if ze l.length then some (.int l.length) else none
 | _=> none
theorem zwr {q x:PV} (e:z52 q=some x) {C:PV→PV→Prop} (ll:∀ l,ze l.length=true→C (.lst l) (.int l.length)) (ss:∀ l,ze l.length=true→C (.str l) (.int l.length)):C q x:=by
 cases q with
 | lst l=> obtain ⟨h,rfl⟩:=z0 e;exact ll l h
 | str l=> obtain ⟨h,rfl⟩:=z0 e;exact ss l h
 | _=> exact nn e
def Qt (W:Sto):List PV→Option PV:=g1 fun p=> z52 (dr W p)
def z38 (_:Sto):List PV→Option PV:=g1 (onI fun i=> if 0≤i∧i≤1114111 then some (.str [i.toNat]) else none)
def z6m (_:Sto):List PV→Option PV:=g1 (onS (on1 fun c=> some (.int c)))
def zr2 (_:Sto):List PV→Option PV:=g2 fun a b=> onI (fun a=> onI (fun b=> if b≠0∧b.natAbs < 1073741824 then some (.tup [.int (a.fdiv b),.int (a.fmod b)]) else none) b) a
theorem z8 (l:List Nat):(⟨l.toArray⟩:Str).length=l.length:=by simp [Str.length]
theorem zwb {n:Nat} (h:ze n=true):((n:Nat):Int) < 2 ^ 63:=by have:=zy h;rw [sizeLine_eq] at this;lia
section
variable {g:GC}{k:Nat}
theorem z0g:OpN g k (.builtin "len") Qt:=by
 intro A s ad W ps pv vs hr kin top S rv e E
 apply zfb e rv
 intro p v e r
 refine zwr e (C:=fun q x=> dr W p=q→wpAny (model g.prog g.w) A (call (.builtin "len") [v]) (fun v s'=> Gr s s'∧zk g ad s'.heap x v) E s) (fun l h1 el=> ?_) (fun l h1 el=> ?_) rfl
 ·refine bc fun J=> ?_
  obtain ⟨a,vs,rfl,pl,rs⟩:=zd4 S r el
  refine J ?_
  rw [rs.size] at h1⊢
  exact Calls.call_len_list pl.isList (zwb h1) ⟨Gr.tok s _,Jy⟩
 ·rw [zvy el] at r
  obtain ⟨t,rfl⟩:=r.str_inv
  refine P.len_str (by rw [z8];exact Int.not_le.mpr (zwb h1)) ⟨Gr.tok s _, ?_⟩
  rw [z8];exact Jy
theorem z0e:OpN g k (.builtin "chr") z38:=by
 intro A s ad W ps pv vs hr kin top S rv e E
 apply zfb e rv
 intro p v e r
 apply Jb e r
 intro i t e
 obtain ⟨h1,rfl⟩:=z0 e
 exact chr_of_range h1.1 h1.2 ⟨Gr.tok s _,ze0 rfl⟩
theorem z0j:OpN g k (.builtin "ord") z6m:=by
 intro A s ad W ps pv vs hr kin top S rv e E
 apply zfb e rv
 intro p v e r
 apply zas e r
 intro l t e
 obtain ⟨c,rfl,e⟩:=zz7 e
 cases si e
 exact P.ord_of_char ⟨Gr.tok s _,Jy⟩
theorem zp9:OpN g k (.builtin "divmod") zr2:=by
 intro A s ad W ps pv vs hr kin top S rv e E
 apply zm8 e rv
 intro p q v u e r1 r2
 apply Jb e r1
 intro a t e
 apply Jb e r2
 intro b t' e
 obtain ⟨h1,rfl⟩:=z0 e
 exact divmod_int h1.1 ⟨Gr.push s _ _,z4b S (.cons Jy (.cons Jy .nil))⟩ (.inl (PyProof.noPylong_small h1.2))
end
end
section
open PySem.NumText
theorem zd7 {α:Type}{x:α}{g:GC}{ad:AD}{W:Sto}{f:List PV→Option α}{p:PV}{v:Value}{s:Shared} (e:onL f (dr W p)=some x) (S:StoreOk g ad W s.heap) (r:zk g ad s.heap p v) {C:Value→Prop} (k:∀ l a vs,f l=some x→s.heap.PlainList a vs→zh g ad s.heap l vs.toList→C (.ref a)):C v:=by
 obtain ⟨l,el,e⟩:=zr1 e
 obtain ⟨a,vs,rfl,pl,rs⟩:=zd4 S r el
 exact k l a vs e pl rs
noncomputable def ints? :List PV→Option (List Int)
 | []=> some []
 | p::r=> onI (fun i=> (ints? r).map (i::·)) p
def z0p (W:Sto):List PV→Option PV:=g1 fun p=> onL (fun l=> (ints? l).map fun ns=> .int ns.sum) (dr W p)
section
variable {g:GC}{ad:AD}{h:Heap}
theorem Jg {α β:Type}{f:α→β}{o:Option α}{y:β} (e:o.map f=some y):∃ x,o=some x∧f x=y:=xh.mp e
theorem zdf:∀ {l:List PV}{ns:List Int}{vs:List Value},zh g ad h l vs→ints? l=some ns→∃ xs:List (Int×Tok),vs=xs.map (fun p=> .int p.1 p.2)∧xs.map (·.1)=ns
 | [],ns,vs,r,e=> by cases si e;rw [r.inv_nil];exact ⟨[],rfl,rfl⟩
 | p::ps,ns,vs,r,e=> by
  obtain ⟨v,vs',rfl,r1,r2⟩:=r.inv_cons
  apply Jb e r1;intro i t e
  obtain ⟨ms,e1,rfl⟩:=Jg e
  obtain ⟨xs,rfl,rfl⟩:=zdf r2 e1
  exact ⟨(i,t)::xs,rfl,rfl⟩
end
section
variable {g:GC}{k:Nat}
theorem z0l:OpN g k (.builtin "sum") z0p:=by
 intro A s ad W ps pv vs hr kin top S rv e E
 apply zfb e rv;intro p v e r
 apply zd7 e S r;intro l a vs e pl rs
 obtain ⟨ns,e1,rfl⟩:=Jg e
 obtain ⟨xs,hx,rfl⟩:=zdf rs e1
 have hv:vs=intItems xs.toArray:=Array.ext' (hx.trans (by simp [intItems]))
 subst hv
 refine sum_intListG hr.handled pl.isList fun h' tk t' hk=> ⟨Gr.of_heap hk, ?_⟩
 rw [preSum_eq,List.take_of_length_le (by simp)]
 exact Jy
noncomputable def onB {α:Type} (f:Bool→Option α):PV→Option α
 | .bool b=> f b
 | _=> none
theorem zz8 {α:Type}{f:Bool→Option α}{p:PV}{x:α} (e:onB f p=some x):∃ i,p= .bool i∧f i=some x:=by
 cases p with
 | bool i=> exact ⟨i,rfl,e⟩
 | _=> exact nn e
noncomputable def bools? :List PV→Option (List Bool)
 | []=> some []
 | p::r=> onB (fun i=> (bools? r).map (i::·)) p
def z0n (W:Sto):List PV→Option PV:=g1 fun p=> onL (fun l=> (bools? l).map fun ns=> .bool (ns.all id)) (dr W p)
theorem ze8 {ad:AD}{h:Heap}:∀ {l:List PV}{ns:List Bool}{vs:List Value},zh g ad h l vs→bools? l=some ns→vs=ns.map fun b=> .bool b
 | [],ns,vs,r,e=> by cases si e;exact r.inv_nil
 | p::ps,ns,vs,r,e=> by
  obtain ⟨v,vs',rfl,r1,r2⟩:=r.inv_cons
  obtain ⟨b,rfl,e⟩:=zz8 e
  obtain ⟨ms,e1,rfl⟩:=Jg e
  rw [ze8 r2 e1,r1.bool_inv];rfl
theorem z23 (ns:List Bool):(List.range ns.length).all (fun i=> (ns[i]?).getD true)=ns.all id:=by
 induction ns with
 | nil=> rfl
 | cons b r ih=> rw [List.length_cons,List.range_succ_eq_map,List.all_cons,List.all_cons,List.all_map,←ih];rfl
theorem z0d:OpN g k (.builtin "all") z0n:=by
 intro A s ad W ps pv vs hr kin top S rv e E
 apply zfb e rv;intro p v e r
 apply zd7 e S r;intro l a vs e pl rs
 obtain ⟨ns,e1,rfl⟩:=Jg e
 have hx:=ze8 rs e1
 have hlt:a < s.heap.objs.size:=pl.elim fun V e=> Heap.lt_size e
 have hl:vs.size=ns.length:=(congrArg List.length hx).trans (xc _)
 refine call_all_walk (wpAny_pyIter_list (A:=A.in1) pl.isList ?_)
 refine ⟨_,_,_,_,_,_,fun i=> (ns[i]?).getD true,rfl,Walks.list (A:=A.in1) hr.handled _ a (Nat.ne_of_lt hlt) vs,⟨⟨_,xj _ rfl,rfl,rfl⟩,pl.isList.push _⟩,fun i v s' Q E' hP hQ=> ?_,fun h' tk hk=> ⟨Gr.of_heap fun b o e=> ?_, ?_⟩⟩
 ·have hP':vs.toList[i]? =some v:=Array.getElem?_toList.trans hP
  rw [hx,List.getElem?_map] at hP'
  obtain ⟨b,hb,rfl⟩:=Jg hP'
  have hQ':Q ((ns[i]?).getD true) s':=hQ
  rw [hb] at hQ';exact wpAny_truthy_bool hQ'
 ·exact hk b o (fun hm=> Nat.lt_irrefl _ (List.mem_singleton.mp hm▸Heap.lt_size e)) (xb _ e)
 ·rw [hl,z23];exact Qw
def zqg (W:Sto):List PV→Option PV:=g1 fun p=> onL (fun l=> if ze l.length then some (.tup l) else none) (dr W p)
theorem ztz:OpN g k (.type "tuple") zqg:=by
 intro A s ad W ps pv vs hr kin top S rv e E
 apply zfb e rv;intro p v e r
 apply zd7 e S r;intro l a vs e pl rs
 obtain ⟨h1,rfl⟩:=z0 e
 refine call_tuple_list pl.isList (fun h' hk=> ⟨Gr.of_heap (fun b o e=> xb _ (hk b o e)), ?_⟩) (by rw [←rs.size];exact zy h1)
 exact z4b (s:={s with heap:=h'}) (StoreOk.keeps S hk) (rs.keeps hk)
noncomputable def ltI (a:Int) (q:PV):Option Bool:=match q with
 | .int b=> some (decide (a < b))
 | .flt b=> some (Float64.cmpInt b a==some .gt)
 | _=> none
noncomputable def ltF (a:UInt64) (q:PV):Option Bool:=match q with
 | .int n=> some (Float64.cmpInt a n==some .lt)
 | .flt b=> some (Float64.cmp a b==some .lt)
 | _=> none
def ltP (p q:PV):Option Bool:=match p with
 | .int a=> ltI a q
 | .flt a=> ltF a q
 | _=> none
noncomputable def zc2 (p:PV):Bool:=match p with
 | .int _=> true
 | .flt _=> true
 | _=> false
theorem zco {ad:AD}{h:Heap}{p:PV}{v:Value} (e:zc2 p=true) (r:zk g ad h p v):Flt.NumV v:=by
 cases p with
 | int i=> obtain ⟨t,rfl⟩:=r.int_inv;exact .int _ _
 | flt i=> obtain ⟨t,rfl⟩:=r.flt_inv;exact .float _ _
 | _=> exact (xy e).elim
theorem zru {ad:AD}{h:Heap}{p q:PV}{v u:Value}{c:Bool} (e:ltP p q=some c) (r:zk g ad h p v) (r':zk g ad h q u):Flt.ltV v u=c:=by
 cases p with
 | int i=> obtain ⟨t,rfl⟩:=r.int_inv;cases q with
  | int j=> obtain ⟨t',rfl⟩:=r'.int_inv;exact si e
  | flt j=> obtain ⟨t',rfl⟩:=r'.flt_inv;exact si e
  | _=> exact nn e
 | flt i=> obtain ⟨t,rfl⟩:=r.flt_inv;cases q with
  | int j=> obtain ⟨t',rfl⟩:=r'.int_inv;exact si e
  | flt j=> obtain ⟨t',rfl⟩:=r'.flt_inv;exact si e
  | _=> exact nn e
 | _=> exact nn e
noncomputable def z1d (lt:PV→PV→Option Bool) (a b c:PV):Option PV:=(lt a b).bind fun x=> (lt (cond x b a) c).bind fun y=> some (cond y c (cond x b a))
def z1q (lt:PV→PV→Option Bool) (_:Sto):List PV→Option PV:=g3 fun a b c=> if (zc2 a && (zc2 b && zc2 c))=true then z1d lt a b c else none
def z6k:Sto→List PV→Option PV:=z1q ltP
def z6l:Sto→List PV→Option PV:=z1q fun a b=> ltP b a
theorem zyx {bt:Nat→Nat→Bool}{a b c v:Value}{x y:Bool} (hP:#[a,b,c][argBest bt 2]? =some v) (h1:bt 1 0=x) (h2:bt 2 (cond x 1 0)=y):v=cond y c (cond x b a):=by
 have e1:argBest bt 1=cond x 1 0:=by show (if bt 1 0=true then 1 else 0)=_;rw [h1];cases x <;> rfl
 have e2:argBest bt 2=cond y 2 (cond x 1 0):=by show (if bt 2 (argBest bt 1)=true then 2 else argBest bt 1)=_;rw [e1,h2];cases y <;> rfl
 rw [e2] at hP
 cases x <;> cases y <;> exact (si hP).symm
theorem zq7 {A:Around}{s:Shared}{E:Value→Shared→Prop}{ad:AD}{p1 p2 p3 pv:PV}{a b c:Value}{op:CmpOp}{lt:PV→PV→Option Bool}{ltv:Value→Value→Bool}
  (hlt:∀ (p q:PV) (v u:Value) (c:Bool),lt p q=some c→zk g ad s.heap p v→zk g ad s.heap q u→ltv v u=c)
  (hcm:CmpOf g.prog g.w A.in1 op (fun i v=> #[a,b,c][i]? =some v) (fun i j=> ltv (#[a,b,c].getD j .none) (#[a,b,c].getD i .none)))
  (hh:A.handled=none) (r1:zk g ad s.heap p1 a) (r2:zk g ad s.heap p2 b) (r3:zk g ad s.heap p3 c) (e:z1d lt p1 p2 p3=some pv) {f:Value}
  (hcall:∀ {Q:Value→Shared→Prop},wpAny (model g.prog g.w) A.in1 (pyIter (.ref s.heap.objs.size)) (fun it s₂=> ∃ I fp wr n P St bt,it= .ref I∧Walks g.prog g.w A.in1 I fp wr n P St∧St 0 s₂.heap∧(∀ b∈fp,b < s₂.heap.objs.size)∧0 < n∧CmpOf g.prog g.w A.in1 op P bt∧
   ∀ v h' tk,P (argBest bt (n - 1)) v→(∀ b o,b∉wr→s₂.heap.get? b=some o→h'.get? b=some o)→Q v {s₂ with heap:=h',toks:=tk}) E
   {s with heap:=s.heap.push {cls:= .type "tuple",data:= .seq #[a,b,c]}}→wpAny (model g.prog g.w) A (call f [a,b,c]) Q E s):
  wpAny (model g.prog g.w) A (call f [a,b,c]) (fun v s'=> Gr s s'∧zk g ad s'.heap pv v) E s:=by
 have hT:(s.heap.push {cls:= .type "tuple",data:= .seq #[a,b,c]}).IsTuple s.heap.objs.size #[a,b,c]:=⟨_,xj _ rfl,rfl,0,rfl⟩
 refine hcall (wpAny_pyIter_tuple hT ?_)
 have hsz:(s.heap.push {cls:= .type "tuple",data:= .seq #[a,b,c]}).objs.size=s.heap.objs.size + 1:=xv ..
 refine ⟨_,[_,s.heap.objs.size],[_],_,_,_,_,rfl,Walks.tuple (A:=A.in1) hh _ s.heap.objs.size (by rw [hsz];exact Nat.ne_of_lt (Nat.lt_succ_self _)) #[a,b,c],
  ⟨⟨_,xj _ rfl,rfl,rfl⟩,hT.push _⟩,fun d hd=> ?_,by simp,hcm,fun v h' tk hP hk=> ?_⟩
 ·show d < ((s.heap.push _).push _).objs.size
  rw [xv,hsz]
  rcases List.mem_cons.mp hd with rfl | hd
  ·rw [hsz];exact Nat.lt_succ_self _
  ·rcases List.mem_cons.mp hd with rfl | hd
   ·exact Nat.lt_succ_of_lt (Nat.lt_succ_self _)
   ·cases hd
 ·have hold:∀ d o,s.heap.get? d=some o→h'.get? d=some o:=fun d o e=> by
   refine hk d o (fun hm=> ?_) (xb _ (xb _ e))
   rcases List.mem_cons.mp hm with e1 | hm
   ·have:=Heap.lt_size e;rw [e1,hsz] at this;exact Nat.lt_irrefl _ (Nat.lt_of_succ_lt this)
   ·cases hm
  refine ⟨Gr.of_heap hold, ?_⟩
  refine bc fun J=> ?_
  obtain ⟨x,e1,e⟩:=xn.mp e
  obtain ⟨y,e2,e⟩:=xn.mp e
  refine J ?_
  have rc:zk g ad s.heap (cond x p2 p1) (cond x b a):=by cases x;exact r1;exact r2
  have l2:=hlt _ _ _ _ _ e2 rc r3
  rw [zyx hP (hlt _ _ _ _ _ e1 r1 r2) (by cases x <;> exact l2),←si e]
  have rr:zk g ad s.heap (cond y p3 (cond x p2 p1)) (cond y c (cond x b a)):=by cases y;exact rc;exact r3
  exact rr.keeps hold
theorem z58 {p q r:PV} (h:(zc2 p && (zc2 q && zc2 r))=true):zc2 p=true∧zc2 q=true∧zc2 r=true:=by
 rw [xi,xi] at h;exact h
theorem z57 {C:Value→Prop}{a b c:Value} (ha:C a) (hb:C b) (hc:C c):∀ v∈#[a,b,c],C v:=by simp [ha,hb,hc]
theorem z0h:OpN g k (.builtin "max") z6k:=by
 intro A s ad W ps pv vs hr kin top S rv e E
 apply zwk e rv;intro p q r a b c e r1 r2 r3
 obtain ⟨hn,e⟩:=jg e
 obtain ⟨n1,n2,n3⟩:=z58 hn
 exact zq7 (lt:=ltP) (ltv:=Flt.ltV) (fun p q v u c e r r'=> zru e r r') (Flt.cmpOf_gt #[a,b,c] (z57 (zco n1 r1) (zco n2 r2) (zco n3 r3))) hr.handled r1 r2 r3 e call_max_three
theorem z0i:OpN g k (.builtin "min") z6l:=by
 intro A s ad W ps pv vs hr kin top S rv e E
 apply zwk e rv;intro p q r a b c e r1 r2 r3
 obtain ⟨hn,e⟩:=jg e
 obtain ⟨n1,n2,n3⟩:=z58 hn
 exact zq7 (lt:=fun a b=> ltP b a) (ltv:=fun a b=> Flt.ltV b a) (fun p q v u c e r r'=> zru e r' r) (Flt.cmpOf_lt #[a,b,c] (z57 (zco n1 r1) (zco n2 r2) (zco n3 r3))) hr.handled r1 r2 r3 e call_min_three
end
end
section
open PySem.NumText
theorem zh7 (a b:Value):checkTypeCall "int" ⟨[a,b],[]⟩=pure ():=by kernel_rfl
theorem zit (a b:Value):checkBuiltinCall "int.__new__" ⟨[.type "int",a,b],[]⟩=pure ():=by kernel_rfl
theorem zc8 (obj a b:Value):argsOk "object.__init__" ⟨[obj,a,b],[]⟩:=by unfold argsOk;kernel_rfl
theorem zuk {M:Model}{A:Around}{E:Value→Shared→Prop}{s:Shared}{Q:Value→Shared→Prop}{v:Value}{text:List Nat}{n:Int}{base:Nat}
  (hs:(text.takeWhile (· !=0)).length≤640) (hr:(int_private% "readNumeral") 0 base (text.takeWhile (· !=0))=(int_private% "Numeral.value") n)
  (ha:((text.takeWhile (· !=0)).length==text.length)=true) (h:Q (.int n s.toks) {s with toks:=s.toks + 1}):
  wpAny M A ((int_private% "intFromText") v text base) Q E s:=by
 obtain ⟨hp,g,d,tk,os⟩:=s
 repeat (any_goals (first
  | assumption
  | (with_reducible refine wpAny_ite_true (yd hs) ?_)
  | (with_reducible refine wpAny_ite_true (yd ha) ?_)
  | wp_step))
 all_goals (try rw [hr])
 all_goals (try dsimp only)
 repeat (any_goals (first
  | assumption
  | (with_reducible refine wpAny_ite_true (yd hs) ?_)
  | (with_reducible refine wpAny_ite_true (yd ha) ?_)
  | wp_step))
theorem zli {x:PySem.Str}{u t:Tok}{n:Int} (hs:(numSeenOf x).length≤640) (hr:(int_private% "readNumeral") 0 16 (numSeenOf x)=(int_private% "Numeral.value") n) (ha:((numSeenOf x).length==(numTextOf x).length)=true):
  Gives (Builtin.«int.__new__» ⟨[.type "int",.str x u,.int 16 t],[]⟩) (.int n):=
 .of_wp fun M A E s Q h=> by
  obtain ⟨hp,g,d,tk,os⟩:=s
  have f1:=F.conv_sub_int
  have f2:=F.madeHere_int
  have f6:typeOf (.str x u)=pure (.type "str"):=rfl
  repeat (any_goals (first
   | assumption
   | ((with_reducible show wpAny _ _ ((int_private% "intFromText") _ _ _) _ _ _);refine zuk hs hr ha ?_)
   | wp_step))
  all_goals first | exact ⟨_,rfl,h⟩ | skip
end
section
noncomputable def zds (g:GC) (name:Str) (id:String) (kd:PV→Bool):Prop:=
 ∀ (A:Around) (s:Shared) (ad:AD) (W:Sto) (p:PV) (v:Value) (pl:Sem Bool) (Q:Value×List Value→Shared→Prop) (E:Value→Shared→Prop),StoreOk g ad W s.heap→zk g ad s.heap p v→kd (dr W p)=true→
  Q (.builtin id,[v]) s→wpAny (model g.prog g.w) A (getMethod v name pl) Q E s
noncomputable def jv (p:PV):Bool:=match p with
 | .str _=> true
 | _=> false
noncomputable def zlm (p:PV):Bool:=match p with
 | .lst _=> true
 | _=> false
theorem zp0 {p:PV} (e:jv p=true):∃ l,p= .str l:=by
 cases p with
 | str l=> exact ⟨l,rfl⟩
 | _=> exact (xy e).elim
theorem zpx {p:PV} (e:zlm p=true):∃ l,p= .lst l:=by
 cases p with
 | lst l=> exact ⟨l,rfl⟩
 | _=> exact (xy e).elim
section
variable {g:GC}{nm:Nat→Str}{k:Nat}{sc:Scope}
theorem Qk {name:Str}{id:String} (ji:Slot "str" name id) (ty:typeOf (.builtin id)=pure (.type "method_descriptor")):zds g name id jv:=by
 intro A s ad W p v pl Q E S r hk h
 obtain ⟨l,hd⟩:=zp0 hk
 rw [zvy hd] at r
 obtain ⟨t,rfl⟩:=r.str_inv
 exact GM.of _ (typeIs_str _ _ _) ji ty GM.noRef h
theorem zjs {name:Str}{id:String} (ji:Slot "list" name id) (ty:typeOf (.builtin id)=pure (.type "method_descriptor")):zds g name id zlm:=by
 intro A s ad W p v pl Q E S r hk h
 obtain ⟨l,hd⟩:=zpx hk
 obtain ⟨a,vs,rfl,pl,rs⟩:=zd4 S r hd
 obtain ⟨n,e⟩:=pl
 exact getMethod_builtin ⟨_,e,rfl⟩ PySem.F.plainAttrs_list ji ty (fun a' e'=> by cases e';exact ⟨_,e,rfl⟩) h
theorem Snd.bm {oe:Expr}{name:Str}{id:String}{kd:PV→Bool}{apos pos:Pos}{es:List Expr}{fo:Den}{fs:List Den}{op:Sto→List PV→Option PV} (hm:Jl oe name apos pos es []) (M:zds g name id kd) (O:OpN g k (.builtin id) op) (hop:∀ W p ps pv,op W (p::ps)=some pv→kd (dr W p)=true)
  (ho:Snd g nm k sc oe fo) (L:jl g nm k sc es fs) (hplain:∀ env,(starEach es env).any (·.1)=false):Snd g nm k sc (.Call (.Attribute oe name apos) es [] pos) (zf op (fo::fs)):=by
 intro A env s ad U W pv hr he hx hp E
 unfold zf at hp
 cases ea:jm (fo::fs) U W with
 | none=> rw [ea] at hp;cases hp
 | some ps0=>
  rw [ea] at hp
  refine bc fun J=> ?_
  obtain ⟨p,ps,rfl,eo,ea⟩:=Zo ea
  obtain ⟨pl,hm⟩:=hm
  refine J ?_
  refine methodCall_KW (pl:=pl env) ?_ (hm env)
  refine xp (ho A env s ad U W _ hr he hx eo E) (fun v s1 h1=> ?_) fun V V x=> x
  have x1:=hx.keeps h1.1.h
  refine M A s1 ad W p v _ _ _ x1.sto h1.2 (hop W p ps pv hp) ?_
  refine Z0 hr he x1 (.blt id) L ea (hplain env) fun vs s2 g2 r2=> ?_
  have x2:=x1.keeps g2.h
  exact xp (O A s2 ad W (p::ps) pv (v::vs) hr x2.kin x2.top x2.sto (.cons (h1.2.keeps g2.h) r2) hp E) (fun v s'' q=> ⟨(h1.1.trans g2).trans q.1,q.2⟩) fun V V x=> x
theorem zc3 {ad:AD}{h:Heap}{x:Str}{t:Tok}:zk g ad h (.str x.cps.toList) (.str x t):=ze0 (by cases x;simp)
noncomputable abbrev mk (l:List Nat):Str:=⟨l.toArray⟩
def sm0 (f:List Nat→Option PV):List PV→Option PV:=g1 (onS f)
def sm1 (f:List Nat→PV→Option PV):List PV→Option PV:=g2 fun a b=> onS (fun x=> f x b) a
theorem zzm {f:List Nat→Option PV}{W:Sto}{p:PV}{ps:List PV}{pv:PV} (e:sm0 f (p::ps)=some pv):jv (dr W p)=true:=by
 obtain ⟨q,e1,e⟩:=zwi e
 obtain ⟨l,rfl,_⟩:=Q4 e
 rw [(List.cons.inj e1).1];rfl
theorem zwl {f:List Nat→PV→Option PV}{W:Sto}{p:PV}{ps:List PV}{pv:PV} (e:sm1 f (p::ps)=some pv):jv (dr W p)=true:=by
 obtain ⟨q,u,e1,e⟩:=zgz e
 obtain ⟨l,rfl,_⟩:=Q4 e
 rw [(List.cons.inj e1).1];rfl
theorem zl8 {f:List Nat→Option PV}{ad:AD}{h:Heap}{ps:List PV}{vs:List Value}{x:PV} (e:sm0 f ps=some x) (rv:zh g ad h ps vs) {C:List Value→Prop} (k:∀ l t,f l=some x→C [.str ⟨l.toArray⟩ t]):C vs:=by
 apply zfb e rv;intro p v e r
 obtain ⟨l,rfl,e⟩:=Q4 e
 obtain ⟨t,rfl⟩:=r.str_inv
 exact k l t e
theorem zhz {f:List Nat→PV→Option PV}{ad:AD}{h:Heap}{ps:List PV}{vs:List Value}{x:PV} (e:sm1 f ps=some x) (rv:zh g ad h ps vs) {C:List Value→Prop} (k:∀ l t q u,f l q=some x→zk g ad h q u→C [.str ⟨l.toArray⟩ t,u]):C vs:=by
 apply zm8 e rv;intro p q v u e r r2
 obtain ⟨l,rfl,e⟩:=Q4 e
 obtain ⟨t,rfl⟩:=r.str_inv
 exact k l t q u e r2
def Zx (_:Sto):List PV→Option PV:=sm0 fun l=> if Builtin.Str.tooLong (Txt.upper (mk l)).length=false then some (.str (Txt.upper (mk l)).cps.toList) else none
def Z7 (_:Sto):List PV→Option PV:=sm0 fun l=> if Builtin.Str.tooLong (Txt.lower (mk l)).length=false then some (.str (Txt.lower (mk l)).cps.toList) else none
def Zs (_:Sto):List PV→Option PV:=sm1 fun l=> onS fun m=> if ze l.length then some (.str (Txt.stripChars (mk l) (mk m)).cps.toList) else none
def zeb (_:Sto):List PV→Option PV:=sm0 fun l=> if ze l.length then some (.str (Txt.rstrip (mk l)).cps.toList) else none
def za5 (_:Sto):List PV→Option PV:=sm1 fun l=> onS fun m=> some (.bool (Txt.endswith (mk l) (mk m)))
theorem zt0:OpN g k (.builtin "str.upper") Zx:=by
 intro A s ad W ps pv vs hr kin top S rv e E
 apply zl8 e rv;intro l t e
 obtain ⟨h1,rfl⟩:=z0 e
 exact SC.upper h1 ⟨Gr.tok s _,zc3⟩
theorem ztw:OpN g k (.builtin "str.lower") Z7:=by
 intro A s ad W ps pv vs hr kin top S rv e E
 apply zl8 e rv;intro l t e
 obtain ⟨h1,rfl⟩:=z0 e
 exact SC.lower h1 ⟨Gr.tok s _,zc3⟩
theorem zhn:OpN g k (.builtin "str.strip") Zs:=by
 intro A s ad W ps pv vs hr kin top S rv e E
 apply zhz e rv;intro l t q u e r
 apply zas e r;intro m t' e
 obtain ⟨h1,rfl⟩:=z0 e
 exact SC.stripChars (fun t' k=> ⟨Gr.tok s _,zc3⟩) (by rw [z8];exact zy h1)
theorem zqa:OpN g k (.builtin "str.rstrip") zeb:=by
 intro A s ad W ps pv vs hr kin top S rv e E
 apply zl8 e rv;intro l t e
 obtain ⟨h1,rfl⟩:=z0 e
 exact SC.rstrip (fun t' k=> ⟨Gr.tok s _,zc3⟩) (by rw [z8];exact zy h1)
theorem zly:OpN g k (.builtin "str.endswith") za5:=by
 intro A s ad W ps pv vs hr kin top S rv e E
 apply zhz e rv;intro l t q u e r
 apply zas e r;intro m t' e
 cases si e
 exact SC.endswith ⟨Gr.refl s,Qw⟩
noncomputable def strs? :List PV→Option (List (List Nat))
 | []=> some []
 | p::r=> onS (fun l=> (strs? r).map (l::·)) p
theorem zh4 {ad:AD}{h:Heap}:∀ {l:List PV}{ys:List (List Nat)}{vs:List Value},zh g ad h l vs→strs? l=some ys→∃ xs:List (Str×Tok),vs=strValues xs∧xs.map (·.1)=ys.map mk
 | [],ns,vs,r,e=> by cases si e;exact ⟨[],r.inv_nil,rfl⟩
 | p::ps,ns,vs,r,e=> by
  obtain ⟨v,vs',rfl,r1,r2⟩:=r.inv_cons
  apply zas e r1;intro l t e
  obtain ⟨ms,e1,rfl⟩:=Jg e
  obtain ⟨xs,rfl,e2⟩:=zh4 r2 e1
  exact ⟨(mk l,t)::xs,rfl,congrArg (mk l::·) e2⟩
noncomputable def za4 (x:List Nat) (ys:List (List Nat)):Bool:=decide ((ys.map List.length).sum + ys.length * x.length≤16777216)
def Qn (W:Sto):List PV→Option PV:=sm1 fun x p=> onL (fun l=> (strs? l).bind fun ys=> if za4 x ys then some (.str (Txt.join (mk x) (ys.map mk)).cps.toList) else none) (dr W p)
theorem zxf:OpN g k (.builtin "str.join") Qn:=by
 intro A s ad W ps pv vs hr kin top S rv e E
 apply zhz e rv;intro x t q u e r
 apply zd7 e S r;intro l a vs e pl rs
 refine bc fun J=> ?_
 obtain ⟨ys,ey,e⟩:=xn.mp e
 obtain ⟨h1,rfl⟩:=z0 e
 obtain ⟨xs,hx,e2⟩:=zh4 rs ey
 refine J ?_
 have hl:s.heap.IsList a (strValues xs).toArray:=by rw [←hx];exact pl.isList
 refine SC.join hl e2 (joinOk_of ?_) fun t' k=> ⟨Gr.tok s _,zc3⟩
 have e3:((ys.map mk).map fun (y:Str)=> y.length)=ys.map List.length:=(xq ..).trans (List.map_congr_left fun y V=> z8 y)
 rw [e3,z8,xc];exact xx h1
noncomputable def zqr (l:List Str):List PV:=l.map fun x=> .str x.cps.toList
theorem zh3 {ad:AD}{h:Heap}:∀ (l:List (Str×Tok)) (ys:List Str),l.map (·.1)=ys→zh g ad h (zqr ys) (strValues l)
 | [],_,e=> by subst e;exact .nil
 | (x,t)::r,ys,e=> by subst e;exact .cons zc3 (zh3 r _ rfl)
def zey (_:Sto):List PV→Option PV:=sm1 fun x=> onS fun y=> if (!y.isEmpty) && (ze x.length && ze (Builtin.Str.partsBetween (mk x) (Builtin.Str.occurrences (mk x) (mk y) 0 (mk x).length ((mk x).length + 1)) (mk y).length).length) then some (.lst (zqr (Txt.split (mk x) (mk y)))) else none
def j1 (_:Sto):List PV→Option PV:=sm0 fun x=> if ze x.length && ze (lineCuts (mk x)).length then some (.lst (zqr (Txt.lines (mk x)))) else none
end
end
section
open PySem.Builtin PySem.Builtin.Str
section
variable {prog:Program}{w:World}{A:Around}{E:Value→Shared→Prop}{s:Shared}{x y:Str}{t u:Tok}{Q:Value→Shared→Prop}
theorem zfn (h:∀ l k,l.map (·.1)=Txt.lines x→Q (.ref s.heap.objs.size) {s with heap:=s.heap.push {cls:= .type "list",data:= .seq (strValues l).toArray},toks:=k}) (hsz:x.length≤sizeLine) (hsz2:(lineCuts x).length≤sizeLine):
  wpAny (model prog w) A (call (.builtin "str.splitlines") [.str x t]) Q E s:=by
 refine call_meets PySem.F.slot_str_splitlines (typeIs_str _ _ _) PySem.F.entry_str_splitlines (PySem.F.args_str_splitlines_1 _) (meets_str_splitlines x t hsz hsz2) ?_
 cases hw:lineCuts x==[(0,x.length)]
 ·simp only [Bool.false_eq_true,if_false]
  rw [strsFrom_eq]
  exact h (numbered s.toks (linesOf x)) _ ((numbered_texts _ _).trans (if_neg (ne_true_of_eq_false hw)).symm)
 ·rw [if_pos rfl]
  exact h [(x,t)] s.toks (if_pos hw).symm
theorem zpa (hy:(y.length==0)=false) (h:∀ l k,l.map (·.1)=Txt.split x y→Q (.ref s.heap.objs.size) {s with heap:=s.heap.push {cls:= .type "list",data:= .seq (strValues l).toArray},toks:=k})
  (hsz:x.length≤sizeLine) (hsz2:(partsBetween x (occurrences x y 0 x.length (x.length + 1)) y.length).length≤sizeLine):
  wpAny (model prog w) A (call (.builtin "str.split") [.str x t,.str y u]) Q E s:=by
 cases h1:(decide (x.length < y.length) || decide (Builtin.Str.strKind x < Builtin.Str.strKind y))
 ·cases hf:(occurrences x y 0 x.length (x.length + 1)).isEmpty
  ·refine call_meets PySem.F.slot_str_split (typeIs_str _ _ _) PySem.F.entry_str_split (PySem.F.args_str_split_2 _ _) (meets_str_split_sep x y t u h1 hy hf hsz hsz2) ?_
   show wants Q E _ {s with toks:=_,heap:=s.heap.push {cls:= .type "list",data:= .seq (strsFrom s.toks (partsBetween x (occurrences x y 0 x.length (x.length + 1)) y.length)).toArray}}
   rw [strsFrom_eq]
   exact h (numbered s.toks _) _ ((numbered_texts _ _).trans ((if_neg (ne_true_of_eq_false h1)).trans (if_neg (ne_true_of_eq_false hf))).symm)
  ·exact call_meets PySem.F.slot_str_split (typeIs_str _ _ _) PySem.F.entry_str_split (PySem.F.args_str_split_2 _ _) (meets_str_split_not_found x y t u h1 hy hf)
    (h [(x,t)] s.toks ((if_neg (ne_true_of_eq_false h1)).trans (if_pos hf)).symm)
 ·exact call_meets PySem.F.slot_str_split (typeIs_str _ _ _) PySem.F.entry_str_split (PySem.F.args_str_split_2 _ _) (meets_str_split_cannot_occur x y t u h1)
   (h [(x,t)] s.toks (if_pos h1).symm)
end
section
variable {g:GC}{nm:Nat→PySem.Str}{k:Nat}{sc:Scope}
theorem zak {a b:Bool} (h:(a && b)=true):a=true∧b=true:=by rw [xi] at h;exact h
theorem ztx:OpN g k (.builtin "str.split") zey:=by
 intro A s ad W ps pv vs hr kin top S rv e E
 apply zhz e rv;intro x t q u e r
 apply zas e r;intro y t' e
 obtain ⟨h1,rfl⟩:=z0 e
 obtain ⟨h1,h2⟩:=zak h1
 obtain ⟨h2,h3⟩:=zak h2
 refine zpa (by rw [z8];cases y;cases h1;rfl) (fun l k e=> ⟨Gr.push s _ _,zn1 S (zh3 l _ e)⟩) (by rw [z8];exact zy h2) (zy h3)
theorem zhm:OpN g k (.builtin "str.splitlines") j1:=by
 intro A s ad W ps pv vs hr kin top S rv e E
 apply zl8 e rv;intro x t e
 obtain ⟨h1,rfl⟩:=z0 e
 obtain ⟨h1,h2⟩:=zak h1
 exact zfn (fun l k e=> ⟨Gr.push s _ _,zn1 S (zh3 l _ e)⟩) (by rw [z8];exact zy h1) (zy h2)
def Jv (W:Sto):List PV→Option PV:=g2 fun p q=> onL (fun l=> onI (fun k=> (ints? l).map fun ns=> .int (ns.count k:Nat)) q) (dr W p)
theorem znc:∀ (xs:List (Int×Tok)),IntsAre (xs.map fun p=> Value.int p.1 p.2) (xs.map (·.1))
 | []=> .nil
 | (i,t)::r=> .cons i t (znc r)
theorem ztv:OpN g k (.builtin "list.count") Jv:=by
 intro A s ad W ps pv vs hr kin top S rv e E
 apply zm8 e rv;intro p q v u e r1 r2
 apply zd7 e S r1;intro l a vs e pl rs
 apply Jb e r2;intro i t e
 obtain ⟨ns,e1,rfl⟩:=Jg e
 obtain ⟨xs,hx,rfl⟩:=zdf rs e1
 have hl:s.heap.IsList a (xs.map fun p=> Value.int p.1 p.2).toArray:=by rw [←hx];exact pl.isList
 exact count_list_ints hl (znc xs) ⟨Gr.tok s _,Jy⟩
noncomputable def znq (l:List Nat):Option Int:=
 if (decide ((numSeenOf (mk l)).length≤640) && ((numSeenOf (mk l)).length==(numTextOf (mk l)).length))=true then
  (int_private% "Numeral.casesOn") ((int_private% "readNumeral") 0 16 (numSeenOf (mk l))) Option.none (fun V=> Option.none) Option.none (fun n=> some n)
 else Option.none
theorem zw7 {l:List Nat}{n:Int} (e:znq l=some n):(numSeenOf (mk l)).length≤640∧(int_private% "readNumeral") 0 16 (numSeenOf (mk l))=(int_private% "Numeral.value") n∧((numSeenOf (mk l)).length==(numTextOf (mk l)).length)=true:=by
 refine bc fun J=> ?_
 obtain ⟨h,e⟩:=jg e
 obtain ⟨h1,h2⟩:=zak h
 refine J ?_
 refine ⟨xx h1, ?_,h2⟩
 revert e
 generalize (int_private% "readNumeral") 0 16 (numSeenOf (mk l))=r
 cases r <;> intro e
 iterate 3 (first | exact nn e | exact congrArg _ (si e) | skip)
 all_goals first | exact nn e | exact congrArg _ (si e)
noncomputable def z5x (x:Float64.Num):Option PV:=match x with
 | .fin sg m e=> some (.int (Float64.truncOf sg m e))
 | _=> none
def z5v (p:PV):Option PV:=match p with
 | .flt x=> z5x (Float64.decode x)
 | .str l=> if l.length≤640 then (PySem.intText? (mk l)).map .int else none
 | _=> none
def z5w:List PV→Option PV:=g2 fun p q=> onS (fun l=> onI (fun b=> if b=16 then (znq l).map .int else none) q) p
def ziv (_:Sto) (ps:List PV):Option PV:=match ps with
 | p::r=> (match r with
  | []=> z5v p
  | _::_=> z5w ps)
 | _=> none
theorem zxe {A:Around}{s:Shared}{ad:AD}{p pv:PV}{v:Value} (e:z5v p=some pv) (r:zk g ad s.heap p v) (E:Value→Shared→Prop):wpAny (model g.prog g.w) A (call (.type "int") [v]) (fun v s'=> Gr s s'∧zk g ad s'.heap pv v) E s:=by
 cases p with
 | flt x=>
  obtain ⟨t,rfl⟩:=r.flt_inv
  have e:z5x (Float64.decode x)=some pv:=e
  cases hd:Float64.decode x with
  | fin sg m ex=> rw [hd] at e;cases si e;exact call_int_float hd ⟨Gr.tok s _,Jy⟩
  | _=> rw [hd] at e;exact nn e
 | str l=>
  obtain ⟨t,rfl⟩:=r.str_inv
  obtain ⟨hl,e⟩:=jg e
  obtain ⟨n,e1,rfl⟩:=Jg e
  exact KIN.call_text e1 (by rw [z8];exact hl) ⟨Gr.tok s _,Jy⟩
 | _=> exact nn e
theorem z0f:OpN g k (.type "int") ziv:=by
 intro A s ad W ps pv vs hr kin top S rv e E
 match ps,e,rv with
 | [],e,_=> exact nn e
 | [p],e,rv=>
  obtain ⟨v,rfl,r⟩:=rv.one
  exact zxe e r E
 | p::q::l,e,rv=>
  have e:z5w (p::q::l)=some pv:=e
  apply zm8 e rv;intro p q v u e r1 r2
  apply zas e r1;intro l t e
  apply Jb e r2;intro b t' e
  obtain ⟨rfl,e⟩:=jg e
  obtain ⟨n,e1,rfl⟩:=Jg e
  obtain ⟨a,b,c⟩:=zw7 e1
  refine callType_new PySem.F.called_int PySem.F.newNe_int (zh7 _ _) (zit _ _) (fun obj=> zc8 obj _ _) PySem.F.entry_int_new (zli a b c).meets ?_
  exact show (Made.int n).post _ s from ⟨rfl,Gr.tok s _,Jy⟩
def zqf (_:Sto):List PV→Option PV:=g1 (onI fun a=> if a.natAbs.log2 < 1920 then some (.str (PySem.Str.ofString (toString a)).cps.toList) else none)
theorem z0k:OpN g k (.type "str") zqf:=by
 intro A s ad W ps pv vs hr kin top S rv e E
 apply zfb e rv;intro p v e r
 apply Jb e r;intro i t e
 obtain ⟨h1,rfl⟩:=z0 e
 exact P.str_of_int h1 ⟨Gr.tok s _,zc3⟩
end
example:znq [50,69]=some 46:=by decide +kernel
end
section
section
variable {g:GC}{nm:Nat→Str}{k:Nat}{sc:Scope}
theorem Wd.set {ad:AD}{W:Sto}{h h':Heap}{i:Nat}{a:Addr}{l':List PV}{vs':Array Value} (w:Wd g ad W h) (ei:ad.m[i]? =some a) (pl:h'.PlainList a vs') (rs:zh g ad h' l' vs'.toList) (hs:Heap.SameBut a h h'):Wd g ad (W.set i l') h':=by
 have am:=xw ei
 have kp:∀ b o,ad.no b→h.get? b=some o→h'.get? b=some o:=fun b o n e=> hs.extBut b o (fun e'=> n.1 (e'▸am)) e
 have mv:Mv ad ad h h':=⟨fun b o n e=> kp b o n e,fun V V e=> e,fun V V V n=> n⟩
 refine ⟨fun b o e=> kp b o (w.kno b o e) (w.kin b o e),⟨w.top.g.at' fun o e=> kp _ o w.tno.1 e,w.top.b.at' fun o e=> kp _ o w.tno.2.1 e,let ⟨mc,q,r⟩:=w.top.nolimit;⟨mc,q.at' fun o e=> kp _ o w.tno.2.2 e,r⟩,w.top.builtins,w.top.free⟩,
  ⟨by rw [List.length_set];exact w.sto.len,w.sto.nd,fun b m=> let ⟨o,e⟩:=w.sto.ban b m;⟨o,hs.extBut b o (fun e'=> w.sto.dis b m (e'▸am)) e⟩,w.sto.dis,fun j b q e1 e2=> ?_⟩,w.kno,w.tno⟩
 by_cases hj:j=i
 ·subst hj
  rw [ei] at e1;cases e1
  have hlt:j < W.length:=by rw [←w.sto.len];exact (xe.mp ei).1
  rw [List.getElem?_set_self hlt] at e2;cases e2
  exact ⟨vs',pl,rs⟩
 ·rw [List.getElem?_set_ne (fun e=> hj e.symm)] at e2
  obtain ⟨vs,p,r⟩:=w.sto.at_ j b q e1 e2
  have hne:b≠a:=fun e=> by
   subst e
   obtain ⟨h1,h2⟩:=xe.mp e1;obtain ⟨h3,h4⟩:=xe.mp ei
   exact hj (zjw w.sto.nd h1 h3 (h2.trans h4.symm))
  exact ⟨vs,p.at fun o e=> hs.extBut b o hne e,zh.mv mv q _ r⟩
theorem NC.one {base:Nat}{ad:AD}{h h':Heap}{i:Nat}{a:Addr} (ei:ad.m[i]? =some a) (hi:base≤i) (hs:Heap.SameBut a h h') (al:∃ o,h'.get? a=some o):NC base ad ad h h':=
 ⟨fun b o hb e=> hs.extBut b o (fun e'=> by subst e';exact absurd (hb i ei) (Nat.not_lt.mpr hi)) e,fun V V e=> e,x9 _,fun j b e hj=> (by have:=(xe.mp e).1;lia),rfl,fun b o e=> by
  by_cases hb:b=a
  ·subst hb;exact al
  ·exact ⟨o,hs.extBut b o hb e⟩⟩
def Qm (base i:Nat) (W:Sto) (p:PV):Option Sto:=match W[i]? with
 | some l=> if (decide (base≤i) && ze (l.length + 1))=true then some (W.set i (l ++ [p])) else none
 | none=> none
theorem zsq {A:Around}{s:Shared}{ad:AD}{W W':Sto}{base i:Nat}{p:PV}{a:Addr}{v:Value}{Q:Value→Shared→Prop}{E:Value→Shared→Prop} (w:Wd g ad W s.heap) (ei:ad.m[i]? =some a) (r:zk g ad s.heap p v) (e:Qm base i W p=some W')
  (hQ:∀ h' tk,NC base ad ad s.heap h'→Wd g ad W' h'→Q .none {s with heap:=h',toks:=tk}):wpAny (model g.prog g.w) A (call (.builtin "list.append") [.ref a,v]) Q E s:=by
 unfold Qm at e
 cases el:W[i]? with
 | none=> rw [el] at e;cases e
 | some l=>
  rw [el] at e;simp only at e
  obtain ⟨h1,rfl⟩:=z0 e
  rw [xi] at h1
  obtain ⟨vs,pl,rs⟩:=w.sto.at_ i a l ei el
  have hfit:vs.size≤sizeLine:=by
   have h2:=zy h1.2;have:=rs.length;simp at this;lia
  refine wpAny_list_append_plain (hsz:=hfit) pl fun h' pl' hs=> ?_
  have al:∃ o,h'.get? a=some o:=let ⟨n,e⟩:=pl';⟨_,e⟩
  have am:=xw ei
  have mv:Mv ad ad s.heap h':=⟨fun b o n e=> hs.extBut b o (fun e'=> n.1 (e'▸am)) e,fun V V e=> e,fun V V V n=> n⟩
  refine hQ h' s.toks (NC.one ei (xx h1.1) hs al) (w.set ei pl' ?_ hs)
  rw [Array.toList_push]
  exact (zh.mv mv l _ rs).append (.cons (zk.mv mv p v r) .nil)
def Z2 (fo fe:Den):zcu:=fun base U W=> match fo U W,fe U W with
 | some (.mref i),some p=> (Qm base i W p).map fun W'=> (PV.none,W')
 | _,_=> none
theorem zmy {fo fe:Den}{base:Nat}{U:Ren}{W:Sto}{r:PV×Sto} (e:Z2 fo fe base U W=some r):∃ i p,fo U W=some (.mref i)∧fe U W=some p∧(Qm base i W p).map (fun W'=> (PV.none,W'))=some r:=by
 delta Z2 at e
 generalize fo U W=o at e⊢
 generalize fe U W=o2 at e⊢
 cases o with
 | none=> exact nn e
 | some p=>
  cases p with
  | mref i=>
   cases o2 with
   | none=> exact nn e
   | some q=> exact ⟨i,q,rfl,rfl,e⟩
  | _=> exact nn e
theorem SE.append {oe e:Expr}{apos pos:Pos}{fo fe:Den} (hm:Jl oe "append" apos pos [e] []) (ho:Snd g nm k sc oe fo) (h:Snd g nm k sc e fe) (hst:∀ env,starEach [e] env=[(false,eval e env)]):
  SE g nm k sc (.Call (.Attribute oe "append" apos) [e] [] pos) (Z2 fo fe):=by
 intro A env s ad base U W pv W' hr he F hx hp Q E hQ
 refine bc fun J=> ?_
 obtain ⟨i,p,eo,ea,hp⟩:=zmy hp
 obtain ⟨W1,e1,e2⟩:=xh.mp hp
 cases e2
 obtain ⟨pl,hm⟩:=hm
 refine J ?_
 refine methodCall_KW (pl:=pl env) ?_ (hm env)
 refine xp (ho A env s ad U W _ hr he hx eo E) (fun v s1 h1=> ?_) fun V V x=> x
 have x1:=hx.keeps h1.1.h
 have hlt:i < W.length:=by
  unfold Qm at e1
  cases el:W[i]? with
  | none=> rw [el] at e1;cases e1
  | some l=> exact (xe.mp el).1
 have hd:dr W (.mref i)= .lst W[i]:=by show (match W[i]? with | some l=> PV.lst l | none=> PV.mref i)=_;rw [xt hlt]
 refine zjs PySem.F.slot_list_append PySem.F.type_list_append A s1 ad W _ v _ _ _ x1.sto h1.2 (by rw [hd];rfl) ?_
 have L:jl g nm k sc [e] [fe]:=jl.cons h jl.nil hst
 refine Z0 hr he x1 (.blt _) L (pvs:=[p]) (zt ea rfl) (by rw [hst];rfl) fun vs s2 g2 r2=> ?_
 refine bc fun J=> ?_
 obtain ⟨v2,rfl,q2⟩:=r2.one
 have g12:=h1.1.trans g2
 have k12:=g12.h
 have r1:=h1.2
 obtain ⟨a,rfl,ei⟩:=r1
 have x2:=x1.keeps g2.h
 obtain ⟨h2,tk2,rfl⟩:=g12.eq
 refine J ?_
 dsimp only at k12 x2 q2
 refine zsq x2.wd ei q2 e1 fun h' tk n w=> ?_
 exact hQ .none h' tk ad ((Nx.of_keeps k12).trans n.nx) zff (x2.nc n w)
noncomputable def zaa (f:Den):Den:=fun U W=> match f U W with | some (.hdr i)=> some (.mref i) | _=> none
theorem zsu {f:Den}{U:Ren}{W:Sto}{pv:PV} (e:zaa f U W=some pv):∃ i,f U W=some (.hdr i)∧.mref i=pv:=by
 delta zaa at e
 generalize f U W=o at e⊢
 cases o with
 | none=> exact nn e
 | some p=>
  cases p with
  | hdr i=> exact ⟨i,rfl,Option.some.inj e⟩
  | _=> exact nn e
theorem Snd.attr {n:Str}{p0 pos:Pos}{f:Den} (H:HK g) (h:Snd g nm k sc (.Name n p0) f):Snd g nm k sc (.Attribute (.Name n p0) "_headers" pos) (zaa f):=by
 intro A env s ad U W pv hr he hx hp E
 obtain ⟨i,eo,rfl⟩:=zsu hp
 rw [arm_eval_Attribute]
 refine xa ?_
 show wpAny _ A (eval (.Name n p0) env) _ E s
 refine xp (h A env s ad U W _ hr he hx eo E) (fun v s1 h1=> ?_) fun V V x=> x
 have x1:=hx.keeps h1.1.h
 refine xa (wpAny_standAt ?_)
 have r1:=h1.2
 refine bc fun J=> ?_
 obtain ⟨x,d,a,rfl,_,_,ei,e1,hsh,t,nn,e2⟩:=r1
 refine J ?_
 refine xa (wpAny_holding ?_)
 refine get_value x1.kin (zrq e1 e2) H.ga (findObj_own (v:= .ref a) H.dict H.free rfl rfl) rfl ?_
 show wpAny _ A (do letTemporaryGo (.Name n p0) (.ref x) (.ref a);pure (Value.ref a)) _ E _
 refine xa (xg (xg ⟨h1.1.trans (Gr.tok s1 _), ?_⟩))
 exact ⟨a,rfl,ei⟩
end
end
set_option backward.match.sparseCases true
section
theorem zhx:Slot "method_descriptor" "__get__" "method_descriptor.__get__":=
 .of (owner:="method_descriptor") (n:="__get__") (by rw [typeLookup_type,builtinLookup_eq_fast];kernel_rfl) (by decide +kernel) (by decide +kernel) (by decide +kernel)
  (by first | exact .inl (by decide +kernel) | exact .inr (by decide +kernel)) (by rw [isSubtype_type];kernel_rfl)
theorem zm2:entryFor table "method_descriptor.__get__"=some Builtin.«method_descriptor.__get__»:=entryFor_of_tree (by kernel_rfl)
theorem zo3 (a b c:Value):argsOk "method_descriptor.__get__" ⟨[a,b,c],[]⟩:=by unfold argsOk;kernel_rfl
theorem znh:typeLookup (.type "list") "append"=pure (some (.builtin "list.append")):=by rw [typeLookup_type,builtinLookup_eq_fast];kernel_rfl
theorem zqc:".".intercalate ("list.append".cutAt '.').dropLast="list":=by decide +kernel
theorem zx7:isSubtype (.type "list") (.type "list")=pure true:=by rw [isSubtype_type];kernel_rfl
theorem zt5 {M:Model}{A:Around}{E:Value→Shared→Prop}{s:Shared}{P:Fin→Shared→Prop}{l:Addr}{xs:Array Value}{k:Nat} (hx:s.heap.get? l=some {cls:= .type "list",dict:=none,data:= .seq xs k,slots:=#[]})
  (h:P (.done (.ret (.ref s.heap.objs.size))) {s with heap:=s.heap.push (zbd l)}):
  wpAny M A (Builtin.«method_descriptor.__get__» ⟨[.builtin "list.append",.ref l,.type "list"],[]⟩) P E s:=by
 obtain ⟨hp,g,d,tk,os⟩:=s
 have hT:(⟨hp,g,d,tk,os⟩:Shared).TypeIs (.ref l) "list":=⟨_,hx,rfl⟩
 have f1:=zx7
 unfold Builtin.«method_descriptor.__get__»
 repeat (any_goals (first | assumption | wp_step))
 rw [zqc]
 repeat (any_goals (first | assumption | wp_step))
theorem z1t:True:=trivial
theorem zz0:typeLookup (.type "method_descriptor") "__get__"=pure (some (.builtin "method_descriptor.__get__")):=zhx.lookup
theorem zwz:typeLookup (.type "method_descriptor") "__set__"=pure none:=by rw [typeLookup_type,builtinLookup_eq_fast];kernel_rfl
theorem zwy:typeLookup (.type "method_descriptor") "__delete__"=pure none:=by rw [typeLookup_type,builtinLookup_eq_fast];kernel_rfl
theorem J6 (a:Addr) (xs:Array Value) (k:Nat) (u:Tok):
  Meets (Builtin.«object.__getattribute__» ⟨[.ref a,.str "append" u],[]⟩) (fun A R s=> s.heap.get? a=some {cls:= .type "list",dict:=none,data:= .seq xs k,slots:=#[]}∧R (.ok (.ret (.ref s.heap.objs.size))) {s with heap:=s.heap.push (zbd a)}):=
 Meets.of_wp fun prog w A R s hs=> by
  obtain ⟨hp,g,d,tk,os⟩:=s
  obtain ⟨hx,hs⟩:=hs
  have hT:(⟨hp,g,d,tk,os⟩:Shared).TypeIs (.ref a) "list":=⟨_,hx,rfl⟩
  have f1:=znh
  have f2:=zz0
  have f3:=zwz
  have f4:=zwy
  have f5:=PySem.F.type_list_append
  have f6:∀ s':Shared,s'.TypeIs (.builtin "list.append") "method_descriptor":=fun V=> f5
  unfold Builtin.«object.__getattribute__»
  repeat (any_goals (first | assumption | ((with_reducible show wpAny _ _ (call (Value.builtin "method_descriptor.__get__") _ _) _ _ _);refine wpAny_call_entry zhx (f6 _) zm2 (zt5 hx ⟨_,rfl,xg ⟨_,rfl,hs⟩⟩) (zo3 _ _ _)) | wp_step))
theorem zg0 {prog:Program}{w:World}{A:Around}{E:Value→Shared→Prop}{s:Shared}{a:Addr}{xs:Array Value}{k:Nat}{Q:Value→Shared→Prop}
  (hx:s.heap.get? a=some {cls:= .type "list",dict:=none,data:= .seq xs k,slots:=#[]})
  (h:Q (.ref s.heap.objs.size) {s with heap:=s.heap.push (zbd a),toks:=s.toks + 1}):
  wpAny (model prog w) A (getAttr (.ref a) "append" true) Q E s:=by
 obtain ⟨hp,g,d,tk,os⟩:=s
 have hT:∀ tk',(⟨hp,g,d,tk',os⟩:Shared).TypeIs (.ref a) "list":=fun V=> ⟨_,hx,rfl⟩
 have f3:=PySem.F.slot_list_getattribute.lookup
 have f4:=PySem.F.slot_list_getattribute.bind (.ref a)
 have f5:=am_list_getattr_none
 unfold getAttr getAttrBy
 repeat (any_goals (first | assumption | exact hT _ | ((with_reducible show wpAny _ _ (call (Value.builtin "list.__getattribute__") _ _) _ _ _);refine call_meets PySem.F.slot_list_getattribute (hT _) am_entry_list_getattribute (PySem.F.args_list_getattribute_2 _ _) (J6 a xs k _) ⟨hx, ?_⟩) | wp_step))
 show wpAny _ _ (handedOut _) _ _ _
 exact xg h
theorem zfq:isSubtype (.type "list") (.type "module")=pure false:=by rw [isSubtype_type];kernel_rfl
theorem ziq:isSubtype (.type "list") (.type "type")=pure false:=by rw [isSubtype_type];kernel_rfl
theorem z4q:Manifest.varargsMethods.contains "list.append"=false:=by decide +kernel
theorem zyj (l:Addr) (x:Value):Bind.checkArgs "list.append"
       {machinery:=Manifest.Machinery.oneArg,full:=toString (Bind.lastOf "list") ++ toString "." ++ toString (Bind.lastOf "list.append"),short:="append",receiver:=Manifest.Receiver.self,
          params:=[{name:="object",kind:=Manifest.ParamKind.posOnly,required:=true}]} ⟨[.ref l,x],[]⟩=pure ():=by kernel_rfl
theorem zkv {M:Model}{A:Around}{E:Value→Shared→Prop}{s:Shared}{Q:Unit→Shared→Prop}{l:Addr}{x:Value}{xs:Array Value}{k:Nat} (hx:s.heap.get? l=some {cls:= .type "list",dict:=none,data:= .seq xs k,slots:=#[]}) (h:Q () s):
  wpAny M A (checkBoundCall "list.append" ⟨[.ref l,x],[]⟩) Q E s:=by
 obtain ⟨hp,g,d,tk,os⟩:=s
 have hT:(⟨hp,g,d,tk,os⟩:Shared).TypeIs (.ref l) "list":=⟨_,hx,rfl⟩
 have f1:=zfq
 have f2:=ziq
 unfold checkBoundCall
 repeat (any_goals (first | assumption | wp_step))
theorem zqn {prog:Program}{w:World}{A:Around}{E:Value→Shared→Prop}{s:Shared}{l:Addr}{items:Array Value}{x:Value}{Q:Value→Shared→Prop} (hl:s.heap.PlainList l items)
  (hQ:∀ h',h'.PlainList l (items.push x)→Heap.SameBut l s.heap h'→Q .none {s with heap:=h'}) (hsz:items.size≤sizeLine):
  codeAny (model prog w) A (.builtin "list.append" ⟨[.ref l,x],[]⟩) (fun r s'=> match r with | .ok (.ret v)=> Q v s' | .ok _=> False | .error e=> E e s') s:=by
 obtain ⟨n,ho⟩:=hl
 refine codeAny_builtin entry_list_append ?_
 show wpAny _ _ (updateSeq l (·.push x) >>=fun V=> ret .none) _ _ s
 refine xa ?_
 refine wpAny_updateSeq ho rfl (xg (hQ _ ⟨n + 1, ?_⟩ (Heap.SameBut.update ..)))
 rw [Heap.get?_update_self _ ho (by rw [Obj.mapSeq_push_plain];rfl),Obj.mapSeq_push_plain]
theorem zo7:(Value.type "builtin_function_or_method"==Value.type "method" || Value.type "builtin_function_or_method"==Value.type "builtin_function_or_method" || Value.type "builtin_function_or_method"==Value.type "method-wrapper")=true:=by decide
theorem zsr:(Value.type "builtin_function_or_method" !=Value.type "method")=true:=by decide
theorem zo9 {prog:Program}{w:World}{A:Around}{E:Value→Shared→Prop}{s:Shared}{l x:Addr}{items:Array Value}{v:Value}{Q:Value→Shared→Prop} (hx:s.heap.get? x=some (zbd l)) (hl:s.heap.PlainList l items)
  (hQ:∀ h',h'.PlainList l (items.push v)→Heap.SameBut l s.heap h'→Q .none {s with heap:=h'}) (hsz:items.size≤sizeLine):wpAny (model prog w) A (call (.ref x) [v]) Q E s:=by
 refine wpAny_call (codeAny_of_tree ?_)
 show wpAny _ _ (callAny (.ref x) ⟨[v],[]⟩) _ _ s
 unfold callAny
 refine xa (wpAny_load hx ?_)
 simp only [zbd,zo7,zsr,if_true]
 obtain ⟨n,ho⟩:=id hl
 refine xa (zkv ho ?_)
 exact xg ⟨Code.quiet_builtin _ (by decide +kernel),zqn hl hQ hsz⟩
section
variable {g:GC}{nm:Nat→Str}{k:Nat}{sc:Scope}
noncomputable def zda (f:Den):Den:=fun U W=> match f U W with | some (.mref i)=> if i < W.length then some (.app i) else none | _=> none
theorem zpc {f:Den}{U:Ren}{W:Sto}{pv:PV} (e:zda f U W=some pv):∃ i,f U W=some (.mref i)∧(if i < W.length then some (PV.app i) else none)=some pv:=by
 delta zda at e
 generalize f U W=o at e⊢
 cases o with
 | none=> exact nn e
 | some p=>
  cases p with
  | mref i=> exact ⟨i,rfl,e⟩
  | _=> exact nn e
theorem Snd.bound {n:Str}{p0 pos:Pos}{f:Den} (h:Snd g nm k sc (.Name n p0) f):Snd g nm k sc (.Attribute (.Name n p0) "append" pos) (zda f):=by
 intro A env s ad U W pv hr he hx hp E
 obtain ⟨i,eo,hp⟩:=zpc hp
 obtain ⟨hlt,rfl⟩:=z0 hp
 rw [arm_eval_Attribute]
 refine xa ?_
 show wpAny _ A (eval (.Name n p0) env) _ E s
 refine xp (h A env s ad U W _ hr he hx eo E) (fun v s1 h1=> ?_) fun V V x=> x
 have x1:=hx.keeps h1.1.h
 refine xa (wpAny_standAt ?_)
 have r1:=h1.2
 obtain ⟨a,rfl,ei⟩:=r1
 obtain ⟨vs,⟨kk,pl⟩,rs⟩:=x1.sto.at_ i a _ ei (xt hlt)
 refine xa (wpAny_holding ?_)
 refine zg0 pl ?_
 refine xa (xg (xg ⟨h1.1.trans (Gr.of_heap fun b o e=> xb _ e), ?_⟩))
 exact ⟨_,a,rfl,x1.sto.fresh (get?_size _),ei,xj _ rfl⟩
theorem zks {A:Around}{s:Shared}{ad:AD}{W W':Sto}{base i:Nat}{p:PV}{a x:Addr}{v:Value}{Q:Value→Shared→Prop}{E:Value→Shared→Prop} (w:Wd g ad W s.heap) (hx:s.heap.get? x=some (zbd a)) (ei:ad.m[i]? =some a) (r:zk g ad s.heap p v) (e:Qm base i W p=some W')
  (hQ:∀ h' tk,NC base ad ad s.heap h'→Wd g ad W' h'→Q .none {s with heap:=h',toks:=tk}):wpAny (model g.prog g.w) A (call (.ref x) [v]) Q E s:=by
 unfold Qm at e
 cases el:W[i]? with
 | none=> rw [el] at e;cases e
 | some l=>
  rw [el] at e;simp only at e
  obtain ⟨h1,rfl⟩:=z0 e
  rw [xi] at h1
  obtain ⟨vs,pl,rs⟩:=w.sto.at_ i a l ei el
  have hfit:vs.size≤sizeLine:=by
   have h2:=zy h1.2;have:=rs.length;simp at this;lia
  refine zo9 hx pl (fun h' pl' hs=> ?_) hfit
  have al:∃ o,h'.get? a=some o:=let ⟨n,e⟩:=pl';⟨_,e⟩
  have am:=xw ei
  have mv:Mv ad ad s.heap h':=⟨fun b o n e=> hs.extBut b o (fun e'=> n.1 (e'▸am)) e,fun V V e=> e,fun V V V n=> n⟩
  refine hQ h' s.toks (NC.one ei (xx h1.1) hs al) (w.set ei pl' ?_ hs)
  rw [Array.toList_push]
  exact (zh.mv mv l _ rs).append (.cons (zk.mv mv p v r) .nil)
theorem zkx {A:Around}{s:Shared}{u l:Addr}{pos:Pos}{first:List Value}{args:List (Bool×Sem Value)}{Q:Value→Shared→Prop}{E:Value→Shared→Prop}{M:Model} (hplain:args.any (·.1)=false)
  (h:wpAny M A (evalArgs (.ref u) true args []) (fun x s₁=> s₁.heap.get? u=some (zbd l)∧wpAny M A (call (.ref u) (first ++ x.pos) x.kw) Q E s₁) E s):wpAny M A (callWith pos (.ref u) first args []) Q E s:=by
 exact callWith_of (P:=fun h=> h.get? u=some (zbd l)) (by rw [hplain];rfl) (fun h ho=> ⟨.machine,.inr (.inl rfl),(Looks.ld (part:=none) ho).andThen (Looks.of_pure (by rfl))⟩) h
def zby (fo fe:Den):zcu:=fun base U W=> match fo U W,fe U W with
 | some (.app i),some p=> (Qm base i W p).map fun W'=> (PV.none,W')
 | _,_=> none
theorem zvz {fo fe:Den}{base:Nat}{U:Ren}{W:Sto}{r:PV×Sto} (e:zby fo fe base U W=some r):∃ i p,fo U W=some (.app i)∧fe U W=some p∧(Qm base i W p).map (fun W'=> (PV.none,W'))=some r:=by
 delta zby at e
 generalize fo U W=o at e⊢
 generalize fe U W=o2 at e⊢
 cases o with
 | none=> exact nn e
 | some p=>
  cases p with
  | app i=>
   cases o2 with
   | none=> exact nn e
   | some q=> exact ⟨i,q,rfl,rfl,e⟩
  | _=> exact nn e
theorem SE.app {n:Str}{e:Expr}{p0 pos:Pos}{fo fe:Den} (ho:Snd g nm k sc (.Name n p0) fo) (h:Snd g nm k sc e fe) (hst:∀ env,starEach [e] env=[(false,eval e env)]):
  SE g nm k sc (.Call (.Name n p0) [e] [] pos) (zby fo fe):=by
 intro A env s ad base U W pv W' hr he F hx hp Q E hQ
 obtain ⟨i,p,eo,ea,hp⟩:=zvz hp
 obtain ⟨W1,e1,e2⟩:=xh.mp hp
 cases e2
 refine Call_Name rfl ?_
 refine xp (ho A env s ad U W _ hr he hx eo E) (fun v s1 h1=> ?_) fun V V x=> x
 have x1:=hx.keeps h1.1.h
 have r1:=h1.2
 obtain ⟨x,a,rfl,nx,ei,hob⟩:=r1
 rw [hst]
 refine zkx (l:=a) rfl (evalArgs_plain ?_)
 have L:jl g nm k sc [e] [fe]:=jl.cons h jl.nil hst
 have key:=L pos A env s1 ad U W [p] hr he x1 (zt ea rfl) E
 rw [hst] at key
 refine xp key (fun vs s2 h2=> ?_) fun V V x=> x
 obtain ⟨g2,r2⟩:=h2
 obtain ⟨v2,rfl,q2⟩:=r2.one
 have g12:=h1.1.trans g2
 have k12:=g12.h
 have x2:=x1.keeps g2.h
 have hob2:=g2.h _ _ hob
 obtain ⟨h2,tk2,rfl⟩:=g12.eq
 dsimp only at k12 x2 q2 hob2⊢
 refine ⟨hob2,zks x2.wd hob2 ei q2 e1 fun h' tk n w=> ?_⟩
 exact hQ .none h' tk ad ((Nx.of_keeps k12).trans n.nx) zff (x2.nc n w)
end
end
set_option backward.match.sparseCases false
section
section
variable {g:GC}{nm:Nat→Str}{k:Nat}{sc:Scope}
def znt (W:Sto) (p:PV):Option String:=match dr W p with
 | .str _=> some "str"
 | .lst _=> some "list"
 | .none=> some "NoneType"
 | _=> none
def zbr (T:String) (f:Den):q7:=fun U W=> match f U W with | some p=> (znt W p).map fun t=> (Value.type t==Value.type T) | none=> none
theorem zol {ad:AD}{s:Shared}{W:Sto}{p:PV}{v:Value}{T:String} (S:StoreOk g ad W s.heap) (r:zk g ad s.heap p v) (e:znt W p=some T):s.TypeIs v T∧(Value.type T==Value.type "builtin_function_or_method")=false:=by
 cases p with
 | str l=> obtain ⟨t,rfl⟩:=r.str_inv;cases si e;exact ⟨typeIs_str _ _ _,by decide⟩
 | lst l=>
  obtain ⟨a,vs,rfl,⟨n,pl⟩,_⟩:=zd4 S r (rfl:dr W (.lst l)= .lst l)
  cases si e;exact ⟨⟨_,pl,rfl⟩,by decide⟩
 | none=> cases r.none_inv;cases si e;exact ⟨rfl,by decide⟩
 | mref i=>
  delta znt at e
  generalize hd:dr W (.mref i)=q at e
  have hd:(match W[i]? with | some l=> PV.lst l | none=> PV.mref i)=q:=hd
  cases ei:W[i]? with
  | none=> rw [ei] at hd;subst hd;exact nn e
  | some l=>
   rw [ei] at hd;subst hd;cases si e
   obtain ⟨a,vs,rfl,⟨n,pl⟩,_⟩:=zd4 S r (show (match W[i]? with | some l=> PV.lst l | none=> PV.mref i)= .lst l by rw [ei])
   exact ⟨⟨_,pl,rfl⟩,by decide⟩
 | _=> exact nn e
theorem zkg {e:Expr}{T:String}{n:Str}{p0 p1 pos pos':Pos}{op:CmpOp}{f:Den} (ht:sc.names.lookup ("type":Str)=some .globalImplicit) (Gt:IsGlob g "type" (.type "type")) (hn:sc.names.lookup n=some .globalImplicit) (Gn:IsGlob g n (.type T)) (hd:(n==("__debug__":Str))=false)
  (h:Snd g nm k sc e f) (hst:∀ env,starEach [e] env=[(false,eval e env)]) (hm:behindInMarks op (.Name n p1)=false) {neg:Bool} (hop:∀ a b,compareOp op (.type a) (.type b)=pure (.bool ((Value.type a==Value.type b) !=neg))):
  ST g nm k sc (.Compare (.Call (.Name "type" p0) [e] [] pos') [op] [.Name n p1] pos) (fun U W=> (zbr T f U W).map fun b=> b !=neg):=by
 intro A env s ad U W b hr he hx hp E
 obtain ⟨b0,hb,rfl⟩:=xh.mp hp
 unfold zbr at hb
 cases e1:f U W with
 | none=> rw [e1] at hb;cases hb
 | some p=>
 rw [e1] at hb;simp only at hb
 obtain ⟨t,e2,rfl⟩:=xh.mp hb
 refine wpAny_isTrue_Compare1 ?_ hm
 have L:jl g nm k sc [e] [f]:=jl.cons h jl.nil hst
 refine Zc hr he hx ht Gt (.type _) L (pvs:=[p]) (zt e1 rfl) (by rw [hst];rfl) (by decide) fun vs s1 g1 r1=> ?_
 obtain ⟨v,rfl,r⟩:=r1.one
 have x1:=hx.keeps g1.h
 obtain ⟨hT,hnb⟩:=zol x1.sto r e2
 refine call_type_of hT hnb ?_
 refine zev he x1.kin x1.top hn Gn hd ?_
 rw [hop]
 exact xg (wpAny_truthy_bool ⟨g1,rfl⟩)
theorem zzr (a b:String):compareOp .Is (.type a) (.type b)=pure (.bool ((Value.type a==Value.type b) !=false)):=by
 rw [Bool.bne_false];rfl
theorem zpz (a b:String):compareOp .IsNot (.type a) (.type b)=pure (.bool ((Value.type a==Value.type b) !=true)):=by
 rw [Bool.bne_true];rfl
noncomputable def zaj (g:GC) (v:Value) (p:PV):Prop:=∀ (ad:AD) (h:Heap),g.K.In h→(∀ a o,g.K.lookup a=some o→ad.no a)→zk g ad h p v
theorem Snd.glob {n:Str}{v:Value}{p:PV}{pos:Pos} (hn:sc.names.lookup n=some .globalImplicit) (G:IsGlob g n v) (hd:(n==("__debug__":Str))=false) (K:zaj g v p):Snd g nm k sc (.Name n pos) (dC p):=by
 intro A env s ad U W pv hr he hx hp E
 cases hp
 exact zev he hx.kin hx.top hn G hd ⟨Gr.refl s,K ad s.heap hx.kin hx.kno⟩
theorem zaj.raw {a:Addr}:zaj g (.ref a) (.raw a):=fun V V V V=> by rfl
theorem zaj.str {l:List Nat}{x:Str}{t:Tok} (e:x=⟨l.toArray⟩):zaj g (.str x t) (.str l):=fun V V V V=> ze0 e
noncomputable def zbq:Value→Option (List Nat)
 | .str x _=> some x.cps.toList
 | _=> none
theorem zfh {ad:AD}{h:Heap}:∀ (vs:List Value) (ls:List (List Nat)),vs.mapM zbq=some ls→zh g ad h (ls.map .str) vs
 | [],ls,e=> by cases e;exact .nil
 | v::vs,ls,e=> by
  rw [List.mapM_cons] at e
  cases e1:zbq v with
  | none=> rw [e1] at e;cases e
  | some l=>
   rw [e1] at e
   cases e2:vs.mapM zbq with
   | none=> rw [e2] at e;cases e
   | some ls'=>
    rw [e2] at e;cases e
    refine .cons ?_ (zfh vs ls' e2)
    cases v with
    | str x t=> cases si e1;exact zc3
    | _=> exact nn e1
theorem zaj.list {a:Addr}{vs:Array Value}{n:Nat}{ls:List (List Nat)} (e:g.K.lookup a=some {cls:= .type "list",data:= .seq vs n}) (el:vs.toList.mapM zbq=some ls):zaj g (.ref a) (.lst (ls.map .str)):=fun ad h kin kno=> by
 exact ⟨a,vs,rfl,kno a _ e,⟨n,kin a _ e⟩,zfh _ _ el⟩
noncomputable def Jp (f:Den) (y z:List Nat):Den:=fun U W=> match f U W with
 | some (.str x)=> if (!(y==z)) && decide (x.length + (x.length + 1) * z.length≤16777216) then some (.str (Txt.replace (mk x) (mk y) (mk z)).cps.toList) else none
 | _=> none
theorem zk7 {f:Den}{y z:List Nat}{U:Ren}{W:Sto}{pv:PV} (e:Jp f y z U W=some pv):∃ x,f U W=some (.str x)∧(if (!(y==z)) && decide (x.length + (x.length + 1) * z.length≤16777216) then some (PV.str (Txt.replace (mk x) (mk y) (mk z)).cps.toList) else none)=some pv:=by
 delta Jp at e
 generalize f U W=o at e⊢
 cases o with
 | none=> exact nn e
 | some p=>
  cases p with
  | str x=> exact ⟨x,rfl,e⟩
  | _=> exact nn e
theorem zmj.replace {z:Prop} (hz:z) {oe:Expr}{apos pos p1 p2:Pos}{f:Den}{y w:List Nat}{y' w':Str}{x1 x2:Nat} (hm:Jl oe "replace" apos pos [.Constant (.str y') x1 p1,.Constant (.str w') x2 p2] []) (ho:Snd g nm k sc oe f) (ey:y'=mk y) (ew:w'=mk w):
  zmj z g nm k sc (.Call (.Attribute oe "replace" apos) [.Constant (.str y') x1 p1,.Constant (.str w') x2 p2] [] pos) (Jp f y w):=by
 intro A env s ad U W pv h0 hr he hx hp E
 obtain ⟨x,eo,hp⟩:=zk7 hp
 obtain ⟨h1,rfl⟩:=z0 hp
 rw [xi] at h1
 obtain ⟨pl,hm⟩:=hm
 refine methodCall_KW (pl:=pl env) ?_ (hm env)
 refine xp (zh9 (ho A env s ad U W _ hr he hx eo E)) (fun v s1 h2=> ?_) fun V V x=> x
 obtain ⟨ht,g1,r1⟩:=h2
 have hpos:0 < s1.toks:=Nat.lt_of_lt_of_le (h0 hz) ht
 obtain ⟨t,rfl⟩:=r1
 refine GM.of _ (typeIs_str _ _ _) PySem.F.slot_str_replace PySem.F.type_str_replace GM.noRef ?_
 refine callWith_of (P:=fun V=> True) rfl (fun h V=> ⟨.machine,.inr (.inl rfl),Looks.of_pure rfl⟩) ?_
 refine evalArgs_plain (spliced_cons (Constant_str (pos:=p1) (k:=x1) (spliced_cons (Constant_str (pos:=p2) (k:=x2) (spliced_nil ⟨trivial, ?_⟩)))))
 show wpAny _ A (call (.builtin "str.replace") [.str _ t,.str y' s1.toks,.str w' (s1.toks + 1)]) _ E _
 rw [ey,ew]
 have hne:(mk y==mk w)=false:=by
  have:=h1.1
  rw [←SeqAt.str_beq]
  simpa using this
 refine SC.replace (Nat.pos_iff_ne_zero.mp hpos) (Nat.succ_ne_zero _) (Nat.ne_of_lt (Nat.lt_succ_self _)) hne (by rw [z8,z8];exact xx h1.2) fun t' k=> ⟨g1.trans ⟨⟨_,_,rfl⟩,fun V V e=> e⟩,zc3⟩
end
end
section
structure ZI (g:GC) where
 I:Addr
 fp:List Addr
 its:List PV
 St:AD→Nat→Heap→Prop
 src:Src g I fp its St
noncomputable def qh (vs:Array Value):Obj:={cls:= .type "tuple",data:= .seq vs}
noncomputable def zIs {g:GC} (zs:List (ZI g)):List Addr:=zs.map (·.I)
structure ZAp {g:GC} (z TI TO:Addr) (zs:List (ZI g)):Prop where
 nd:(z::TI::TO::zIs zs).Nodup
 fp:∀ Z∈zs,∀ b∈Z.fp,b∉z::TI::TO::zIs zs
structure ZOk {g:GC} (ad:AD) (i:Nat) (h:Heap) (zs:List (ZI g)):Prop where
 st:∀ Z∈zs,Z.St ad i h
theorem zc5 {α:Type}:∀ (l:List α) (j:Nat) (v:α),j < l.length→(l.set j v).take (j + 1)=l.take j ++ [v]
 | [],j,v,h=> by simp at h
 | a::l,0,v,_=> by simp
 | a::l,j + 1,v,h=> by simp [zc5 l j v (by simpa using h)]
section
variable {g:GC}{A:Around}{E:Value→Shared→Prop}
theorem ZI.mem_I {zs:List (ZI g)}{Z:ZI g} (h:Z∈zs):Z.I∈zIs zs:=xr.mpr ⟨Z,h,rfl⟩
theorem ZI.frame {Z:ZI g}{ad:AD}{i:Nat}{h h':Heap}{b:Addr} (st:Z.St ad i h) (hb:b∈ad.b) (hs:Heap.SameBut b h h') (al:∃ o,h'.get? b=some o) (h1:b≠Z.I) (h2:b∉Z.fp):Z.St ad i h':=
 Z.src.frame ad ad i h h' st (Stays.but hb hs.extBut al) fun c hc o e=> hs.extBut c o (fun e'=> by
  subst e'
  rcases hc with rfl | hc
  ·exact h1 rfl
  ·exact h2 hc) e
theorem zop {n:Nat}{β:Type}{f:Value×Nat→β→Sem (ForInStep β)}{b0:β}{z TI TO:Addr}{E1:Value→Shared→Prop}
  (hstep:∀ (it:Value) (k:Nat) (s:Shared) (Q:ForInStep β→Shared→Prop),wpAny (model g.prog g.w) A (Builtin.SmallTypes.nextOf it) (fun v s1=> ∃ vs,vs.size=n∧s1.heap.get? TO=some (qh vs)∧∀ h',h'.get? TO=some (qh (vs.setIfInBounds k v))→Heap.SameBut TO s1.heap h'→Q (.yield b0) {s1 with heap:=h'}) E1 s→wpAny (model g.prog g.w) A (f (it,k) b0) Q E s)
  {ad:AD}{i:Nat} (hA:A.handled=none) (hTO:TO∈ad.b) (Q:β→Shared→Prop) (zs:List (ZI g)) (Ap:ZAp z TI TO zs):
  ∀ (rem dn:List (ZI g)) (j:Nat),zs=dn ++ rem→j=dn.length→∀ (s:Shared) (vs:Array Value) (ps qs:List PV),ZOk ad (i + 1) s.heap dn→ZOk ad i s.heap rem→s.heap.get? TO=some (qh vs)→vs.size=n→zs.length=n→zh g ad s.heap ps (vs.toList.take j)→
   (rem.mapM fun Z=> Z.its[i]?)=some qs→
   (∀ h' tk vs',ZOk ad (i + 1) h' zs→h'.get? TO=some (qh vs')→vs'.size=n→zh g ad h' (ps ++ qs) vs'.toList→(∀ b o,b≠TO→b∉zIs zs→s.heap.get? b=some o→h'.get? b=some o)→h'.objs.size=s.heap.objs.size→Q b0 {s with heap:=h',toks:=tk})→
   wpAny (model g.prog g.w) A (forIn ((rem.map fun Z=> Value.ref Z.I).zipIdx j) b0 f) Q E s
 | [],dn,j,hz,hj,s,vs,ps,qs,h1,h2,hT,hn,hzn,r,em,hQ=> by
  simp only [List.mapM_nil] at em
  cases em
  simp only [List.map_nil,List.zipIdx_nil,List.forIn_nil]
  rw [List.append_nil] at hz;subst hz
  refine xg (hQ s.heap s.toks vs h1 hT hn ?_ (fun V V V V e=> e) rfl)
  have:vs.toList.take j=vs.toList:=List.take_of_length_le (by simp;lia)
  rw [this] at r
  rw [List.append_nil];exact r
 | Z::rem,dn,j,hz,hj,s,vs,ps,qs,h1,h2,hT,hn,hzn,r,em,hQ=> by
  simp only [List.mapM_cons] at em
  cases ep:Z.its[i]? with
  | none=> rw [ep] at em;cases em
  | some p=>
  rw [ep] at em
  cases eq:(rem.mapM fun Z=> Z.its[i]?) with
  | none=> rw [eq] at em;cases em
  | some qs'=>
  rw [eq] at em;cases em
  have hZ:Z∈zs:=by rw [hz];simp
  have hZT:Z.I≠TO:=fun e=> by
   have:=Ap.nd
   simp only [List.nodup_cons] at this
   exact this.2.2.1 (e▸ZI.mem_I hZ)
  have hTfp:∀ Y∈zs,TO∉Y.fp:=fun Y hY m=> Ap.fp Y hY TO m (by simp)
  have hTI:∀ Y∈zs,TO≠Y.I:=fun Y hY e=> by
   have:=Ap.nd
   simp only [List.nodup_cons] at this
   exact this.2.2.1 (e▸ZI.mem_I hY)
  have hIfp:∀ Y∈zs,Z.I∉Y.fp:=fun Y hY m=> Ap.fp Y hY Z.I m (by simp [ZI.mem_I hZ])
  have hndI:(zIs zs).Nodup:=by have:=Ap.nd;simp only [List.nodup_cons] at this;exact this.2.2.2
  have hIne:(∀ Y∈dn,Z.I≠Y.I)∧(∀ Y∈rem,Z.I≠Y.I):=by
   rw [hz] at hndI
   unfold zIs at hndI
   rw [List.map_append,List.map_cons,List.nodup_append] at hndI
   refine bc fun J=> ?_
   obtain ⟨n1,n2,n3⟩:=hndI
   refine J ?_
   refine ⟨fun Y hY e=> n3 Y.I (xr.mpr ⟨Y,hY,rfl⟩) Z.I (xk) e.symm,fun Y hY e=> ?_⟩
   rw [List.nodup_cons] at n2
   exact n2.1 (e▸xr.mpr ⟨Y,hY,rfl⟩)
  simp only [List.map_cons,List.zipIdx_cons,List.forIn_cons]
  have hIb:=(Z.src.typ _ _ _ (h2.st Z xk)).1
  refine xa (hstep _ _ _ _ (Z.src.nextOf hA ep (h2.st Z xk) fun v h₁ tk₁ st₁ r₁ hs₁=> ?_))
  have hT₁:h₁.get? TO=some (qh vs):=hs₁.extBut _ _ hZT.symm hT
  have al1:∃ o,h₁.get? Z.I=some o:=let ⟨_,o,_,ho,_⟩:=Z.src.typ _ _ _ st₁;⟨o,ho⟩
  refine ⟨vs,hn,hT₁,fun h₂ hT₂ hs₂=> ?_⟩
  have hs₂':Heap.SameBut TO h₁ h₂:=hs₂
  have sx1:Stays ad ad s.heap h₁:=Stays.but hIb hs₁.extBut al1
  have sx2:Stays ad ad h₁ h₂:=Stays.but hTO hs₂'.extBut ⟨_,hT₂⟩
  have mem_dn:∀ Y∈dn,Y∈zs:=fun Y hY=> by rw [hz];simp [hY]
  have mem_rem:∀ Y∈rem,Y∈zs:=fun Y hY=> by rw [hz];simp [hY]
  have hjl:j < vs.size:=by rw [hn,←hzn,hz,hj];simp
  refine zop hstep hA hTO Q zs Ap rem (dn ++ [Z]) (j + 1) (by rw [hz];simp) (by rw [hj];simp) _ (vs.setIfInBounds j v) (ps ++ [p]) qs' ⟨fun Y hY=> ?_⟩ ⟨fun Y hY=> ?_⟩ hT₂ (by simpa using hn) hzn ?_ eq fun h' tk vs' a1 a2 a3 a4 a5 a6=> ?_
  ·rcases List.mem_append.mp hY with hY | hY
   ·exact ZI.frame (ZI.frame (h1.st Y hY) hIb hs₁ al1 (hIne.1 Y hY) (hIfp Y (mem_dn Y hY))) hTO hs₂' ⟨_,hT₂⟩ (hTI Y (mem_dn Y hY)) (hTfp Y (mem_dn Y hY))
   ·simp at hY;subst hY
    exact ZI.frame st₁ hTO hs₂' ⟨_,hT₂⟩ (hTI Y hZ) (hTfp Y hZ)
  ·exact ZI.frame (ZI.frame (h2.st Y (xf _ hY)) hIb hs₁ al1 (hIne.2 Y hY) (hIfp Y (mem_rem Y hY))) hTO hs₂' ⟨_,hT₂⟩ (hTI Y (mem_rem Y hY)) (hTfp Y (mem_rem Y hY))
  ·rw [Array.toList_setIfInBounds,zc5 _ _ _ (by simpa using hjl)]
   exact (zh.stays (sx1.trans sx2) ps _ r).append (.cons (zk.stays sx2 p v r₁) .nil)
  ·refine hQ h' tk vs' a1 a2 a3 (by simpa using a4) (fun b o h1 h2 e=> a5 b o h1 h2 (hs₂'.extBut b o h1 (hs₁.extBut b o (fun e'=> h2 (e'▸ZI.mem_I hZ)) e))) ?_
   rw [a6];show h₂.objs.size=_;rw [hs₂'.1,hs₁.1]
end
end
section
noncomputable def zcf {g:GC} (zs:List (ZI g)):List Value:=zs.map fun Z=> .ref Z.I
def zWr {g:GC} (z TI TO:Addr) (zs:List (ZI g)):List Addr:=z::TI::TO::zIs zs
section
variable {g:GC}{A:Around}{E:Value→Shared→Prop}{s:Shared}{z TI TO:Addr}{zs:List (ZI g)}{ad:AD}{i:Nat}
theorem ZAp.ne (Ap:ZAp z TI TO zs):z≠TI∧z≠TO∧TI≠TO∧(∀ Z∈zs,Z.I≠z∧Z.I≠TI∧Z.I≠TO):=by
 have:=Ap.nd
 simp only [List.nodup_cons,List.mem_cons,not_or] at this
 refine bc fun J=> ?_
 obtain ⟨⟨a,b,c⟩,⟨d,e⟩,f,_⟩:=this
 refine J ?_
 exact ⟨a,b,d,fun Z hZ=> ⟨fun h=> c (h▸ZI.mem_I hZ),fun h=> e (h▸ZI.mem_I hZ),fun h=> f (h▸ZI.mem_I hZ)⟩⟩
theorem ZOk.frame {h h':Heap}{b:Addr} (o:ZOk ad i h zs) (Ap:ZAp z TI TO zs) (hm:b=z∨b=TI∨b=TO) (hb:b∈ad.b) (hs:Heap.ExtBut b h h') (al:∃ o,h'.get? b=some o):ZOk ad i h' zs:=
 ⟨fun Z hZ=> Z.src.frame ad ad i h h' (o.st Z hZ) (Stays.but hb hs al) fun c hc ob e=> hs c ob (fun e'=> by
  subst e'
  obtain ⟨_,_,_,n⟩:=Ap.ne
  rcases hc with rfl | hc
  ·obtain ⟨n1,n2,n3⟩:=n Z hZ
   rcases hm with h | h | h
   ·exact n1 h
   ·exact n2 h
   ·exact n3 h
  ·refine Ap.fp Z hZ c hc ?_
   rcases hm with h | h | h <;> simp [h]) e⟩
theorem zyi (Ap:ZAp z TI TO zs) (hne:zs≠[]) (hlen:zs.length≤100) {vs:Array Value}{qs:List PV}{Q:Value→Shared→Prop} (hA:A.handled=none) (hzb:z∈ad.b) (hTOb:TO∈ad.b)
  (hz:IsZip s.heap z TI TO .none) (hTI:s.heap.get? TI=some (qh (zcf zs).toArray)) (hTO:s.heap.get? TO=some (qh vs)) (hvs:vs.size=zs.length) (st:ZOk ad i s.heap zs) (em:(zs.mapM fun Z=> Z.its[i]?)=some qs)
  (hQ:∀ h' tk (T:Addr) vs',IsZip h' z TI TO (rawInt T)→h'.get? TI=some (qh (zcf zs).toArray)→h'.get? TO=some (qh vs')→vs'.size=zs.length→ZOk ad (i + 1) h' zs→h'.get? T=some (qh vs')→s.heap.get? T=none→zh g ad h' qs vs'.toList→
   (∀ b o,b∉zWr z TI TO zs→s.heap.get? b=some o→h'.get? b=some o)→Q (.ref T) {s with heap:=h',toks:=tk}):
  wpAny (model g.prog g.w) A (Builtin.«zip.__next__» ⟨[.ref z],[]⟩) (fun fin s'=> ∃ v,fin= .done (.ret v)∧Q v s') E s:=by
 refine bc fun J=> ?_
 obtain ⟨nzTI,nzTO,nTITO,nI⟩:=Ap.ne
 refine J ?_
 show wpAny _ _ (field (.ref z) 2 >>=_) _ _ _
 refine xa (wpAny_field hz rfl (x:= .bool false) rfl ?_)
 show wpAny _ _ (field (.ref z) 3 >>=_) _ _ _
 refine xa (wpAny_field hz rfl (x:= .ref TI) rfl ?_)
 refine xa (wpAny_seqItems hTI rfl ?_)
 dsimp only
 refine Qs (by cases zs with | nil=> exact absurd rfl hne | cons a b=> simp [zcf]) ?_
 refine xa ?_
 unfold Builtin.SmallTypes.ownedTupleIsFree
 refine xa (wpAny_field hz rfl (x:= .none) rfl (xg ?_))
 refine J4 rfl ?_
 refine xa (wpAny_rule ?_)
 refine xa (wpAny_field hz rfl (x:= .ref TO) rfl ?_)
 refine xa (wpAny_setField_rec hz (by simp) fun h₁ hz₁ hs₁=> ?_)
 replace hz₁:IsZip h₁ z TI TO .ellipsis:=hz₁
 refine xa ?_
 have st₁:ZOk ad i h₁ zs:=st.frame Ap (.inl rfl) hzb hs₁.extBut ⟨_,hz₁⟩
 have hTO₁:h₁.get? TO=some (qh vs):=hs₁.extBut _ _ nzTO.symm hTO
 have hTI₁:h₁.get? TI=some (qh (zcf zs).toArray):=hs₁.extBut _ _ nzTI.symm hTI
 refine zop (n:=zs.length) (E1:=fun e s1=> wpAny (model g.prog g.w) A (setField (.ref z) 0 .none) (fun V=> E e) E s1) (fun it k s' Q' hq=> ?_) hA hTOb _ zs Ap zs [] 0 rfl rfl {s with heap:=h₁} vs [] qs ⟨fun V h=> by cases h⟩ st₁ hTO₁ hvs rfl .nil em fun h₂ tk₂ vs₂ a1 a2 a3 a4 a5 a6=> ?_
 ·refine xa (wpAny_onRaise ?_)
  show wpAny _ _ (Builtin.SmallTypes.nextOf it >>=fun v=> pure (some v)) _ _ _
  refine xa (xp hq (fun v s1 h1=> xg ?_) fun V V x=> x)
  obtain ⟨vs1,hn1,hT1,h1⟩:=h1
  refine xa (wpAny_seqItems hT1 rfl ?_)
  refine xa (wpAny_updateSeq hT1 rfl ?_ (by rw [hn1,sizeLine_eq];lia) (by rw [Array.size_setIfInBounds,hn1,sizeLine_eq];lia))
  refine xa (wpAny_letGo (xg (h1 _ ?_ (Heap.SameBut.update ..))))
  rw [Heap.get?_update_self _ hT1 rfl]
  simp [Obj.mapSeq,qh]
 ·dsimp only
  refine xa (wpAny_seqItems a2 rfl ?_)
  refine xa (wpAny_newTuple (hsz:=by rw [Array.length_toList,a3,sizeLine_eq];lia) ?_)
  have hz₂:IsZip h₂ z TI TO .ellipsis:=a5 _ _ nzTO (fun m=> by obtain ⟨Z,hZ,e⟩:=xr.mp m;exact (nI Z hZ).1 e) hz₁
  have hTI₂:h₂.get? TI=some (qh (zcf zs).toArray):=a5 _ _ nTITO (fun m=> by obtain ⟨Z,hZ,e⟩:=xr.mp m;exact (nI Z hZ).2.1 e) hTI₁
  have hzlt:z < h₂.objs.size:=Heap.lt_size hz₂
  have hTIlt:TI < h₂.objs.size:=Heap.lt_size hTI₂
  have hTOlt:TO < h₂.objs.size:=Heap.lt_size a2
  have hsz:h₂.objs.size=s.heap.objs.size:=by rw [a6];exact hs₁.1
  show wpAny _ _ (Builtin.SmallTypes.ownedTupleHandOut (.ref z) (.ref h₂.objs.size) >>=_) _ _ _
  refine xa ?_
  unfold Builtin.SmallTypes.ownedTupleHandOut
  have hz₆:IsZip (h₂.push (qh vs₂)) z TI TO .ellipsis:=xb _ hz₂
  refine xa (wpAny_setField_rec (s:={s with heap:=h₂.push (qh vs₂),toks:=tk₂}) hz₆ (by simp) fun h₇ hz₇ hs₇=> ?_)
  replace hz₇:IsZip h₇ z TI TO (rawInt h₂.objs.size):=hz₇
  refine wpAny_setField_rec hz₇ (by simp) fun h₈ hz₈ hs₈=> ?_
  replace hz₈:IsZip h₈ z TI TO (rawInt h₂.objs.size):=hz₈
  have up:∀ c o,c≠z→h₂.get? c=some o→h₈.get? c=some o:=fun c o c1 e=> hs₈.extBut _ _ c1 (hs₇.extBut _ _ c1 (xb _ e))
  have hT₈:h₈.get? h₂.objs.size=some (qh vs₂):=hs₈.extBut _ _ (Nat.ne_of_gt hzlt) (hs₇.extBut _ _ (Nat.ne_of_gt hzlt) (xj _ rfl))
  have ex:Heap.ExtBut z h₂ h₈:=fun c o c1 e=> up c o c1 e
  refine xg ⟨_,rfl, ?_⟩
  refine hQ h₈ tk₂ h₂.objs.size vs₂ hz₈ (up _ _ nzTI.symm hTI₂) (up _ _ nzTO.symm a2) a3 (a1.frame Ap (.inl rfl) hzb ex ⟨_,hz₈⟩) hT₈ (by rw [hsz];exact get?_size _) ?_ fun b o hb e=> ?_
  ·exact zh.stays (Stays.but hzb ex ⟨_,hz₈⟩) _ _ (by simpa using a4)
  ·unfold zWr at hb
   simp only [List.mem_cons,not_or] at hb
   exact up b o hb.1 (a5 b o hb.2.2.1 hb.2.2.2 (hs₁.extBut b o hb.1 e))
end
end
section
noncomputable def zul (ls:List (List PV)) (n:Nat):List PV:=(List.range n).map fun i=> .tup (ls.map fun l=> l.getD i .none)
theorem zia (ls:List (List PV)) (n:Nat):(zul ls n).length=n:=by simp [zul]
theorem zni {g:GC}{n i:Nat} (hi:i < n):∀ (zs:List (ZI g)),(∀ Z∈zs,Z.its.length=n)→(zs.mapM fun Z=> Z.its[i]?)=some ((zs.map (·.its)).map fun l=> l.getD i .none)
 | [],_=> rfl
 | Z::zs,h=> by
  have e:Z.its[i]? =some (Z.its.getD i .none):=by
   have hl:=h Z xk
   rw [List.getD_eq_getElem?_getD,xt (by lia)];rfl
  rw [List.mapM_cons,e,zni hi zs fun Y hY=> h Y (xf _ hY)]
  rfl
section
variable {g:GC}{A:Around}{E:Value→Shared→Prop}{z TI TO:Addr}{zs:List (ZI g)}{n:Nat}
theorem z09 {s:Shared}{ad:AD} (Ap:ZAp z TI TO zs) {Z:ZI g}{r:List (ZI g)} (hz0:zs=Z::r) {Q:PySem.Fin→Shared→Prop} (hA:A.handled=none) (hzb:z∈ad.b)
  (hz:IsZip s.heap z TI TO .none) (hTI:s.heap.get? TI=some (qh (zcf zs).toArray)) (st:Z.St ad Z.its.length s.heap)
  (hE:∀ h' e,(∀ b o,b∉zWr z TI TO zs→s.heap.get? b=some o→h'.get? b=some o)→(∃ o,h'.get? e=some o∧o.cls= .type "StopIteration")→E (.ref e) {s with heap:=h'}):
  wpAny (model g.prog g.w) A (Builtin.«zip.__next__» ⟨[.ref z],[]⟩) Q E s:=by
 obtain ⟨nzTI,nzTO,nTITO,nI⟩:=Ap.ne
 have hZ:Z∈zs:=by rw [hz0];exact xk
 obtain ⟨nZ1,nZ2,nZ3⟩:=nI Z hZ
 show wpAny _ _ (field (.ref z) 2 >>=_) _ _ _
 refine xa (wpAny_field hz rfl (x:= .bool false) rfl ?_)
 show wpAny _ _ (field (.ref z) 3 >>=_) _ _ _
 refine xa (wpAny_field hz rfl (x:= .ref TI) rfl ?_)
 refine xa (wpAny_seqItems hTI rfl ?_)
 dsimp only
 refine Qs (by rw [hz0];simp [zcf]) ?_
 refine xa ?_
 unfold Builtin.SmallTypes.ownedTupleIsFree
 refine xa (wpAny_field hz rfl (x:= .none) rfl (xg ?_))
 refine J4 rfl ?_
 refine xa (wpAny_rule ?_)
 refine xa (wpAny_field hz rfl (x:= .ref TO) rfl ?_)
 refine xa (wpAny_setField_rec hz (by simp) fun h₁ hz₁ hs₁=> ?_)
 replace hz₁:IsZip h₁ z TI TO .ellipsis:=hz₁
 refine xa ?_
 have st₁:Z.St ad Z.its.length h₁:=ZI.frame st hzb hs₁ ⟨_,hz₁⟩ nZ1.symm fun m=> Ap.fp Z hZ z m (by simp)
 rw [hz0]
 simp only [zcf,List.map_cons,List.zipIdx_cons,List.forIn_cons]
 refine xa (xa (wpAny_onRaise ?_))
 show wpAny _ _ (Builtin.SmallTypes.nextOf (.ref Z.I) >>=_) _ _ _
 refine xa (Z.src.nextOfEnd (s:={s with heap:=h₁}) hA st₁ fun h₂ e hs₂ al he=> ?_)
 obtain ⟨oe,hoe,hce⟩:=he
 have hz₂:IsZip h₂ z TI TO .ellipsis:=hs₂ _ _ nZ1.symm hz₁
 have hez:e≠z:=fun x=> by subst x;rw [hz₂] at hoe;cases hoe;simp at hce
 refine wpAny_setField_rec (s:={s with heap:=h₂}) hz₂ (by simp) fun h₃ V hs₃=> hE h₃ e (fun b o hb x=> ?_) ⟨oe,hs₃.extBut _ _ hez hoe,hce⟩
 unfold zWr at hb
 simp only [List.mem_cons,not_or] at hb
 exact hs₃.extBut _ _ hb.1 (hs₂ _ _ (fun e'=> hb.2.2.2 (e'▸ZI.mem_I hZ)) (hs₁.extBut _ _ hb.1 x))
theorem zzu (Ap:ZAp z TI TO zs) (hne:zs≠[]) (hlen:zs.length≤100) (hn:∀ Z∈zs,Z.its.length=n):
  Itr g z (zWr z TI TO zs) (zs.flatMap (·.fp)) (zul (zs.map (·.its)) n)
   (fun ad i h=> (z∈ad.b∧TI∈ad.b∧TO∈ad.b)∧IsZip h z TI TO .none∧h.get? TI=some (qh (zcf zs).toArray)∧(∃ vs,h.get? TO=some (qh vs)∧vs.size=zs.length)∧ZOk ad i h zs)
   (fun ad i v h=> (z∈ad.b∧TI∈ad.b∧TO∈ad.b)∧(∃ T:Addr,v= .ref T∧IsZip h z TI TO (rawInt T))∧h.get? TI=some (qh (zcf zs).toArray)∧(∃ vs,h.get? TO=some (qh vs)∧vs.size=zs.length)∧ZOk ad (i + 1) h zs) true where
 frame:=fun ad ad' i h h' st x k=> by
  refine bc fun J=> ?_
  obtain ⟨⟨b1,b2,b3⟩,hz,hTI,⟨vs,hTO,hv⟩,ok⟩:=st
  refine J ?_
  have kw:∀ b,b∈zWr z TI TO zs→∀ o,h.get? b=some o→h'.get? b=some o:=fun b hb=> k b (.inl hb)
  refine ⟨⟨x.bb _ b1,x.bb _ b2,x.bb _ b3⟩,kw z (by simp [zWr]) _ hz,kw TI (by simp [zWr]) _ hTI,⟨vs,kw TO (by simp [zWr]) _ hTO,hv⟩,⟨fun Z hZ=> Z.src.frame _ _ _ _ _ (ok.st Z hZ) x fun b hb o e=> ?_⟩⟩
  rcases hb with rfl | hb
  ·exact kw _ (by simp [zWr,ZI.mem_I hZ]) o e
  ·exact k b (.inr (List.mem_flatMap.mpr ⟨Z,hZ,hb⟩)) o e
 item:=fun A ad i p s Q E hA hfr ex st hQ=> by
  refine bc fun J=> ?_
  obtain ⟨⟨b1,b2,b3⟩,hz,hTI,⟨vs,hTO,hv⟩,ok⟩:=st
  refine J ?_
  have hi:i < n:=by have:=(xe.mp ex).1;rwa [zia] at this
  have ep:p= .tup ((zs.map (·.its)).map fun l=> l.getD i .none):=by
   unfold zul at ex
   rw [List.getElem?_map,List.getElem?_range hi] at ex
   exact (Option.some.inj ex).symm
  subst ep
  have hT:s.TypeIs (.ref z) "zip":=⟨_,hz,rfl⟩
  skip
  refine xa (wpAny_attempt (wpAny_callSpecial?_slot (name:=Str.ofString "__next__") hT PySem.F.slot_zip_next
   (wpAny_call_entry PySem.F.slot_zip_next hT PySem.F.entry_zip_next
    (zyi Ap hne hlen hA b1 b3 hz hTI hTO hv ok (zni hi zs hn) fun h' tk T vs' c1 c2 c3 c4 c5 c6 c7 c8 c9=> xg ?_) (PySem.F.args_zip_next_1 _))))
  refine hQ _ h' tk ⟨⟨b1,b2,b3⟩,⟨T,rfl,c1⟩,c2,⟨vs',c3,c4⟩,c5⟩ ?_ ⟨⟨fun b o nb e=> c9 b o (fun m=> nb.2 ?_) e,fun V V e=> e,fun V V V n=> n⟩,fun b o e=> ?_,fun V m=> m⟩ fun b o hb e=> c9 b o hb e
  ·exact ⟨T,vs',rfl,hfr T c7,⟨0,c6⟩,c8⟩
  ·unfold zWr at m
   simp only [List.mem_cons] at m
   rcases m with rfl | rfl | rfl | m
   ·exact b1
   ·exact b2
   ·exact b3
   ·obtain ⟨Z,hZ,rfl⟩:=xr.mp m
    exact (Z.src.typ _ _ _ (ok.st Z hZ)).1
  ·by_cases hb:b∈zWr z TI TO zs
   ·unfold zWr at hb
    simp only [List.mem_cons] at hb
    rcases hb with rfl | rfl | rfl | hb
    ·exact ⟨_,c1⟩
    ·exact ⟨_,c2⟩
    ·exact ⟨_,c3⟩
    ·refine bc fun J=> ?_
     obtain ⟨Z,hZ,rfl⟩:=xr.mp hb
     refine J ?_
     obtain ⟨_,o,_,ho,_⟩:=Z.src.typ _ _ _ (c5.st Z hZ);exact ⟨o,ho⟩
   ·exact ⟨o,c9 b o hb e⟩
 go:=fun A elts x1 pos ad i v s Q E m hQ=> by
  refine bc fun J=> ?_
  obtain ⟨⟨b1,b2,b3⟩,⟨T,rfl,hz⟩,hTI,⟨vs,hTO,hv⟩,ok⟩:=m
  obtain ⟨nzTI,nzTO,nTITO,nI⟩:=Ap.ne
  refine J ?_
  refine wpAny_letOwnedTupleGo_zip hz fun h' hz' hs'=> ?_
  exact hQ h' ⟨⟨b1,b2,b3⟩,hz',hs'.extBut _ _ nzTI.symm hTI,⟨vs,hs'.extBut _ _ nzTO.symm hTO,hv⟩,ok.frame Ap (.inl rfl) b1 hs'.extBut ⟨_,hz'⟩⟩ (Stays.but b1 hs'.extBut ⟨_,hz'⟩) fun b o hb e=> hs'.extBut b o (fun h=> hb (by simp [zWr,h])) e
 goN:=fun h=> by cases h
 done:=fun A ad s Q E hA st hQ=> by
  refine bc fun J=> ?_
  obtain ⟨⟨b1,b2,b3⟩,hz,hTI,⟨vs,hTO,hv⟩,ok⟩:=st
  refine J ?_
  rw [zia] at ok
  cases hzs:zs with
  | nil=> exact absurd hzs hne
  | cons Z r=>
   have hZ:Z∈zs:=by rw [hzs];exact xk
   have st0:=ok.st Z hZ
   rw [←hn Z hZ] at st0
   have hT:s.TypeIs (.ref z) "zip":=⟨_,hz,rfl⟩
   skip
   refine xa (wpAny_attempt (wpAny_callSpecial?_slot (name:=Str.ofString "__next__") hT PySem.F.slot_zip_next
    (wpAny_call_entry PySem.F.slot_zip_next hT PySem.F.entry_zip_next (z09 Ap hzs hA b1 hz hTI st0 fun h' e hk he=> ?_) (PySem.F.args_zip_next_1 _))))
   refine bc fun J=> ?_
   obtain ⟨o,ho,hc⟩:=he
   refine J ?_
   refine xa (wpAny_isInstance (T:="StopIteration") (b:=true) ⟨o,ho,hc⟩ isSubtype_stop ?_)
   rw [hzs] at hk hQ
   exact xg (hQ _ hk)
 self:=fun A ad i s Q E st hQ=> wpAny_pyIter_zip st.2.1 hQ
 ban:=fun ad i h st b hb=> by
  refine bc fun J=> ?_
  obtain ⟨⟨b1,b2,b3⟩,hz,hTI,⟨vs,hTO,hv⟩,ok⟩:=st
  refine J ?_
  unfold zWr at hb
  simp only [List.mem_cons] at hb
  rcases hb with rfl | rfl | rfl | hb
  ·exact b1
  ·exact b2
  ·exact b3
  ·obtain ⟨Z,hZ,rfl⟩:=xr.mp hb
   exact (Z.src.typ _ _ _ (ok.st Z hZ)).1
end
end
section
section
variable {g:GC}
theorem zfr (v1 v2:Value):checkTypeCall "zip" ⟨[v1,v2],[]⟩=pure ():=by kernel_rfl
theorem zhi (v1 v2:Value):checkBuiltinCall "zip.__new__" ⟨[.type "zip",v1,v2],[]⟩=pure ():=by kernel_rfl
theorem zo4 (a v1 v2:Value):argsOk "object.__init__" ⟨[a,v1,v2],[]⟩:=by
 unfold argsOk;rw [signature?_of (id:="object.__init__") (n:=['_','_','t','i','n','i','_','_']) (o:=['t','c','e','j','b','o']) (by kernel_rfl) PySem.F.owner_object];kernel_rfl
theorem zir (v1 v2:Value) (o1 o2:Obj):
  MeetsIn g.prog g.w (Builtin.«zip.__new__» ⟨[.type "zip",v1,v2],[]⟩) (fun V R s=> Zg g v1 o1 s.heap∧Zg g v2 o2 s.heap∧
   R (.ok (.ret (.ref ((((s.heap.push o1).push o2).push (qh #[.ref s.heap.objs.size,.ref (s.heap.push o1).objs.size])).push (qh #[.none,.none])).objs.size))) {s with heap:=(((((s.heap.push o1).push o2).push (qh #[.ref s.heap.objs.size,.ref (s.heap.push o1).objs.size])).push (qh #[.none,.none])).push {cls:= .type "zip",data:= .fields #[.none,.bool false,.bool false,.ref ((s.heap.push o1).push o2).objs.size,.ref (((s.heap.push o1).push o2).push (qh #[.ref s.heap.objs.size,.ref (s.heap.push o1).objs.size])).objs.size]})}):=
 .of_wp fun A R s h=> by
  obtain ⟨hp,gg,d,tk,os⟩:=s;obtain ⟨hl1,hl2,h⟩:=h
  have hsub:=sub_zip
  have hL1:∀ {A:Around}{Q:Value→Shared→Prop}{E:Value→Shared→Prop},Q (.ref hp.objs.size) ⟨(hp.push o1),gg,d,tk,os⟩→wpAny (model g.prog g.w) A (pyIter v1) Q E ⟨hp,gg,d,tk,os⟩:=fun h=> hl1 _ ⟨hp,gg,d,tk,os⟩ _ _ (fun V V e=> e) h
  have hL2:∀ {A:Around}{Q:Value→Shared→Prop}{E:Value→Shared→Prop},Q (.ref (hp.push o1).objs.size) ⟨((hp.push o1).push o2),gg,d,tk,os⟩→wpAny (model g.prog g.w) A (pyIter v2) Q E ⟨(hp.push o1),gg,d,tk,os⟩:=fun h=> hl2 _ ⟨(hp.push o1),gg,d,tk,os⟩ _ _ (fun V V e=> xb _ e) h
  wp_walk using hL1,hL2
  exact ⟨_,rfl,h⟩
theorem zmn {A:Around}{s:Shared}{E:Value→Shared→Prop}{v1 v2:Value}{o1 o2:Obj}{Q:Value→Shared→Prop} (hI1:Zg g v1 o1 s.heap) (nf1:o1.isFreed=false) (hI2:Zg g v2 o2 s.heap) (nf2:o2.isFreed=false)
  (h:∀ h',(∀ c o,s.heap.get? c=some o→h'.get? c=some o)→h'.get? (s.heap.objs.size + 0)=some o1→h'.get? (s.heap.objs.size + 1)=some o2→h'.get? (s.heap.objs.size + 2)=some (qh #[.ref (s.heap.objs.size + 0),.ref (s.heap.objs.size + 1)])→h'.get? (s.heap.objs.size + 3)=some (qh #[.none,.none])→
   IsZip h' (s.heap.objs.size + 4) (s.heap.objs.size + 2) (s.heap.objs.size + 3) .none→Q (.ref (s.heap.objs.size + 4)) {s with heap:=h'}):wpAny (model g.prog g.w) A (call (.type "zip") [v1,v2]) Q E s:=by
 refine callType_newIn PySem.F.called_zip (by decide) (zfr _ _) (zhi _ _) (fun obj=> zo4 obj _ _) PySem.F.entry_zip_new
  (zir (g:=g) v1 v2 o1 o2) ⟨hI1,hI2, ?_⟩
 have z1:(s.heap.push o1).objs.size=s.heap.objs.size + 1:=by rw [xv]
 have z2:((s.heap.push o1).push o2).objs.size=s.heap.objs.size + 2:=by rw [xv,z1]
 have z3:(((s.heap.push o1).push o2).push (qh #[.ref s.heap.objs.size,.ref (s.heap.push o1).objs.size])).objs.size=s.heap.objs.size + 3:=by rw [xv,z2]
 have z4:((((s.heap.push o1).push o2).push (qh #[.ref s.heap.objs.size,.ref (s.heap.push o1).objs.size])).push (qh #[.none,.none])).objs.size=s.heap.objs.size + 4:=by rw [xv,z3]
 have z5:(((((s.heap.push o1).push o2).push (qh #[.ref s.heap.objs.size,.ref (s.heap.push o1).objs.size])).push (qh #[.none,.none])).push {cls:= .type "zip",data:= .fields #[.none,.bool false,.bool false,.ref ((s.heap.push o1).push o2).objs.size,.ref (((s.heap.push o1).push o2).push (qh #[.ref s.heap.objs.size,.ref (s.heap.push o1).objs.size])).objs.size]}).objs.size=s.heap.objs.size + 5:=by rw [xv,z4]
 have g0:(((((s.heap.push o1).push o2).push (qh #[.ref s.heap.objs.size,.ref (s.heap.push o1).objs.size])).push (qh #[.none,.none])).push {cls:= .type "zip",data:= .fields #[.none,.bool false,.bool false,.ref ((s.heap.push o1).push o2).objs.size,.ref (((s.heap.push o1).push o2).push (qh #[.ref s.heap.objs.size,.ref (s.heap.push o1).objs.size])).objs.size]}).get? s.heap.objs.size=some _:=xb _ (xb _ (xb _ (xb _ (xj _ nf1))))
 have g1:(((((s.heap.push o1).push o2).push (qh #[.ref s.heap.objs.size,.ref (s.heap.push o1).objs.size])).push (qh #[.none,.none])).push {cls:= .type "zip",data:= .fields #[.none,.bool false,.bool false,.ref ((s.heap.push o1).push o2).objs.size,.ref (((s.heap.push o1).push o2).push (qh #[.ref s.heap.objs.size,.ref (s.heap.push o1).objs.size])).objs.size]}).get? (s.heap.push o1).objs.size=some _:=xb _ (xb _ (xb _ (xj _ nf2)))
 have g2:(((((s.heap.push o1).push o2).push (qh #[.ref s.heap.objs.size,.ref (s.heap.push o1).objs.size])).push (qh #[.none,.none])).push {cls:= .type "zip",data:= .fields #[.none,.bool false,.bool false,.ref ((s.heap.push o1).push o2).objs.size,.ref (((s.heap.push o1).push o2).push (qh #[.ref s.heap.objs.size,.ref (s.heap.push o1).objs.size])).objs.size]}).get? ((s.heap.push o1).push o2).objs.size=some _:=xb _ (xb _ (xj _ rfl))
 have g3:(((((s.heap.push o1).push o2).push (qh #[.ref s.heap.objs.size,.ref (s.heap.push o1).objs.size])).push (qh #[.none,.none])).push {cls:= .type "zip",data:= .fields #[.none,.bool false,.bool false,.ref ((s.heap.push o1).push o2).objs.size,.ref (((s.heap.push o1).push o2).push (qh #[.ref s.heap.objs.size,.ref (s.heap.push o1).objs.size])).objs.size]}).get? (((s.heap.push o1).push o2).push (qh #[.ref s.heap.objs.size,.ref (s.heap.push o1).objs.size])).objs.size=some _:=xb _ (xj _ rfl)
 have g4:(((((s.heap.push o1).push o2).push (qh #[.ref s.heap.objs.size,.ref (s.heap.push o1).objs.size])).push (qh #[.none,.none])).push {cls:= .type "zip",data:= .fields #[.none,.bool false,.bool false,.ref ((s.heap.push o1).push o2).objs.size,.ref (((s.heap.push o1).push o2).push (qh #[.ref s.heap.objs.size,.ref (s.heap.push o1).objs.size])).objs.size]}).get? ((((s.heap.push o1).push o2).push (qh #[.ref s.heap.objs.size,.ref (s.heap.push o1).objs.size])).push (qh #[.none,.none])).objs.size=some _:=xj _ rfl
 show _∧_
 simp only [xv,Nat.add_assoc,Nat.reduceAdd] at g0
 simp only [xv,Nat.add_assoc,Nat.reduceAdd] at g1
 simp only [xv,Nat.add_assoc,Nat.reduceAdd] at g2
 simp only [xv,Nat.add_assoc,Nat.reduceAdd] at g3
 simp only [xv,Nat.add_assoc,Nat.reduceAdd] at g4
 simp only [xv,Nat.add_assoc,Nat.reduceAdd]
 exact ⟨⟨_,g4,rfl⟩,h _ (fun c o x=> xb _ (xb _ (xb _ (xb _ (xb _ x))))) g0 g1 g2 g3 g4⟩
theorem zfs (v1 v2 v3:Value):checkTypeCall "zip" ⟨[v1,v2,v3],[]⟩=pure ():=by kernel_rfl
theorem zhj (v1 v2 v3:Value):checkBuiltinCall "zip.__new__" ⟨[.type "zip",v1,v2,v3],[]⟩=pure ():=by kernel_rfl
theorem zo5 (a v1 v2 v3:Value):argsOk "object.__init__" ⟨[a,v1,v2,v3],[]⟩:=by
 unfold argsOk;rw [signature?_of (id:="object.__init__") (n:=['_','_','t','i','n','i','_','_']) (o:=['t','c','e','j','b','o']) (by kernel_rfl) PySem.F.owner_object];kernel_rfl
theorem zis (v1 v2 v3:Value) (o1 o2 o3:Obj):
  MeetsIn g.prog g.w (Builtin.«zip.__new__» ⟨[.type "zip",v1,v2,v3],[]⟩) (fun V R s=> Zg g v1 o1 s.heap∧Zg g v2 o2 s.heap∧Zg g v3 o3 s.heap∧
   R (.ok (.ret (.ref (((((s.heap.push o1).push o2).push o3).push (qh #[.ref s.heap.objs.size,.ref (s.heap.push o1).objs.size,.ref ((s.heap.push o1).push o2).objs.size])).push (qh #[.none,.none,.none])).objs.size))) {s with heap:=((((((s.heap.push o1).push o2).push o3).push (qh #[.ref s.heap.objs.size,.ref (s.heap.push o1).objs.size,.ref ((s.heap.push o1).push o2).objs.size])).push (qh #[.none,.none,.none])).push {cls:= .type "zip",data:= .fields #[.none,.bool false,.bool false,.ref (((s.heap.push o1).push o2).push o3).objs.size,.ref ((((s.heap.push o1).push o2).push o3).push (qh #[.ref s.heap.objs.size,.ref (s.heap.push o1).objs.size,.ref ((s.heap.push o1).push o2).objs.size])).objs.size]})}):=
 .of_wp fun A R s h=> by
  obtain ⟨hp,gg,d,tk,os⟩:=s;obtain ⟨hl1,hl2,hl3,h⟩:=h
  have hsub:=sub_zip
  have hL1:∀ {A:Around}{Q:Value→Shared→Prop}{E:Value→Shared→Prop},Q (.ref hp.objs.size) ⟨(hp.push o1),gg,d,tk,os⟩→wpAny (model g.prog g.w) A (pyIter v1) Q E ⟨hp,gg,d,tk,os⟩:=fun h=> hl1 _ ⟨hp,gg,d,tk,os⟩ _ _ (fun V V e=> e) h
  have hL2:∀ {A:Around}{Q:Value→Shared→Prop}{E:Value→Shared→Prop},Q (.ref (hp.push o1).objs.size) ⟨((hp.push o1).push o2),gg,d,tk,os⟩→wpAny (model g.prog g.w) A (pyIter v2) Q E ⟨(hp.push o1),gg,d,tk,os⟩:=fun h=> hl2 _ ⟨(hp.push o1),gg,d,tk,os⟩ _ _ (fun V V e=> xb _ e) h
  have hL3:∀ {A:Around}{Q:Value→Shared→Prop}{E:Value→Shared→Prop},Q (.ref ((hp.push o1).push o2).objs.size) ⟨(((hp.push o1).push o2).push o3),gg,d,tk,os⟩→wpAny (model g.prog g.w) A (pyIter v3) Q E ⟨((hp.push o1).push o2),gg,d,tk,os⟩:=fun h=> hl3 _ ⟨((hp.push o1).push o2),gg,d,tk,os⟩ _ _ (fun V V e=> xb _ (xb _ e)) h
  wp_walk using hL1,hL2,hL3
  exact ⟨_,rfl,h⟩
theorem zmo {A:Around}{s:Shared}{E:Value→Shared→Prop}{v1 v2 v3:Value}{o1 o2 o3:Obj}{Q:Value→Shared→Prop} (hI1:Zg g v1 o1 s.heap) (nf1:o1.isFreed=false) (hI2:Zg g v2 o2 s.heap) (nf2:o2.isFreed=false) (hI3:Zg g v3 o3 s.heap) (nf3:o3.isFreed=false)
  (h:∀ h',(∀ c o,s.heap.get? c=some o→h'.get? c=some o)→h'.get? (s.heap.objs.size + 0)=some o1→h'.get? (s.heap.objs.size + 1)=some o2→h'.get? (s.heap.objs.size + 2)=some o3→h'.get? (s.heap.objs.size + 3)=some (qh #[.ref (s.heap.objs.size + 0),.ref (s.heap.objs.size + 1),.ref (s.heap.objs.size + 2)])→h'.get? (s.heap.objs.size + 4)=some (qh #[.none,.none,.none])→
   IsZip h' (s.heap.objs.size + 5) (s.heap.objs.size + 3) (s.heap.objs.size + 4) .none→Q (.ref (s.heap.objs.size + 5)) {s with heap:=h'}):wpAny (model g.prog g.w) A (call (.type "zip") [v1,v2,v3]) Q E s:=by
 refine callType_newIn PySem.F.called_zip (by decide) (zfs _ _ _) (zhj _ _ _) (fun obj=> zo5 obj _ _ _) PySem.F.entry_zip_new
  (zis (g:=g) v1 v2 v3 o1 o2 o3) ⟨hI1,hI2,hI3, ?_⟩
 have z1:(s.heap.push o1).objs.size=s.heap.objs.size + 1:=by rw [xv]
 have z2:((s.heap.push o1).push o2).objs.size=s.heap.objs.size + 2:=by rw [xv,z1]
 have z3:(((s.heap.push o1).push o2).push o3).objs.size=s.heap.objs.size + 3:=by rw [xv,z2]
 have z4:((((s.heap.push o1).push o2).push o3).push (qh #[.ref s.heap.objs.size,.ref (s.heap.push o1).objs.size,.ref ((s.heap.push o1).push o2).objs.size])).objs.size=s.heap.objs.size + 4:=by rw [xv,z3]
 have z5:(((((s.heap.push o1).push o2).push o3).push (qh #[.ref s.heap.objs.size,.ref (s.heap.push o1).objs.size,.ref ((s.heap.push o1).push o2).objs.size])).push (qh #[.none,.none,.none])).objs.size=s.heap.objs.size + 5:=by rw [xv,z4]
 have z6:((((((s.heap.push o1).push o2).push o3).push (qh #[.ref s.heap.objs.size,.ref (s.heap.push o1).objs.size,.ref ((s.heap.push o1).push o2).objs.size])).push (qh #[.none,.none,.none])).push {cls:= .type "zip",data:= .fields #[.none,.bool false,.bool false,.ref (((s.heap.push o1).push o2).push o3).objs.size,.ref ((((s.heap.push o1).push o2).push o3).push (qh #[.ref s.heap.objs.size,.ref (s.heap.push o1).objs.size,.ref ((s.heap.push o1).push o2).objs.size])).objs.size]}).objs.size=s.heap.objs.size + 6:=by rw [xv,z5]
 have g0:((((((s.heap.push o1).push o2).push o3).push (qh #[.ref s.heap.objs.size,.ref (s.heap.push o1).objs.size,.ref ((s.heap.push o1).push o2).objs.size])).push (qh #[.none,.none,.none])).push {cls:= .type "zip",data:= .fields #[.none,.bool false,.bool false,.ref (((s.heap.push o1).push o2).push o3).objs.size,.ref ((((s.heap.push o1).push o2).push o3).push (qh #[.ref s.heap.objs.size,.ref (s.heap.push o1).objs.size,.ref ((s.heap.push o1).push o2).objs.size])).objs.size]}).get? s.heap.objs.size=some _:=xb _ (xb _ (xb _ (xb _ (xb _ (xj _ nf1)))))
 have g1:((((((s.heap.push o1).push o2).push o3).push (qh #[.ref s.heap.objs.size,.ref (s.heap.push o1).objs.size,.ref ((s.heap.push o1).push o2).objs.size])).push (qh #[.none,.none,.none])).push {cls:= .type "zip",data:= .fields #[.none,.bool false,.bool false,.ref (((s.heap.push o1).push o2).push o3).objs.size,.ref ((((s.heap.push o1).push o2).push o3).push (qh #[.ref s.heap.objs.size,.ref (s.heap.push o1).objs.size,.ref ((s.heap.push o1).push o2).objs.size])).objs.size]}).get? (s.heap.push o1).objs.size=some _:=xb _ (xb _ (xb _ (xb _ (xj _ nf2))))
 have g2:((((((s.heap.push o1).push o2).push o3).push (qh #[.ref s.heap.objs.size,.ref (s.heap.push o1).objs.size,.ref ((s.heap.push o1).push o2).objs.size])).push (qh #[.none,.none,.none])).push {cls:= .type "zip",data:= .fields #[.none,.bool false,.bool false,.ref (((s.heap.push o1).push o2).push o3).objs.size,.ref ((((s.heap.push o1).push o2).push o3).push (qh #[.ref s.heap.objs.size,.ref (s.heap.push o1).objs.size,.ref ((s.heap.push o1).push o2).objs.size])).objs.size]}).get? ((s.heap.push o1).push o2).objs.size=some _:=xb _ (xb _ (xb _ (xj _ nf3)))
 have g3:((((((s.heap.push o1).push o2).push o3).push (qh #[.ref s.heap.objs.size,.ref (s.heap.push o1).objs.size,.ref ((s.heap.push o1).push o2).objs.size])).push (qh #[.none,.none,.none])).push {cls:= .type "zip",data:= .fields #[.none,.bool false,.bool false,.ref (((s.heap.push o1).push o2).push o3).objs.size,.ref ((((s.heap.push o1).push o2).push o3).push (qh #[.ref s.heap.objs.size,.ref (s.heap.push o1).objs.size,.ref ((s.heap.push o1).push o2).objs.size])).objs.size]}).get? (((s.heap.push o1).push o2).push o3).objs.size=some _:=xb _ (xb _ (xj _ rfl))
 have g4:((((((s.heap.push o1).push o2).push o3).push (qh #[.ref s.heap.objs.size,.ref (s.heap.push o1).objs.size,.ref ((s.heap.push o1).push o2).objs.size])).push (qh #[.none,.none,.none])).push {cls:= .type "zip",data:= .fields #[.none,.bool false,.bool false,.ref (((s.heap.push o1).push o2).push o3).objs.size,.ref ((((s.heap.push o1).push o2).push o3).push (qh #[.ref s.heap.objs.size,.ref (s.heap.push o1).objs.size,.ref ((s.heap.push o1).push o2).objs.size])).objs.size]}).get? ((((s.heap.push o1).push o2).push o3).push (qh #[.ref s.heap.objs.size,.ref (s.heap.push o1).objs.size,.ref ((s.heap.push o1).push o2).objs.size])).objs.size=some _:=xb _ (xj _ rfl)
 have g5:((((((s.heap.push o1).push o2).push o3).push (qh #[.ref s.heap.objs.size,.ref (s.heap.push o1).objs.size,.ref ((s.heap.push o1).push o2).objs.size])).push (qh #[.none,.none,.none])).push {cls:= .type "zip",data:= .fields #[.none,.bool false,.bool false,.ref (((s.heap.push o1).push o2).push o3).objs.size,.ref ((((s.heap.push o1).push o2).push o3).push (qh #[.ref s.heap.objs.size,.ref (s.heap.push o1).objs.size,.ref ((s.heap.push o1).push o2).objs.size])).objs.size]}).get? (((((s.heap.push o1).push o2).push o3).push (qh #[.ref s.heap.objs.size,.ref (s.heap.push o1).objs.size,.ref ((s.heap.push o1).push o2).objs.size])).push (qh #[.none,.none,.none])).objs.size=some _:=xj _ rfl
 show _∧_
 simp only [xv,Nat.add_assoc,Nat.reduceAdd] at g0
 simp only [xv,Nat.add_assoc,Nat.reduceAdd] at g1
 simp only [xv,Nat.add_assoc,Nat.reduceAdd] at g2
 simp only [xv,Nat.add_assoc,Nat.reduceAdd] at g3
 simp only [xv,Nat.add_assoc,Nat.reduceAdd] at g4
 simp only [xv,Nat.add_assoc,Nat.reduceAdd] at g5
 simp only [xv,Nat.add_assoc,Nat.reduceAdd]
 exact ⟨⟨_,g5,rfl⟩,h _ (fun c o x=> xb _ (xb _ (xb _ (xb _ (xb _ (xb _ x)))))) g0 g1 g2 g3 g4 g5⟩
end
end
section
def z7x (ls:List (List PV)):Option (List PV):=match ls with
 | l::ls=> if (ls.all fun x=> decide (x.length=l.length))=true then some (zul (l::ls) l.length) else none
 | []=> none
def zik (fs:List Den):zai:=fun base U W=> (jm fs U W).bind fun ps=> if ps.all (Q5 base)=true then (ps.mapM (pIt W)).bind z7x else none
theorem zwm {c:Prop} [Decidable c] {α:Type}{x:Option α}{y:α} (e:(if c then x else none)=some y):c∧x=some y:=jg e
theorem zdg {α β:Type}{f:α→Option β}{a:α}{l:List α}{ls:List β} (e:(a::l).mapM f=some ls):∃ x xs,f a=some x∧l.mapM f=some xs∧ls=x::xs:=by
 rw [List.mapM_cons] at e
 refine bc fun J=> ?_
 obtain ⟨x,ea,e⟩:=Qe e
 obtain ⟨xs,eb,e⟩:=Qe e
 refine J ?_
 exact ⟨x,xs,ea,eb,(si e).symm⟩
theorem z1m {α β:Type}{f:α→Option β}{a b:α}{ls:List β} (e:[a,b].mapM f=some ls):∃ x y,f a=some x∧f b=some y∧ls=[x,y]:=by
 refine bc fun J=> ?_
 obtain ⟨x,xs,ea,e1,h1⟩:=zdg e
 obtain ⟨y,ys,eb,e2,h2⟩:=zdg e1
 refine J ?_
 cases si e2;exact ⟨x,y,ea,eb,h2▸h1⟩
theorem z55 {α β:Type}{f:α→Option β}{a b c:α}{ls:List β} (e:[a,b,c].mapM f=some ls):∃ x y z,f a=some x∧f b=some y∧f c=some z∧ls=[x,y,z]:=by
 refine bc fun J=> ?_
 obtain ⟨x,xs,ea,e1,h1⟩:=zdg e
 obtain ⟨y,z,eb,ec,h2⟩:=z1m e1
 refine J ?_
 exact ⟨x,y,z,ea,eb,ec,h2▸h1⟩
structure ZG (g:GC) (ad:AD) (h0 h':Heap) (base:Nat) (Z:ZI g):Prop where
 al:∀ b∈Z.fp,(∃ o,h0.get? b=some o)∧b∉ad.b
 no:∀ b∈Z.fp,∀ (j:Nat),ad.m[j]? =some b→j < base
 it:∃ o,h'.get? Z.I=some o
 start:∀ ad' h'',Z.I∈ad'.b→(∀ o,h'.get? Z.I=some o→h''.get? Z.I=some o)→Stays ad ad' h0 h''→(∀ b∈Z.fp,∀ o,h0.get? b=some o→h''.get? b=some o)→Z.St ad' 0 h''
section
variable {g:GC}{ad:AD}{h h':Heap}{v:Value}{its:List PV}{oit:Obj}{fp:List Addr}{St:Addr→AD→Nat→Heap→Prop}{base k:Nat}
theorem ItOk.nin (X:ItOk g ad h v its oit fp St):h.objs.size + k∉fp:=fun m=> (X.al _ m).1.elim fun o e=> Nat.not_lt.mpr (Nat.le_add_right _ _) (Heap.lt_size e)
def ItOk.zi (X:ItOk g ad h v its oit fp St) (k:Nat):ZI g:=⟨h.objs.size + k,fp,its,St (h.objs.size + k),X.src _ X.nin⟩
theorem ItOk.zg (X:ItOk g ad h v its oit fp St) (no:∀ b∈fp,∀ (j:Nat),ad.m[j]? =some b→j < base) (a:h'.get? (h.objs.size + k)=some oit):ZG g ad h h' base (X.zi k):=
 ⟨X.al,no,⟨_,a⟩,fun ad' h'' hb hk hs hf=> X.start _ _ _ hb (hk _ a) hs hf⟩
theorem zoo {zs:List (ZI g)}{s s₁:Shared}{z TI TO:Addr}{vs:Array Value}{n:Nat}{Q:Value→Shared→Prop} (ks:List Nat) (hw:z::TI::TO::zIs zs=ks.map (s₁.heap.objs.size + ·)) (hks:ks.Nodup) (hz:∀ Z∈zs,ZG g ad s₁.heap h' base Z) (hne:zs≠[]) (hlen:zs.length≤100) (hn:∀ Z∈zs,Z.its.length=n) (hf:ze n=true)
  (kp:∀ b o,s₁.heap.get? b=some o→h'.get? b=some o) (az:IsZip h' z TI TO .none) (aTI:h'.get? TI=some (qh (zcf zs).toArray)) (aTO:h'.get? TO=some (qh vs)) (hv:vs.size=zs.length) (g₁:Gr s s₁) (hQ:SIk g ad s base true (zul (zs.map (·.its)) n) Q):Q (.ref z) {s₁ with heap:=h'}:=by
 have nd:(z::TI::TO::zIs zs).Nodup:=hw▸List.pairwise_map.mpr (hks.imp fun h e=> h (Nat.add_left_cancel e))
 have hge:∀ b∈zWr z TI TO zs,s₁.heap.get? b=none:=fun b hb=> by
  obtain ⟨k,_,rfl⟩:=xr.mp (show b∈ks.map (s₁.heap.objs.size + ·) from hw▸hb)
  cases e:s₁.heap.get? (s₁.heap.objs.size + k) with
  | none=> rfl
  | some o=> exact absurd (Heap.lt_size e) (Nat.not_lt.mpr (Nat.le_add_right _ _))
 have nb:∀ Z∈zs,∀ b∈Z.fp,b∉zWr z TI TO zs:=fun Z hZ b hb m=> ((hz Z hZ).al b hb).1.elim fun o e=> nn ((hge b m).symm.trans e)
 have mZ:∀ Z∈zs,Z.I∈zWr z TI TO zs:=fun Z hZ=> xf _ (xf _ (xf _ (xr.mpr ⟨Z,hZ,rfl⟩)))
 have m0:z∈zWr z TI TO zs:=xk ..
 have m1:TI∈zWr z TI TO zs:=xf _ (xk ..)
 have m2:TO∈zWr z TI TO zs:=xf _ (xf _ (xk ..))
 refine hQ _ _ (zWr z TI TO zs) (zs.flatMap (·.fp)) _ _ s₁.heap (g₁.trans (Gr.of_heap kp)) (zzu ⟨nd,nb⟩ hne hlen hn) g₁.h kp hge (fun b hb=> ?_) (fun b hb=> ?_) (fun b hb j ej=> ?_) (fun ad' h'' hw' hst' hk=> ?_) (by rw [zia];exact hf)
 ·rcases List.mem_cons.mp hb with rfl | hb
  ·exact ⟨_,az⟩
  rcases List.mem_cons.mp hb with rfl | hb
  ·exact ⟨_,aTI⟩
  rcases List.mem_cons.mp hb with rfl | hb
  ·exact ⟨_,aTO⟩
  obtain ⟨Z,hZ,rfl⟩:=xr.mp hb
  exact (hz Z hZ).it
 ·obtain ⟨Z,hZ,hb⟩:=List.mem_flatMap.mp hb
  exact ⟨((hz Z hZ).al b hb).1,((hz Z hZ).al b hb).2,nb Z hZ b hb⟩
 ·refine bc fun J=> ?_
  obtain ⟨Z,hZ,hb⟩:=List.mem_flatMap.mp hb
  refine J ?_
  exact (hz Z hZ).no b hb j ej
 ·exact ⟨⟨hw' _ m0,hw' _ m1,hw' _ m2⟩,hk _ _ (.inl m0) az,hk _ _ (.inl m1) aTI,⟨vs,hk _ _ (.inl m2) aTO,hv⟩,⟨fun Z hZ=>
   (hz Z hZ).start ad' h'' (hw' _ (mZ Z hZ)) (fun o e=> hk _ o (.inl (mZ Z hZ)) e) hst' fun b hb o e=> hk b o (.inr (List.mem_flatMap.mpr ⟨Z,hZ,hb⟩)) (kp b o e)⟩⟩
end
section
variable {g:GC}{nm:Nat→Str}{k:Nat}{sc:Scope}
theorem SI.zip2 {e1 e2:Expr}{f1 f2:Den}{p pos:Pos} (hn:sc.names.lookup ("zip":Str)=some .globalImplicit) (G:IsGlob g "zip" (.type "zip")) (h1:Snd g nm k sc e1 f1) (h2:Snd g nm k sc e2 f2) (hs1:∀ env,starEach [e1,e2] env=(false,eval e1 env)::starEach [e2] env) (hs2:∀ env,starEach [e2] env=(false,eval e2 env)::starEach [] env) (hst:∀ env,starEach [e1,e2] env=[(false,eval e1 env),(false,eval e2 env)]):
  SI g nm k sc true (.Call (.Name "zip" p) [e1,e2] [] pos) (zik [f1,f2]):=by
 intro A env s ad base U W its hr he hx hp Q E hQ
 have L:jl g nm k sc [e1,e2] [f1,f2]:=jl.cons h1 (jl.cons h2 jl.nil hs2) hs1
 refine bc fun J=> ?_
 obtain ⟨ps,ea,hp⟩:=Qe hp
 obtain ⟨hok,hp⟩:=jg hp
 obtain ⟨ls,em,hp⟩:=Qe hp
 have ea0:=ea
 obtain ⟨p1,ps1,rfl,d1,ea⟩:=Zo ea
 obtain ⟨p2,ps2,rfl,d2,ea⟩:=Zo ea
 cases si ea
 obtain ⟨l1,l2,q1,q2,rfl⟩:=z1m em
 obtain ⟨hl,rfl⟩:=z0 hp
 obtain ⟨k1,hok⟩:=zak hok
 obtain ⟨k2,_⟩:=zak hok
 refine J ?_
 refine Zc hr he hx hn G (.type _) L ea0 (by rw [hst];rfl) (by decide) fun vs s₁ g₁ r₁=> ?_
 have x1:=hx.keeps g₁.h
 refine bc fun J=> ?_
 obtain ⟨v1,v2,rfl,r1,r2⟩:=r₁.two
 obtain ⟨oit1,fp1,St1,X1,no1⟩:=zbi x1.sto r1 q1
 obtain ⟨oit2,fp2,St2,X2,no2⟩:=zbi x1.sto r2 q2
 refine J ?_
 exact zmn X1.iter X1.nf X2.iter X2.nf fun h' kp a1 a2 aTI aTO az=> wpAny_pyIter_zip az (zoo (zs:=[X1.zi 0,X2.zi 1]) [4,2,3,0,1] rfl (by decide)
  (List.forall_mem_cons.mpr ⟨X1.zg (no1 base k1) a1,List.forall_mem_cons.mpr ⟨X2.zg (no2 base k2) a2,fun V h=> (ya h).elim⟩⟩) (List.cons_ne_nil _ _) (show (2:Nat)≤100 by decide)
  (List.forall_mem_cons.mpr ⟨rfl,List.forall_mem_cons.mpr ⟨xx (zak hl).1,fun V h=> (ya h).elim⟩⟩) (zea q1) kp az aTI aTO rfl g₁ hQ)
theorem SI.zip3 {e1 e2 e3:Expr}{f1 f2 f3:Den}{p pos:Pos} (hn:sc.names.lookup ("zip":Str)=some .globalImplicit) (G:IsGlob g "zip" (.type "zip")) (h1:Snd g nm k sc e1 f1) (h2:Snd g nm k sc e2 f2) (h3:Snd g nm k sc e3 f3) (hs1:∀ env,starEach [e1,e2,e3] env=(false,eval e1 env)::starEach [e2,e3] env) (hs2:∀ env,starEach [e2,e3] env=(false,eval e2 env)::starEach [e3] env) (hs3:∀ env,starEach [e3] env=(false,eval e3 env)::starEach [] env) (hst:∀ env,starEach [e1,e2,e3] env=[(false,eval e1 env),(false,eval e2 env),(false,eval e3 env)]):
  SI g nm k sc true (.Call (.Name "zip" p) [e1,e2,e3] [] pos) (zik [f1,f2,f3]):=by
 intro A env s ad base U W its hr he hx hp Q E hQ
 have L:jl g nm k sc [e1,e2,e3] [f1,f2,f3]:=jl.cons h1 (jl.cons h2 (jl.cons h3 jl.nil hs3) hs2) hs1
 refine bc fun J=> ?_
 obtain ⟨ps,ea,hp⟩:=Qe hp
 obtain ⟨hok,hp⟩:=jg hp
 obtain ⟨ls,em,hp⟩:=Qe hp
 have ea0:=ea
 obtain ⟨p1,ps1,rfl,d1,ea⟩:=Zo ea
 obtain ⟨p2,ps2,rfl,d2,ea⟩:=Zo ea
 obtain ⟨p3,ps3,rfl,d3,ea⟩:=Zo ea
 cases si ea
 obtain ⟨l1,l2,l3,q1,q2,q3,rfl⟩:=z55 em
 obtain ⟨hl,rfl⟩:=z0 hp
 obtain ⟨k1,hok⟩:=zak hok
 obtain ⟨k2,hok⟩:=zak hok
 obtain ⟨k3,_⟩:=zak hok
 obtain ⟨hl2,hl⟩:=zak hl
 refine J ?_
 refine Zc hr he hx hn G (.type _) L ea0 (by rw [hst];rfl) (by decide) fun vs s₁ g₁ r₁=> ?_
 have x1:=hx.keeps g₁.h
 refine bc fun J=> ?_
 obtain ⟨v1,v2,v3,rfl,r1,r2,r3⟩:=r₁.three
 obtain ⟨oit1,fp1,St1,X1,no1⟩:=zbi x1.sto r1 q1
 obtain ⟨oit2,fp2,St2,X2,no2⟩:=zbi x1.sto r2 q2
 obtain ⟨oit3,fp3,St3,X3,no3⟩:=zbi x1.sto r3 q3
 refine J ?_
 exact zmo X1.iter X1.nf X2.iter X2.nf X3.iter X3.nf fun h' kp a1 a2 a3 aTI aTO az=> wpAny_pyIter_zip az (zoo (zs:=[X1.zi 0,X2.zi 1,X3.zi 2]) [5,3,4,0,1,2] rfl (by decide)
  (List.forall_mem_cons.mpr ⟨X1.zg (no1 base k1) a1,List.forall_mem_cons.mpr ⟨X2.zg (no2 base k2) a2,List.forall_mem_cons.mpr ⟨X3.zg (no3 base k3) a3,fun V h=> (ya h).elim⟩⟩⟩) (List.cons_ne_nil _ _) (show (3:Nat)≤100 by decide)
  (List.forall_mem_cons.mpr ⟨rfl,List.forall_mem_cons.mpr ⟨xx hl2,List.forall_mem_cons.mpr ⟨xx (zak hl).1,fun V h=> (ya h).elim⟩⟩⟩) (zea q1) kp az aTI aTO rfl g₁ hQ)
end
end
set_option backward.match.sparseCases true
section
theorem zgl:∀ (names:List (Str×NameKind)) (start:Nat) (acc:List (Str×Addr)),(∀ n c,(n,c)∈acc→∃ k,(n,k)∈([]:List (Str×NameKind)))→∀ n c,(n,c)∈cellsFrom start names acc→∃ k,(n,k)∈names:=by
 have gen:∀ (names:List (Str×NameKind)) (start:Nat) (acc:List (Str×Addr)) n c,(n,c)∈cellsFrom start names acc→(∃ k,(n,k)∈names)∨(n,c)∈acc:=by
  intro names
  induction names with
  | nil=> intro start acc n c h;exact .inr h
  | cons x r ih=>
   obtain ⟨m,kd⟩:=x
   intro start acc n c h
   unfold cellsFrom at h
   split at h
   ·rcases ih _ _ _ _ h with ⟨k,hk⟩ | h
    ·exact .inl ⟨k,xf _ hk⟩
    ·rcases List.mem_cons.mp h with e | h
     ·cases e;exact .inl ⟨kd,xk⟩
     ·exact .inr h
   ·rcases ih _ _ _ _ h with ⟨k,hk⟩ | h
    ·exact .inl ⟨k,xf _ hk⟩
    ·exact .inr h
 intro names start acc ha n c h
 rcases gen names start acc n c h with h | h
 ·exact h
 ·obtain ⟨k,hk⟩:=ha n c h;cases hk
theorem FnOk.enter {g:GC}{nm:Nat→Str}{k:Nat}{a:Addr}{o:Obj}{fd:FuncData}{body:List Stmt}{ids:List Nat}{f:Stm} (X:FnOk g nm k a o fd body ids f) (hinj:∀ i j,nm i=nm j→i=j)
  {A:Around}{s s':Shared}{ad:AD}{W:Sto}{args:Args}{binds:List (Str×Value)}{bps:List PV}{R:Result→Shared→Prop}
  (hr:Room (k + 1) A) (w:Wd g ad W s.heap) (gr:Gr s s') (hbind:∀ (M:Model) (A:Around) (E:Value→Shared→Prop) (Q:List (Str×Value)→Shared→Prop),Q binds s'→wpAny M A (bindArgs fd args) Q E s)
  (hn:binds.map (·.1)=ids.map nm) (rv:zh g ad s'.heap bps (binds.map (·.2)))
  (h:∀ (env:Env) (h1:Heap) (tk1:Nat) (l:List Addr),ES env fd.scope→FO env fd.scope (ad.ban l)→(∀ n,Own fd.scope n→ji env n∈l)→(∀ b∈l,s'.heap.get? b=none)→env.locals∈l→(∀ n c,env.cells.lookup n=some c→c∈l)→(∀ b∈l,∃ o,h1.get? b=some o)→
   Cx g nm env (ad.ban l) (qw ids bps Zy) W h1→(∀ b o,s'.heap.get? b=some o→h1.get? b=some o)→∀ E:Value→Shared→Prop,wpAny (model g.prog g.w) (A.deeper env) (execs body env) (fun f s''=> R (.ok (.ret (match f with | .ret v=> v | _=> .none))) s'') E {s with heap:=h1,toks:=tk1}):
  codeAny (model g.prog g.w) A (.call (.ref a) args) R s:=by
 have hpar:∀ x∈binds,fd.scope.names.lookup x.1=some .local∨fd.scope.names.lookup x.1=some .cell:=fun x hx=> by
  have:x.1∈ids.map nm:=by rw [←hn];exact xr.mpr ⟨x,hx,rfl⟩
  obtain ⟨i,hi,e⟩:=xr.mp this
  have:=xo.mp X.par i hi
  rw [e] at this
  rcases Bool.or_eq_true_iff.mp this with h | h
  ·exact .inl (xx h)
  ·exact .inr (xx h)
 have w':=w.keeps gr.h
 refine codeAny_call_function hr.lt (w.kin a o X.ho) X.data X.co X.gen X.bod (X.code _ w.kin) ?_
 refine hbind _ _ _ _ ?_
 rw [X.clo]
 refine wpAny_newFunctionEnv_cells X.kind (fun x hx=> (hpar x hx).elim .inl fun h=> .inr ⟨h,j5 _ _ _ (.inl h)⟩) fun env henv s1 x=> ?_
 have hsc:env.scope=fd.scope:=by subst henv;rfl
 have hES:ES env fd.scope:=⟨hsc,by subst henv;exact X.glob,by subst henv;exact X.blt,X.kind⟩
 obtain ⟨h1,tk1,e1⟩:=x.toInCall.same
 have k1:=x.toInCall.keep
 subst e1
 dsimp only at k1
 have w1:=w'.keeps k1
 refine ⟨w1.top.nolimit,codeAny_func ?_⟩
 have hcell:∀ n,fd.scope.names.lookup n=some .cell→∃ c,env.cells.lookup n=some c:=fun n hc=> Option.isSome_iff_exists.mp (by subst henv;exact j5 _ _ _ (.inl hc))
 have hnf:∀ n,fd.scope.names.lookup n≠some .free:=fun n e=> by
  have:=xo.mp X.free _ (zbk e);exact xx this rfl
 have sh1:EnvSh env h1:=⟨⟨_,x.toInCall.ns⟩,fun n c e=> ⟨_,x.cell n c e⟩,fun n n' c e e'=> name_of_addr x.apart (mem_of_lookup e) (mem_of_lookup e'),fun n h=> by
  rcases h with h | h
  ·exact hcell n (by rw [←hsc];exact h)
  ·exact absurd (show fd.scope.names.lookup n=some .free by rw [←hsc];exact h) (hnf n)⟩
 generalize hl:env.locals::fd.scope.names.filterMap (fun x=> env.cells.lookup x.1)=l
 have hmem:∀ b∈l,b=env.locals∨∃ n,env.cells.lookup n=some b:=fun b hb=> by
  rw [←hl] at hb
  rcases List.mem_cons.mp hb with h | h
  ·exact .inl h
  ·obtain ⟨y,_,e⟩:=List.mem_filterMap.mp h;exact .inr ⟨y.1,e⟩
 have lnone:∀ b∈l,s'.heap.get? b=none:=fun b hb=> by
  have hge:s'.heap.objs.size≤b:=by
   rcases hmem b hb with rfl | ⟨n,e⟩
   ·exact x.toInCall.fresh
   ·exact Nat.le_of_lt (Nat.lt_of_le_of_lt x.toInCall.fresh (x.above n b (mem_of_lookup e)))
  cases e:s'.heap.get? b with
  | none=> rfl
  | some o=> exact absurd (Heap.lt_size e) (Nat.not_lt.mpr hge)
 have lsome:∀ b∈l,∃ o,h1.get? b=some o:=fun b hb=> by
  rcases hmem b hb with rfl | ⟨n,e⟩
  ·exact q9 x.toInCall.ns
  ·exact Zu (x.cell n b e)
 have hown:∀ n,Own fd.scope n→ji env n∈l:=fun n hn=> by
  rw [←hl]
  rcases hn with hn | hn
  ·have:env.kindOf n=some .local:=by unfold Env.kindOf;rw [hsc];exact hn
   unfold ji;rw [if_pos this];exact xk
  ·have hk:env.kindOf n=some .cell:=by unfold Env.kindOf;rw [hsc];exact hn
   obtain ⟨c,hc⟩:=hcell n hn
   unfold ji;rw [if_neg (by rw [hk];decide),hc]
   exact xf _ (List.mem_filterMap.mpr ⟨(n,.cell),zbk hn,hc⟩)
 have B0:zki g nm (ad.ban l) h1 env.kindOf (qw ids bps Zy) (bindL env.kindOf binds fun V=> none) (bindC env.kindOf binds fun V=> none):=by
  refine zkt hinj binds ids bps Zy _ _ hn (zh.stays (Stays.ban k1 lnone) bps _ rv) (fun y hy=> ?_) fun i pv e=> (by cases e)
  unfold Env.kindOf;rw [hsc];exact hpar y hy
 have cx:Cx g nm env (ad.ban l) (qw ids bps Zy) W h1:=by
  refine ⟨w1.kin,w1.top,fun i pv e=> ?_,w'.sto.banned k1 lnone lsome,fun b o e=> AD.ban_no.mpr ⟨w.kno b o e,qp lnone ⟨o,w'.kin b o e⟩⟩,
   ⟨AD.ban_no.mpr ⟨w.tno.1,qp lnone (q9 w'.top.g)⟩,AD.ban_no.mpr ⟨w.tno.2.1,qp lnone (q9 w'.top.b)⟩,AD.ban_no.mpr ⟨w.tno.2.2,qp lnone (let ⟨_,q,_⟩:=w'.top.nolimit;q9 q)⟩⟩,sh1⟩
  obtain ⟨v,r,d⟩:=B0 i pv e
  refine ⟨v,r, ?_⟩
  rcases d with ⟨a1,b1⟩ | ⟨a1,b1⟩
  ·exact .inl ⟨a1,_,x.toInCall.ns,b1⟩
  ·obtain ⟨c,hc⟩:=hcell (nm i) (by rw [←hsc];exact a1)
   refine .inr ⟨.inl a1,c,hc, ?_⟩
   have:=x.cell _ c hc
   rw [b1] at this;exact this
 have hlc:env.locals∈l:=by rw [←hl];exact xk
 have hcc:∀ n c,env.cells.lookup n=some c→c∈l:=fun n c e=> by
  by_cases hin:∃ k,(n,k)∈fd.scope.names
  ·obtain ⟨k,hin⟩:=hin
   rw [←hl];exact xf _ (List.mem_filterMap.mpr ⟨(n,k),hin,e⟩)
  ·exfalso
   subst henv
   exact hin (zgl _ _ [] (by intro _ _ h;cases h) n c (mem_of_lookup e))
 obtain ⟨h0,tk0,e0⟩:=gr.eq
 subst e0
 exact h env h1 tk1 l hES ⟨fun n hn=> List.mem_append_left _ (hown n hn)⟩ hown lnone hlc hcc lsome cx k1 _
section
variable {g:GC}{nm:Nat→Str}{k:Nat}{sc:Scope}
theorem Wd.newList {ad:AD}{W:Sto}{h:Heap} (w:Wd g ad W h):NC W.length ad ⟨ad.m ++ [h.objs.size],ad.b⟩ h (h.push {cls:= .type "list",data:= .seq #[]})∧Wd g ⟨ad.m ++ [h.objs.size],ad.b⟩ (W ++ [[]]) (h.push {cls:= .type "list",data:= .seq #[]}):=by
 have kp:∀ b o,h.get? b=some o→(h.push {cls:= .type "list",data:= .seq #[]}).get? b=some o:=fun b o e=> xb _ e
 have nN:∀ {b:Addr}{o:Obj},h.get? b=some o→b≠h.objs.size:=fun e=> Nat.ne_of_lt (Heap.lt_size e)
 have no':∀ {b:Addr}{o:Obj},h.get? b=some o→ad.no b→(⟨ad.m ++ [h.objs.size],ad.b⟩:AD).no b:=fun e n=> ⟨fun m=> (List.mem_append.mp m).elim n.1 fun m=> nN e (by simpa using m),n.2⟩
 have ns':∀ {b:Addr},(∃ o,h.get? b=some o)→ad.no b→(⟨ad.m ++ [h.objs.size],ad.b⟩:AD).no b:=fun ⟨_,e⟩ n=> no' e n
 have nc:NC W.length ad ⟨ad.m ++ [h.objs.size],ad.b⟩ h (h.push {cls:= .type "list",data:= .seq #[]}):=by
  refine ⟨fun b o V e=> kp b o e,fun i a e=> ?_,by simp,fun i a e hi=> ?_,rfl,fun b o e=> ⟨o,kp b o e⟩⟩
  ·show (ad.m ++ [h.objs.size])[i]? =some a
   rw [List.getElem?_append_left (xe.mp e).1];exact e
  ·have e:(ad.m ++ [h.objs.size])[i]? =some a:=e
   rw [List.getElem?_append_right hi] at e
   have:i - ad.m.length=0:=by
    have:=(xe.mp e).1;simp at this;lia
   rw [this] at e;simp at e;subst e;exact get?_size h
 refine ⟨nc,w.kin.keeps kp,w.top.keeps kp,⟨by simp [w.sto.len], ?_,fun b m=> let ⟨o,e⟩:=w.sto.ban b m;⟨o,kp b o e⟩,fun b m m'=> ?_,fun i a l e1 e2=> ?_⟩,fun a o e=> no' (w.kin a o e) (w.kno a o e),
  ns' (let ⟨_,e⟩:=q9 w.top.g;⟨_,e⟩) w.tno.1,ns' (let ⟨_,e⟩:=q9 w.top.b;⟨_,e⟩) w.tno.2.1,ns' (let ⟨_,q,_⟩:=w.top.nolimit;let ⟨_,e⟩:=q9 q;⟨_,e⟩) w.tno.2.2⟩
 ·show (ad.m ++ [h.objs.size]).Nodup
  rw [List.nodup_append]
  refine ⟨w.sto.nd,by simp,fun a ha b hb e=> ?_⟩
  simp at hb;subst hb;subst e
  obtain ⟨o,e⟩:=w.sto.m_some ha
  exact nN e rfl
 ·rcases List.mem_append.mp m' with m' | m'
  ·exact w.sto.dis b m m'
  ·simp at m';obtain ⟨o,e⟩:=w.sto.ban b m;exact nN e m'
 ·have e1:(ad.m ++ [h.objs.size])[i]? =some a:=e1
  by_cases hi:i < ad.m.length
  ·rw [List.getElem?_append_left hi] at e1
   rw [List.getElem?_append_left (by rw [←w.sto.len];exact hi)] at e2
   obtain ⟨vs,p,r⟩:=w.sto.at_ i a l e1 e2
   exact ⟨vs,p.at fun o e=> kp _ o e,zh.mv nc.mv l _ r⟩
  ·have hle:=Nat.le_of_not_lt hi
   rw [List.getElem?_append_right hle] at e1
   rw [List.getElem?_append_right (by rw [←w.sto.len];exact hle)] at e2
   have h0:i - ad.m.length=0:=by
    have:=(xe.mp e1).1;simp at this;lia
   rw [h0] at e1;rw [←w.sto.len,h0] at e2
   simp at e1 e2;subst e1 e2
   exact ⟨#[],⟨0,xj _ rfl⟩,.nil⟩
theorem NC.mono {base base':Nat}{ad ad':AD}{h h':Heap} (x:NC base' ad ad' h h') (hb:∀ i a,ad.m[i]? =some a→i < base→i < base'):NC base ad ad' h h':=
 ⟨fun b o hi e=> x.keep b o (fun i ei=> hb i b ei (hi i ei)) e,x.pre,x.len,x.new,x.b,x.alive⟩
noncomputable def zpg:zcu:=fun V V W=> some (.mref W.length,W ++ [[]])
theorem SE.new {pos:Pos}:SE g nm k sc (.List [] pos) zpg:=by
 intro A env s ad base U W pv W' hr he F hx hp Q E hQ
 cases hp
 refine wpAny_List (spliced_nil ⟨by rw [sizeLine_eq];exact yc _, ?_⟩)
 obtain ⟨nc,w⟩:=hx.wd.newList
 have nc':NC base ad ⟨ad.m ++ [s.heap.objs.size],ad.b⟩ s.heap (s.heap.push {cls:= .type "list",data:= .seq #[]}):=nc.mono fun i a e V=> by rw [←hx.sto.len];exact (xe.mp e).1
 refine hQ _ _ s.toks _ nc'.nx ?_ (hx.nc nc' w)
 refine ⟨s.heap.objs.size,rfl, ?_⟩
 show (ad.m ++ [s.heap.objs.size])[W.length]? =_
 rw [←hx.sto.len];simp
end
end
set_option backward.match.sparseCases false
section
section
variable {prog:Program}{w:World}{A:Around}{s:Shared}{K:Frag}{x C dx:Addr}{E:Value→Shared→Prop}
theorem z0m {name:Str}{tk:Tok}{v:Value}{R:Result→Shared→Prop} (X:K.In s.heap) (hx0:s.heap.get? x=some (instObj C dx)) (hd0:s.heap.get? dx=some emptyDict)
  (hp:plainOver K C=true) (ht:takerIn K C name=some none) (hh:(clsIn K C).any (·.hasDict)=true)
  (h:∀ h' hsh,h'.get? dx=some (dictOf [⟨hsh,.str name s.toks,v⟩] 1)→Heap.SameBut dx s.heap h'→R (.ok (.ret .none)) {s with heap:=h',toks:=s.toks + 1}):
  codeAny (model prog w) A (.call (.builtin "object.__setattr__") ⟨[.ref x,.str name tk,v],[]⟩) R s:=by
 have I:InstAt s.heap x (instObj C dx) C (some emptyDict):=⟨hx0,rfl,rfl,hd0⟩
 refine osa_open X I hp ht fun b=> ?_
 refine bc fun J=> ?_
 obtain ⟨cd,hc,hd'⟩:=any_some hh
 refine J ?_
 have e:Obj.putName name (PyData.keyHash w.params name) (.str name s.toks) v emptyDict=dictOf [⟨PyData.keyHash w.params name,.str name s.toks,v⟩] 1:=putName_dict name _ _ v [] 0
 have hu:(s.heap.update dx (Obj.putName name (PyData.keyHash w.params name) (.str name s.toks) v)).get? dx=some (dictOf [⟨PyData.keyHash w.params name,.str name s.toks,v⟩] 1):=by
  rw [Heap.get?_update_self _ hd0 (by rw [e];rfl),e]
 refine xa (xg (xa (xa (wpAny_loadPart hx0 (xa ((looks_clsIn X hc).here ?_))))))
 rw [hd']
 refine xg (a:=some dx) (xa (xg (xa ?_)))
 unfold nsSet
 refine xa (xa (wpAny_askSetting (xg (xa (wpAny_mkText (xa (wpAny_loadPart hd0 ?_)))))))
 dsimp only [emptyDict]
 rw [aRefKeyMayBeTheName_at,show ((!(#[]:Array DictEntry).any fun x=> x.key.isStr name) && (#[]:Array DictEntry).any fun x=> x.refKey)=false by simp]
 refine wpAny_updatePart hd0 ?_
 refine xa (wpAny_lookBehind hu (pastItsLine_dict (by rw [List.size_toArray,sizeLine_eq];show (1:Nat)≤_;decide)) ?_)
 exact xg (h _ _ hu (Heap.SameBut.update ..))
end
end
section
theorem Wd.unban {g:GC}{ad:AD}{L:List Addr}{W:Sto}{h:Heap} (w:Wd g (ad.ban L) W h):Wd g ad W h:=by
 refine ⟨w.kin,w.top,⟨w.sto.len,w.sto.nd,fun b m=> w.sto.ban b (xu _ m),fun b m=> w.sto.dis b (xu _ m),fun i a' w9 e1 e2=> ?_⟩,
   fun b o e=> (AD.ban_no.mp (w.kno b o e)).1,⟨(AD.ban_no.mp w.tno.1).1,(AD.ban_no.mp w.tno.2.1).1,(AD.ban_no.mp w.tno.2.2).1⟩⟩
 obtain ⟨vs,p,r⟩:=w.sto.at_ i a' w9 e1 e2
 exact ⟨vs,p,zh.mv (Mv.unban fun b o V e=> e) w9 _ r⟩
theorem Wd.ban {g:GC}{ad:AD}{l:List Addr}{W:Sto}{h h':Heap} (x:Wd g ad W h) (k:∀ b o,h.get? b=some o→h'.get? b=some o) (hf:∀ b∈l,h.get? b=none) (ha:∀ b∈l,∃ o,h'.get? b=some o):Wd g (ad.ban l) W h':=
 ⟨x.kin.keeps k,x.top.keeps k,x.sto.banned k hf ha,fun a o e=> AD.ban_no.mpr ⟨x.kno a o e,qp hf ⟨o,x.kin a o e⟩⟩,
  ⟨AD.ban_no.mpr ⟨x.tno.1,qp hf (q9 x.top.g)⟩,AD.ban_no.mpr ⟨x.tno.2.1,qp hf (q9 x.top.b)⟩,AD.ban_no.mpr ⟨x.tno.2.2,qp hf (let ⟨_,q,_⟩:=x.top.nolimit;q9 q)⟩⟩⟩
section
variable {g:GC}{nm:Nat→Str}{k:Nat}{sc:Scope}
structure HdrMk (g:GC) (fI:Addr):Prop where
 makes:makesIn g.K g.hd=true
 init:findIn g.K (.ref g.hd) "__init__"=some (some (.ref fI))
 fn:typeIn g.K (.ref fI)=some (.type "function")
 seta:findIn g.K (.ref g.hd) "__setattr__"=some (some (.builtin "object.__setattr__"))
 over:plainOver g.K g.hd=true
 taker:takerIn g.K g.hd "_headers"=some none
 dict:(clsIn g.K g.hd).any (·.hasDict)=true
theorem zui (C:Addr):(Code.builtin "type.__call__" ⟨[.ref C],[]⟩).weight=1:=by rfl
theorem zyg (C:Addr):(Code.builtin "type.__call__" ⟨[.ref C],[]⟩).cUnits=1:=by rfl
theorem zr7 {A:Around}{C:Addr} (r:Room (k + 1) A):Room k (A.under (.builtin "type.__call__" ⟨[.ref C],[]⟩)):=by
 refine ⟨r.handled, ?_, ?_⟩
 ·have:=r.depth;show A.depth + (Code.builtin "type.__call__" ⟨[.ref C],[]⟩).weight + k≤700;rw [zui];lia
 ·have:=r.units;show A.units + (Code.builtin "type.__call__" ⟨[.ref C],[]⟩).cUnits + 20 * k≤9000;rw [zyg];lia
theorem zky {fI:Addr}{o:Obj}{fd:FuncData}{iS iH:Nat}{nS nH:Str}{st1 st2 st4:Stmt}{p1 p2 p3 pos:Pos}{f1 f2 f4:Stm}{U1:Addr→Sto→Ren} (H:HdrMk g fI)
  (hinj:∀ i j,nm i=nm j→i=j) (hS:nm iS=nS) (hH:nm iH=nH) (dS:(nS==("__debug__":Str))=false) (dH:(nH==("__debug__":Str))=false) (cS:(nS==("__classdict__":Str))=false) (cH:(nH==("__classdict__":Str))=false)
  (X:FnOk g nm k fI o fd [st1,st2,.Assign [.Attribute (.Name nS p1) "_headers" p2] (.Name nH p3) pos,st4] [iS,iH] Qz)
  (hb:∀ (s:Shared) (x:Addr),g.K.In s.heap→BindsTo s fd ⟨[.ref x],[]⟩ [(nS,.ref x),(nH,.none)])
  (S1:SX g nm k fd.scope st1 f1) (e1:∀ x base W,f1 base (qw [iS,iH] [.raw x,.none] Zy) W=some (.next,U1 x W,W ++ [[]])) (q1:∀ x W,U1 x W iH=some (.mref W.length)) (q2:∀ x W,U1 x W iS=some (.raw x))
  (S2:SX g nm k fd.scope st2 f2) (e2:∀ x base W,f2 base (U1 x W) (W ++ [[]])=some (.next,U1 x W,W ++ [[]]))
  (S4:SX g nm k fd.scope st4 f4) (e4:∀ x base W,f4 base (U1 x W) (W ++ [[]])=some (.next,U1 x W,W ++ [[]]))
  (hs3:∀ env,env.scope=fd.scope→swapsWith (.Name nH p3) (some (.Attribute (.Name nS p1) "_headers" p2)) pos.line env=pure false)
  {A:Around}{s:Shared}{ad:AD}{W:Sto}{base:Nat}{Q:Value→Shared→Prop}{E:Value→Shared→Prop} (hr:Room (k + 2) A) (w:Wd g ad W s.heap)
  (hQ:∀ v h' tk ad',NC base ad ad' s.heap h'→zk g ad' h' (.hdr W.length) v→Wd g ad' (W ++ [[]]) h'→Q v {s with heap:=h',toks:=tk}):
  wpAny (model g.prog g.w) A (call (.ref g.hd) []) Q E s:=by
 obtain ⟨hp,gg,d,tk,os⟩:=s
 dsimp only at w hQ
 refine wpAny_call (make_core (makes_of w.kin H.makes) (looks_findIn w.kin H.init) (fun self=> bind_fn w.kin self H.fn) (.inl rfl) ?_)
 generalize hh0:(hp.push emptyDict).push (instObj g.hd hp.objs.size)=h0
 have k0:∀ b o,hp.get? b=some o→h0.get? b=some o:=fun b o e=> by rw [←hh0];exact xb _ (xb _ e)
 have hd0:h0.get? hp.objs.size=some emptyDict:=by rw [←hh0];exact xb _ (xj _ rfl)
 have hx0:h0.get? (hp.objs.size + 1)=some (instObj g.hd hp.objs.size):=by
  rw [←hh0]
  have:=xj (hp.push emptyDict) (o:=instObj g.hd hp.objs.size) rfl
  rwa [xv] at this
 have hdn:hp.get? hp.objs.size=none:=get?_size hp
 have hxn:hp.get? (hp.objs.size + 1)=none:=by
  cases e:hp.get? (hp.objs.size + 1) with
  | none=> rfl
  | some o=>
   have h9:hp.objs.size + 1 < hp.objs.size:=Heap.lt_size e
   exact absurd h9 (by lia)
 generalize hdd:hp.objs.size=dd at hd0 hx0 hdn hxn
 generalize hxx:dd + 1=x at hx0 hxn
 have xd:x≠dd:=by rw [←hxx];exact Nat.succ_ne_self _
 have w0:Wd g (ad.ban [dd]) W h0:=w.ban k0 (fun b m=> by simp at m;subst m;exact hdn) fun b m=> by simp at m;subst m;exact ⟨_,hd0⟩
 refine X.enter (s:=⟨h0,gg,d,tk,os⟩) (s':=⟨h0,gg,d,tk,os⟩) (ad:=ad.ban [dd]) (W:=W) (bps:=[.raw x,.none]) hinj (zr7 hr) w0 (Gr.refl _) (fun M A E Q q=> hb ⟨h0,gg,d,tk,os⟩ x w0.kin M A E Q q) (by simp [hS,hH]) (.cons (by rfl) (.cons zff .nil)) fun env h1 tk1 l hES F hown lnone hlc hcc lsome cx k1 E1=> ?_
 dsimp only at lnone k1
 have hr':Room k ((A.under (.builtin "type.__call__" ⟨[.ref g.hd],[]⟩)).deeper env):=(zr7 hr).deeper
 refine wpAny_execs_cons (S1 _ env ⟨h1,gg,d,tk1,os⟩ ((ad.ban [dd]).ban l) W.length _ W .next _ _ hr' hES F cx (e1 x _ _) _ _ fun fv h2 tk2 ad2 x2 r2 c2=> ?_)
 cases r2
 refine wpAny_execs_cons (S2 _ env ⟨h2,gg,d,tk2,os⟩ ad2 W.length _ _ .next _ _ hr' hES (F.nx x2) c2 (e2 x _ _) _ _ fun fv h3 tk3 ad3 x3 r3 c3=> ?_)
 cases r3
 have x23:=x2.trans x3
 refine wpAny_execs_cons (plainObj_wpAny_Assign_Attribute ?_ (hs3 env hES.scope))
 refine xp ((Snd.var (k:=k) (pos:=p3) hH dH cH) _ env ⟨h3,gg,d,tk3,os⟩ ad3 _ _ _ hr' hES c3 (q1 x W) _) (fun va sa hva=> ?_) fun V V z=> z
 obtain ⟨ga,ra⟩:=hva
 have ka:=ga.h
 obtain ⟨ha,tka,rfl⟩:=ga.eq
 dsimp only at ka ra
 have ca:=c3.keeps ka
 refine xp ((Snd.var (k:=k) (pos:=p1) hS dS cS) _ env ⟨ha,gg,d,tka,os⟩ ad3 _ _ _ hr' hES ca (q2 x W) _) (fun vs ss hvs=> ?_) fun V V z=> z
 obtain ⟨gs,rs⟩:=hvs
 have ks:=gs.h
 obtain ⟨h4,tk4,rfl⟩:=gs.eq
 dsimp only at ks rs
 have c4:=ca.keeps ks
 have r4:=ra.keeps ks
 subst rs
 obtain ⟨a,rfl,ea⟩:=r4
 have x24:Nx W.length env fd.scope ((ad.ban [dd]).ban l) ad3 h1 h4:=(x23.trans (Nx.of_keeps ka)).trans (Nx.of_keeps ks)
 have am:∀ {b:Addr}{i:Nat},hp.get? b=none→ad.m[i]? ≠some b:=fun e ei=> by
  obtain ⟨o,e'⟩:=w.sto.m_some (xw ei);rw [e] at e';cases e'
 have nslot:∀ {b:Addr}{o:Obj},h0.get? b=some o→∀ n,Own fd.scope n→b≠ji env n:=fun e n hn e'=> by
  have:=lnone _ (hown n hn);rw [←e',e] at this;cases this
 have hx4:h4.get? x=some (instObj g.hd dd):=by
  refine x24.keep x _ (fun i ei=> absurd ei (am hxn)) (nslot hx0) (k1 _ _ (by rw [←hdd];rw [hdd];exact hx0))
 have hd4:h4.get? dd=some emptyDict:=x24.keep dd _ (fun i ei=> absurd ei (am hdn)) (nslot hd0) (k1 _ _ hd0)
 refine set_plain c4.kin (od:=some emptyDict) (I:=⟨hx4,rfl,rfl,hd4⟩) H.seta ?_
 refine z0m (s:=⟨h4,gg,d,tk4 + 1,os⟩) c4.kin hx4 hd4 H.over H.taker H.dict fun h5 hsh hd5 hs5=> ?_
 dsimp only at hd5 hs5⊢
 have ddb:dd∈ad3.b:=by rw [x23.b];simp [AD.ban]
 have st5:Stays ad3 ad3 h4 h5:=Stays.but ddb hs5.extBut ⟨_,hd5⟩
 have ddl:dd∉l:=fun m=> by have:=lnone dd m;rw [hd0] at this;cases this
 have c5:Cx g nm env ad3 (U1 x W) (W ++ [[]]) h5:=c4.step (L:=[dd]) st5 (fun b o hb e=> hs5.extBut b o (fun e'=> hb (by simp [e'])) e) (fun m=> by simp at m;exact ddl (m▸hlc)) (fun n c e m=> by simp at m;exact ddl (m▸hcc n c e)) fun b m=> by simp at m;subst m;exact ddb
 refine wpAny_execs_cons (S4 _ env ⟨h5,gg,d,tk4 + 1 + 1,os⟩ ad3 W.length _ _ .next _ _ hr' hES (F.nx x23) c5 (e4 x _ _) _ _ fun fv h6 tk6 ad6 x6 r6 c6=> ?_)
 cases r6
 refine wpAny_execs_nil ⟨rfl, ?_⟩
 have b6:ad6=(⟨ad6.m,ad.b⟩:AD).ban (l ++ [dd]):=by
  have:=x6.b;rw [x23.b] at this
  cases ad6;simp only [AD.ban] at this⊢;rw [this];simp
 have old3:∀ {i:Nat}{b:Addr}{o:Obj},ad3.m[i]? =some b→h0.get? b=some o→ad.m[i]? =some b:=fun ei e=> x24.old ei (k1 _ _ e)
 have old6:∀ {i:Nat}{b:Addr}{o:Obj},ad6.m[i]? =some b→h0.get? b=some o→ad.m[i]? =some b:=fun {i b o} ei e=> by
  have h5some:∃ o',h5.get? b=some o':=by
   by_cases hbd:b=dd
   ·subst hbd;exact ⟨_,hd5⟩
   ·refine bc fun J=> ?_
    obtain ⟨o',e'⟩:=x24.alive b o (k1 _ _ e)
    refine J ?_
    exact ⟨o',hs5.extBut b o' hbd e'⟩
  obtain ⟨o',e'⟩:=h5some
  exact old3 (x6.old ei e') e
 have hx6:h6.get? x=some (instObj g.hd dd):=x6.keep x _ (fun i ei=> absurd (old3 ei hx0) (am hxn)) (nslot hx0) (hs5.extBut _ _ xd hx4)
 have hd6:=x6.keep dd _ (fun i ei=> absurd (old3 ei hd0) (am hdn)) (nslot hd0) hd5
 have notd:∀ {b:Addr}{o:Obj},hp.get? b=some o→b≠dd:=fun e e'=> by subst e';rw [hdn] at e;cases e
 have nc:NC base ad ⟨ad6.m,ad.b⟩ hp h6:=by
  refine NC.mono (base':=W.length) ⟨fun b o hi e=> ?_,fun i a' e=> x6.pre i a' (x23.pre i a' e),x8 x23.len x6.len,fun i a' e hi=> ?_,rfl,fun b o e=> ?_⟩ fun i a' e V=> by rw [←w.sto.len];exact (xe.mp e).1
  ·refine x6.keep b o (fun i ei=> hi i (old3 ei (k0 b o e))) (nslot (k0 b o e)) (hs5.extBut b o (notd e) (x24.keep b o hi (nslot (k0 b o e)) (k1 _ _ (k0 b o e))))
  ·cases e9:hp.get? a' with
   | none=> rfl
   | some o=>
    have:=old6 e (k0 _ _ e9)
    exact absurd (xe.mp this).1 (Nat.not_lt.mpr hi)
  ·obtain ⟨o',e'⟩:=x24.alive b o (k1 _ _ (k0 b o e))
   exact x6.alive b o' (hs5.extBut b o' (notd e) e')
 have w6:Wd g (⟨ad6.m,ad.b⟩:AD) (W ++ [[]]) h6:=by
  have:=c6.wd;rw [b6] at this;exact this.unban
 refine hQ (.ref x) h6 tk6 ⟨ad6.m,ad.b⟩ nc ?_ w6
 have nob:∀ {b:Addr}{o:Obj},hp.get? b=none→h0.get? b=some o→(⟨ad6.m,ad.b⟩:AD).no b:=fun {b o} en e=> ⟨fun m=> by
   obtain ⟨i,ei⟩:=List.getElem?_of_mem m
   exact am en (old6 ei e),fun m=> by obtain ⟨o',e'⟩:=w.sto.ban b m;rw [en] at e';cases e'⟩
 exact ⟨x,dd,a,rfl,nob hxn hx0,nob hdn hd0,x6.pre _ _ ea,hx6,hsh,_,1,hd6⟩
end
end
section
theorem Zb {m:Sre.M} (h:m.outcome.isSome=true):∀ n,Sre.M.runFor n m=m
 | 0=> rfl
 | n + 1=> by unfold Sre.M.runFor;rw [if_pos h]
theorem Jz:∀ (a b:Nat) (m:Sre.M),Sre.M.runFor (a + b) m=Sre.M.runFor b (Sre.M.runFor a m)
 | 0,b,m=> by rw [Nat.zero_add];rfl
 | a + 1,b,m=> by
  rw [show a + 1 + b=(a + b) + 1 by lia]
  by_cases h:m.outcome.isSome=true
  ·rw [Zb h,Zb h,Zb h]
  ·show (if m.outcome.isSome=true then m else Sre.M.runFor (a + b) m.step)=Sre.M.runFor b (if m.outcome.isSome=true then m else Sre.M.runFor a m.step)
   rw [if_neg h,if_neg h,Jz a b m.step]
theorem zaw {M:Model}{A:Around}{E:Value→Shared→Prop}{s:Shared}{Q:Sre.M→Shared→Prop}:∀ (k turns:Nat) (m:Sre.M),k < turns→(Sre.M.runFor (4 * k) m).outcome.isSome=true→Q (Sre.M.runFor (4 * k) m) s→
  wpAny M A (Builtin.Re.reDrive turns m) Q E s
 | k,0,m,hk,_,_=> absurd hk (Nat.not_lt_zero k)
 | k,turns + 1,m,hk,ho,hq=> by
  unfold Builtin.Re.reDrive Builtin.Re.reTurnSteps
  dsimp only
  by_cases h:(Sre.M.runFor 4 m).outcome.isSome=true
  ·rw [if_pos h]
   have e:Sre.M.runFor (4 * k) m=Sre.M.runFor 4 m:=by
    cases k with
    | zero=>
     have hm:m.outcome.isSome=true:=ho
     rw [Nat.mul_zero,Zb hm,Zb hm]
    | succ k=> rw [Nat.mul_succ,Nat.add_comm,Jz,Zb h]
   rw [e] at hq
   exact xg hq
  ·rw [if_neg h]
   cases k with
   | zero=>
    have hm:m.outcome.isSome=true:=ho
    rw [Zb hm] at h
    exact absurd hm h
   | succ k=>
    rw [Nat.mul_succ,Nat.add_comm,Jz] at ho hq
    exact xa (wpAny_rule (zaw k turns _ (by lia) ho hq))
theorem zah {M:Model}{A:Around}{E:Value→Shared→Prop}{s:Shared}{Q:PUnit→Shared→Prop}{m:Sre.M}:∀ (l:List Nat),Q ⟨⟩ s→
  wpAny M A (forIn l PUnit.unit fun i r=> do
   if m.seen.has i=true then rule (Sre.names.getD i "")
   pure (ForInStep.yield PUnit.unit)) Q E s
 | [],h=> by rw [List.forIn_nil];exact xg h
 | i::l,h=> by
  rw [List.forIn_cons]
  refine xa ?_
  dsimp only
  by_cases hs:m.seen.has i=true
  ·rw [if_pos hs];exact xa (wpAny_rule (xg (zah l h)))
  ·rw [if_neg hs];exact xg (zah l h)
noncomputable def zuo (m m':Sre.M) (n:Nat):Prop:=Sre.M.runFor n m=m'∧m'.outcome.isSome=true
theorem zuo.at4 {m m':Sre.M}{n:Nat} (h:zuo m m' n):Sre.M.runFor (4 * n) m=m':=by
 rw [show 4 * n=n + 3 * n by lia,Jz,h.1,Zb h.2]
theorem zft {M:Model}{A:Around}{E:Value→Shared→Prop}{s:Shared}{Q:Option Sre.M→Shared→Prop}{m m':Sre.M}{n:Nat} (h:zuo m m' n) (hn:n < 2 ^ 64) (ho:m'.outcome=some .matched) (hq:Q (some m') s):
  wpAny M A (Builtin.Re.reRunToEnd m) Q E s:=by
 unfold Builtin.Re.reRunToEnd
 refine xa (zaw n _ m hn (by rw [h.at4];exact h.2) ?_)
 rw [h.at4]
 refine xa (zah _ ?_)
 rw [ho];exact xg hq
theorem zce {M:Model}{A:Around}{E:Value→Shared→Prop}{s:Shared}{Q:Option Sre.M→Shared→Prop}{m m':Sre.M}{n:Nat} (h:zuo m m' n) (hn:n < 2 ^ 64) (ho:m'.outcome=some .failed) (hq:Q none s):
  wpAny M A (Builtin.Re.reRunToEnd m) Q E s:=by
 unfold Builtin.Re.reRunToEnd
 refine xa (zaw n _ m hn (by rw [h.at4];exact h.2) ?_)
 rw [h.at4]
 refine xa (zah _ ?_)
 rw [ho];exact xg hq
end
section
open PySem.Sre
noncomputable def C1:Array Nat:=#[14,4,0,1,1,6,1,16,46,1]
noncomputable def fr1 (s:Nat) (first:Bool):Sre.Frame:={wait:= .nextStart,pc:=5,pos:=s,outermost:=first}
def in1 (t:Array Nat) (lim ls:Nat) (must:Bool) (s:Nat) (first:Bool) (pc pos:Nat) (seen:Sre.Seen):M:=
 {code:=C1,text:=t,lim:=lim,start:=s,lastStart:=ls,mustAdvance:=must,pc:=pc,pos:=pos,handed:=s,outermost:=first,marks:=#[],lastmark:= -1,lastindex:= -1,
  frames:=[fr1 s first],weight:=1,seen:=seen}
noncomputable def bX (b:Bool) (Y Z:M):M:=if b=true then Y else Z
noncomputable def lX (lim s:Nat) (b:Bool) (Y Z:M):M:=if lim≤s then Z else match b with | true=> Y | false=> Z
noncomputable def zha (m:M):M:={m with seen:=m.seen.add 16,pc:=m.pc + 2,pos:=m.pos + 1}
noncomputable def zcx (m:M):M:=M.say {m with seen:=m.seen.add 16} false
theorem zer {lim s:Nat}{b:Bool}{Y Z:M} (h:s < lim) (e:b=true):lX lim s b Y Z=Y:=by subst e;exact if_neg (Nat.not_le.mpr h)
theorem zrt {lim s:Nat}{b:Bool}{Y Z:M} (h:¬(s < lim∧b=true)):lX lim s b Y Z=Z:=by
 unfold lX
 by_cases hs:lim≤s
 ·exact if_pos hs
 ·rw [if_neg hs]
  cases b
  ·rfl
  ·exact absurd ⟨Nat.lt_of_not_le hs,rfl⟩ h
theorem gd (t:Array Nat) (s c:Nat):(t.getD s 0==c)=true↔t[s]?.getD 0=c:=by rw [beq_iff_eq,Array.getD_eq_getD_getElem?]
section
variable (t:Array Nat) (lim ls:Nat) (must:Bool) (s:Nat) (first:Bool) (seen:Sre.Seen)
theorem z1u:M.step (in1 t lim ls must s first 5 s seen)=bX (s==0 || t.getD (s - 1) 0==10) (in1 t lim ls must s first 7 s ((seen.add 6).add 44)) ((in1 t lim ls must s first 5 s ((seen.add 6).add 44)).say false):=by kernel_rfl
theorem z1v:M.step (in1 t lim ls must s first 7 s seen)=lX lim s (t.getD s 0==46) (in1 t lim ls must s first 9 (s + 1) (seen.add 16)) ((in1 t lim ls must s first 7 s (seen.add 16)).say false):=by kernel_rfl
theorem at1:(s==0 || t.getD (s - 1) 0==10)=true↔s=0∨t[s - 1]?.getD 0=10:=by rw [Bool.or_eq_true,beq_iff_eq,gd]
theorem zx4 (h:s=0∨t[s - 1]?.getD 0=10):∃ seen',M.step (in1 t lim ls must s first 5 s seen)=in1 t lim ls must s first 7 s seen':=⟨_,(z1u ..).trans (if_pos ((at1 t s).mpr h))⟩
theorem zj9 (h:¬(s=0∨t[s - 1]?.getD 0=10)):∃ seen',M.step (in1 t lim ls must s first 5 s seen)=(in1 t lim ls must s first 5 s seen').say false:=⟨_,(z1u ..).trans (if_neg fun e=> h ((at1 t s).mp e))⟩
theorem z01 (h:s < lim) (hc:t[s]?.getD 0=46):∃ seen',M.step (in1 t lim ls must s first 7 s seen)=in1 t lim ls must s first 9 (s + 1) seen':=⟨_,(z1v ..).trans (zer h ((gd ..).mpr hc))⟩
theorem zh0 (h:¬(s < lim∧t[s]?.getD 0=46)):∃ seen',M.step (in1 t lim ls must s first 7 s seen)=(in1 t lim ls must s first 7 s seen').say false:=⟨_,(z1v ..).trans (zrt fun e=> h ⟨e.1,(gd ..).mp e.2⟩)⟩
def z4p:M:=M.say {in1 t lim ls must s first 9 (s + 1) (seen.add 1) with handed:=s + 1} true
theorem z6s:M.step (in1 t lim ls must s first 9 (s + 1) seen)=z4p t lim ls must s first seen:=by
 refine (by kernel_rfl:M.step (in1 t lim ls must s first 9 (s + 1) seen)=bX (first && (must && s + 1==s)) ((in1 t lim ls must s first 9 (s + 1) (seen.add 1)).say false) (z4p t lim ls must s first seen)).trans (if_neg ?_)
 rw [show (s + 1==s)=false from beq_eq_false_iff_ne.mpr (Nat.succ_ne_self s),Bool.and_false,Bool.and_false]
 exact xy
theorem z02:∃ m',M.runFor 3 (in1 t lim ls must s first 9 (s + 1) seen)=m'∧m'.outcome=some .matched∧m'.start=s∧m'.handed=s + 1:=
 ⟨M.runFor 2 (z4p t lim ls must s first seen),(by kernel_rfl:M.runFor 3 (in1 t lim ls must s first 9 (s + 1) seen)=M.runFor 2 (M.step (in1 t lim ls must s first 9 (s + 1) seen))).trans (congrArg (M.runFor 2) (z6s ..)),by kernel_rfl,by kernel_rfl,by kernel_rfl⟩
def z1l:M:=M.say {in1 t lim ls must s first 5 s seen with frames:=[],weight:=0} false
theorem zn9 (pc pos:Nat):M.step ((in1 t lim ls must s first pc pos seen).say false)=if s < ls then in1 t lim ls false (s + 1) false 5 (s + 1) seen else z1l t lim ls must s first seen:=by kernel_rfl
theorem zob (pc pos:Nat) (h:s < ls):M.step ((in1 t lim ls must s first pc pos seen).say false)=in1 t lim ls false (s + 1) false 5 (s + 1) seen:=(zn9 ..).trans (if_pos h)
theorem zoa (pc pos:Nat) (h:¬s < ls):∃ m',M.runFor 2 ((in1 t lim ls must s first pc pos seen).say false)=m'∧m'.outcome=some .failed:=
 ⟨M.runFor 1 (z1l t lim ls must s first seen),(by kernel_rfl:M.runFor 2 ((in1 t lim ls must s first pc pos seen).say false)=M.runFor 1 (M.step ((in1 t lim ls must s first pc pos seen).say false))).trans (congrArg (M.runFor 1) ((zn9 ..).trans (if_neg h))),by kernel_rfl⟩
end
end
section
open PySem.Sre
noncomputable def jc (p:Nat→Bool):Nat→Nat→Option Nat
 | 0,_=> none
 | n + 1,s=> if p s then some s else jc p n (s + 1)
theorem Zq (p:Nat→Bool) (n s:Nat):jc p (n + 1) s=if p s then some s else jc p n (s + 1):=rfl
noncomputable def jj (m:M) (k:Nat) (r:Option (Nat×Nat)):Prop:=∃ m' n,zuo m m' n∧n≤k∧match r with
 | some (b,e)=> m'.outcome=some .matched∧m'.start=b∧m'.handed=e
 | none=> m'.outcome=some .failed
theorem jj.step {m m1:M}{a k:Nat}{r:Option (Nat×Nat)} (h:M.runFor a m=m1) (f:jj m1 k r):jj m (a + k) r:=by
 refine bc fun J=> ?_
 obtain ⟨m',n,⟨e1,e2⟩,hn,q⟩:=f
 refine J ?_
 exact ⟨m',a + n,⟨by rw [Jz,h,e1],e2⟩,by lia,q⟩
theorem zqm {m:M} (h:m.outcome=none):M.runFor 1 m=m.step:=by
 show (if m.outcome.isSome=true then m else M.runFor 0 m.step)=m.step
 rw [h];rfl
theorem jj.one {m m1:M}{k:Nat}{r:Option (Nat×Nat)} (ho:m.outcome=none) (e:m.step=m1) (f:jj m1 k r):jj m (1 + k) r:=jj.step (a:=1) ((zqm ho).trans e) f
theorem zlh (code text:Array Nat) (groups pos lim:Nat) (must:Bool):forSearch code text groups pos lim must=
  (let m:M:={code,text,lim,start:=pos,pc:=(header code).2,pos,handed:=pos,marks:=Array.replicate (2 * groups) none,mustAdvance:=must,seen:=if (header code).2==0 then {} else ({}:Sre.Seen).add 14}
  if pos > lim || lim - pos < (header code).1 then m.say false
  else {m with lastStart:=if (header code).1 > 1 && !((header code).2 !=0 && code.getD 2 0 &&& 5 !=0) then max pos (lim - ((header code).1 - 1)) else lim}.attemptFrom pos true):=rfl
noncomputable def zbu (t:Array Nat) (s:Nat):Bool:=decide (s=0∨t[s - 1]?.getD 0=10) && decide (t[s]?.getD 0=46)
theorem z0z (t:Array Nat) (lim:Nat):∀ (n s:Nat) (must first:Bool) (seen:Sre.Seen),s + n=lim→jj (in1 t lim lim must s first 5 s seen) (3 * n + 6) ((jc (zbu t) n s).map fun s=> (s,s + 1)):=by
 intro n
 induction n with
 | zero=>
  intro s must first seen hs
  have hlt:¬s < lim:=by lia
  by_cases h1:s=0∨t[s - 1]?.getD 0=10
  ·obtain ⟨q1,e1⟩:=zx4 t lim lim must s first seen h1
   obtain ⟨q2,e2⟩:=zh0 t lim lim must s first q1 (fun h=> hlt h.1)
   obtain ⟨m',e3,e4⟩:=zoa t lim lim must s first q2 7 s hlt
   have f:jj ((in1 t lim lim must s first 7 s q2).say false) 2 none:=⟨m',2,⟨e3,by rw [e4];rfl⟩,by lia,e4⟩
   obtain ⟨m',k,a,b,c⟩:=jj.one (by rfl) e1 (jj.one (by rfl) e2 f)
   exact ⟨m',k,a,by lia,c⟩
  ·obtain ⟨q1,e1⟩:=zj9 t lim lim must s first seen h1
   obtain ⟨m',e3,e4⟩:=zoa t lim lim must s first q1 5 s hlt
   have f:jj ((in1 t lim lim must s first 5 s q1).say false) 2 none:=⟨m',2,⟨e3,by rw [e4];rfl⟩,by lia,e4⟩
   refine bc fun J=> ?_
   obtain ⟨m',k,a,b,c⟩:=jj.one (by rfl) e1 f
   refine J ?_
   exact ⟨m',k,a,by lia,c⟩
 | succ n ih=>
  intro s must first seen hs
  have hlt:s < lim:=by lia
  rw [Zq]
  by_cases h1:s=0∨t[s - 1]?.getD 0=10
  ·obtain ⟨q1,e1⟩:=zx4 t lim lim must s first seen h1
   by_cases h2:t[s]?.getD 0=46
   ·have hd:zbu t s=true:=by simp [zbu,h1,h2]
    rw [if_pos hd]
    obtain ⟨q2,e2⟩:=z01 t lim lim must s first q1 hlt h2
    obtain ⟨m',e3,e4,e5,e6⟩:=z02 t lim lim must s first q2
    have f:jj (in1 t lim lim must s first 9 (s + 1) q2) 3 (some (s,s + 1)):=⟨m',3,⟨e3,by rw [e4];rfl⟩,by lia,e4,e5,e6⟩
    obtain ⟨m',k,a,b,c⟩:=jj.one (by rfl) e1 (jj.one (by rfl) e2 f)
    exact ⟨m',k,a,by lia,c⟩
   ·have hd:zbu t s=false:=by simp [zbu,h2]
    rw [hd,if_neg (by decide)]
    obtain ⟨q2,e2⟩:=zh0 t lim lim must s first q1 (fun h=> h2 h.2)
    have e3:=zob t lim lim must s first q2 7 s hlt
    have:=ih (s + 1) false false q2 (by lia)
    have f1:=jj.one (by rfl) e1 (jj.one (by rfl) e2 (jj.one (by rfl) e3 this))
    obtain ⟨m',k,a,b,c⟩:=f1
    exact ⟨m',k,a,by lia,c⟩
  ·have hd:zbu t s=false:=by simp [zbu,h1]
   rw [hd,if_neg (by decide)]
   obtain ⟨q1,e1⟩:=zj9 t lim lim must s first seen h1
   have e3:=zob t lim lim must s first q1 5 s hlt
   have:=ih (s + 1) false false q1 (by lia)
   have f1:=jj.one (by rfl) e1 (jj.one (by rfl) e3 this)
   obtain ⟨m',k,a,b,c⟩:=f1
   exact ⟨m',k,a,by lia,c⟩
theorem zpo (t:Array Nat) (pos:Nat) (must:Bool) (hp:pos≤t.size):jj (forSearch C1 t 0 pos t.size must) (3 * (t.size - pos) + 7) ((jc (zbu t) (t.size - pos) pos).map fun s=> (s,s + 1)):=by
 by_cases h:pos=t.size
 ·have h0:(decide (pos > t.size) || decide (t.size - pos < (header C1).1))=true:=by subst h;rw [Nat.sub_self];exact Bool.or_true _
  rw [show t.size - pos=0 by lia]
  refine ⟨_,1,⟨congrArg (M.runFor 1) (if_pos h0),rfl⟩,by lia,rfl⟩
 ·have e:forSearch C1 t 0 pos t.size must=in1 t t.size t.size must pos true 5 pos (({}:Sre.Seen).add 14):=by
   have h0:¬(decide (pos > t.size) || decide (t.size - pos < (header C1).1))=true:=by
    rw [Bool.or_eq_true,decide_eq_true_eq,decide_eq_true_eq]
    show ¬(pos > t.size∨t.size - pos < 1)
    lia
   exact (if_neg h0).trans (by kernel_rfl)
  rw [e]
  have:=z0z t t.size (t.size - pos) pos must true (({}:Sre.Seen).add 14) (by lia)
  refine bc fun J=> ?_
  obtain ⟨m',k,a,b,c⟩:=this
  refine J ?_
  exact ⟨m',k,a,by lia,c⟩
noncomputable def C2:Array Nat:=#[14,9,4,1,2,16,10,16,13,0,7,7,16,13,16,10,15,18,5,16,10,15,13,11,16,13,5,5,0,16,10,1,15,2,0,1]
noncomputable def fr2 (s:Nat) (first:Bool):Sre.Frame:={wait:= .nextStart,pc:=10,pos:=s,outermost:=first}
def at2 (t:Array Nat) (lim ls:Nat) (s:Nat) (first:Bool) (seen:Sre.Seen):M:=
 {code:=C2,text:=t,lim:=lim,start:=s,lastStart:=ls,mustAdvance:=false,pc:=10,pos:=s,handed:=s,outermost:=first,marks:=#[],lastmark:= -1,lastindex:= -1,
  frames:=[fr2 s first],weight:=1,seen:=seen}
noncomputable def Jo (t:Array Nat) (s:Nat):Bool:=t[s]?.getD 0==10 || t[s]?.getD 0==13
theorem z3m (c:Nat) (seen:Sre.Seen):∃ seen',inSet C2 c C2.size 5 true seen= .ok ((c==10 || c==13),seen'):=by
 rw [(by kernel_rfl:inSet C2 c C2.size 5 true seen=if (c==10)=true then .ok (true,seen.add 16) else if (c==13)=true then .ok (true,(seen.add 16).add 16) else .ok (false,((seen.add 16).add 16).add 0))]
 cases c==10 with
 | true=> exact ⟨_,rfl⟩
 | false=> cases c==13 with
  | true=> exact ⟨_,rfl⟩
  | false=> exact ⟨_,rfl⟩
theorem zi0 (m:M) (hc:m.code=C2):∀ (n s:Nat) (seen:Sre.Seen),s + n=m.lim→∃ seen',M.admitted m (n + 1) s seen= .ok (jc (Jo m.text) n s,seen')
 | 0,s,seen,h=> by
  refine ⟨seen, ?_⟩
  unfold M.admitted
  rw [if_pos (by lia)];rfl
 | n + 1,s,seen,h=> by
  unfold M.admitted
  rw [if_neg (by lia),hc]
  obtain ⟨q,e⟩:=z3m (m.text.getD s 0) seen
  rw [e]
  rw [Zq]
  have hx:Jo m.text s=(m.text.getD s 0==10 || m.text.getD s 0==13):=by simp [Jo]
  rw [hx]
  cases hb:(m.text.getD s 0==10 || m.text.getD s 0==13) with
  | true=> exact ⟨q,rfl⟩
  | false=>
   obtain ⟨q',e'⟩:=zi0 m hc n (s + 1) q (by lia)
   exact ⟨q',e'⟩
section
variable (t:Array Nat) (lim ls:Nat) (s:Nat) (first:Bool) (seen:Sre.Seen)
def x1:M:=M.runFor 1 (at2 t lim ls s first seen)
def x3:M:=M.runFor 1 (zcx (x1 t lim ls s first seen))
def y1:M:=zha (x1 t lim ls s first seen)
def x4:M:=M.runFor 1 (zcx (y1 t lim ls s first seen))
def x5:M:=M.runFor 1 (zcx (x4 t lim ls s first seen))
def x6:M:=M.runFor 1 (zha (x5 t lim ls s first seen))
theorem s1:M.step (x1 t lim ls s first seen)=lX lim s (t.getD s 0==13) (y1 t lim ls s first seen) (zcx (x1 t lim ls s first seen)):=by kernel_rfl
theorem s2:M.step (y1 t lim ls s first seen)=lX lim (s + 1) (t.getD (s + 1) 0==10) (zha (y1 t lim ls s first seen)) (zcx (y1 t lim ls s first seen)):=by kernel_rfl
theorem s3:M.step (x3 t lim ls s first seen)=lX lim s (t.getD s 0==10) (zha (x3 t lim ls s first seen)) (zcx (x3 t lim ls s first seen)):=by kernel_rfl
theorem s4:M.step (x4 t lim ls s first seen)=lX lim s (t.getD s 0==10) (zha (x4 t lim ls s first seen)) (zcx (x4 t lim ls s first seen)):=by kernel_rfl
theorem s5:M.step (x5 t lim ls s first seen)=lX lim s (t.getD s 0==13) (zha (x5 t lim ls s first seen)) (zcx (x5 t lim ls s first seen)):=by kernel_rfl
theorem s6:M.step (x6 t lim ls s first seen)=lX lim (s + 1) (t.getD (s + 1) 0==10) (zha (x6 t lim ls s first seen)) (zcx (x6 t lim ls s first seen)):=by kernel_rfl
theorem zbp {m m':M}{n:Nat} (h:m.outcome=none) (e:m.step=m'):M.runFor (n + 1) m=M.runFor n m':=by
 show (if m.outcome.isSome=true then m else M.runFor n m.step)=_
 rw [h,e];rfl
theorem z08 (h:s < lim) (hc:t[s]?.getD 0=10):∃ m',M.runFor 12 (at2 t lim ls s first seen)=m'∧m'.outcome=some .matched∧m'.start=s∧m'.handed=s + 1:=
 ⟨_,(by kernel_rfl:M.runFor 12 (at2 t lim ls s first seen)=M.runFor 11 (x1 t lim ls s first seen)).trans ((zbp (by kernel_rfl) ((s1 ..).trans (zrt fun e=> absurd (hc.symm.trans ((gd ..).mp e.2)) (by decide))):M.runFor 11 (x1 t lim ls s first seen)=M.runFor 10 (zcx (x1 t lim ls s first seen))).trans ((by kernel_rfl:M.runFor 10 (zcx (x1 t lim ls s first seen))=M.runFor 9 (x3 t lim ls s first seen)).trans ((zbp (by kernel_rfl) ((s3 ..).trans (zer h ((gd ..).mpr hc))):M.runFor 9 (x3 t lim ls s first seen)=M.runFor 8 (zha (x3 t lim ls s first seen)))))),by cases first <;> kernel_rfl,by cases first <;> kernel_rfl,by cases first <;> kernel_rfl⟩
theorem zuj (h:s < lim) (hc:t[s]?.getD 0=13) (h2:s + 1 < lim) (hc2:t[s + 1]?.getD 0=10):∃ m',M.runFor 12 (at2 t lim ls s first seen)=m'∧m'.outcome=some .matched∧m'.start=s∧m'.handed=s + 2:=
 ⟨_,(by kernel_rfl:M.runFor 12 (at2 t lim ls s first seen)=M.runFor 11 (x1 t lim ls s first seen)).trans ((zbp (by kernel_rfl) ((s1 ..).trans (zer h ((gd ..).mpr hc))):M.runFor 11 (x1 t lim ls s first seen)=M.runFor 10 (y1 t lim ls s first seen)).trans ((zbp (by kernel_rfl) ((s2 ..).trans (zer h2 ((gd ..).mpr hc2))):M.runFor 10 (y1 t lim ls s first seen)=M.runFor 9 (zha (y1 t lim ls s first seen))))),by cases first <;> kernel_rfl,by cases first <;> kernel_rfl,by cases first <;> kernel_rfl⟩
theorem z07 (h:s < lim) (hc:t[s]?.getD 0=13) (h2:¬(s + 1 < lim∧t[s + 1]?.getD 0=10)):∃ m',M.runFor 20 (at2 t lim ls s first seen)=m'∧m'.outcome=some .matched∧m'.start=s∧m'.handed=s + 1:=
 have n:∀ {Y Z:M},lX lim (s + 1) (t.getD (s + 1) 0==10) Y Z=Z:=zrt fun e=> h2 ⟨e.1,(gd ..).mp e.2⟩
 ⟨_,(by kernel_rfl:M.runFor 20 (at2 t lim ls s first seen)=M.runFor 19 (x1 t lim ls s first seen)).trans ((zbp (by kernel_rfl) ((s1 ..).trans (zer h ((gd ..).mpr hc))):M.runFor 19 (x1 t lim ls s first seen)=M.runFor 18 (y1 t lim ls s first seen)).trans ((zbp (by kernel_rfl) ((s2 ..).trans n):M.runFor 18 (y1 t lim ls s first seen)=M.runFor 17 (zcx (y1 t lim ls s first seen))).trans ((by kernel_rfl:M.runFor 17 (zcx (y1 t lim ls s first seen))=M.runFor 16 (x4 t lim ls s first seen)).trans ((zbp (by kernel_rfl) ((s4 ..).trans (zrt fun e=> absurd (hc.symm.trans ((gd ..).mp e.2)) (by decide))):M.runFor 16 (x4 t lim ls s first seen)=M.runFor 15 (zcx (x4 t lim ls s first seen))).trans ((by kernel_rfl:M.runFor 15 (zcx (x4 t lim ls s first seen))=M.runFor 14 (x5 t lim ls s first seen)).trans ((zbp (by kernel_rfl) ((s5 ..).trans (zer h ((gd ..).mpr hc))):M.runFor 14 (x5 t lim ls s first seen)=M.runFor 13 (zha (x5 t lim ls s first seen))).trans ((by kernel_rfl:M.runFor 13 (zha (x5 t lim ls s first seen))=M.runFor 12 (x6 t lim ls s first seen)).trans ((zbp (by kernel_rfl) ((s6 ..).trans n):M.runFor 12 (x6 t lim ls s first seen)=M.runFor 11 (zcx (x6 t lim ls s first seen))))))))))),by cases first <;> kernel_rfl,by cases first <;> kernel_rfl,by cases first <;> kernel_rfl⟩
end
noncomputable def Q2 (t:Array Nat) (s:Nat):Nat:=if t[s]?.getD 0=13∧s + 1 < t.size∧t[s + 1]?.getD 0=10 then s + 2 else s + 1
theorem z7w (t:Array Nat) (ls:Nat) (s:Nat) (first:Bool) (seen:Sre.Seen) (h:s < t.size) (hc:Jo t s=true):jj (at2 t t.size ls s first seen) 20 (some (s,Q2 t s)):=by
 unfold Jo at hc
 simp only [Bool.or_eq_true,beq_iff_eq] at hc
 rcases hc with hc | hc
 ·refine bc fun J=> ?_
  obtain ⟨m',e,o,a,b⟩:=z08 t t.size ls s first seen h hc
  refine J ?_
  refine ⟨m',12,⟨e,by rw [o];rfl⟩,by lia,o,a, ?_⟩
  rw [b];unfold Q2;rw [if_neg (by rw [hc];lia)]
 ·by_cases h2:s + 1 < t.size∧t[s + 1]?.getD 0=10
  ·obtain ⟨m',e,o,a,b⟩:=zuj t t.size ls s first seen h hc h2.1 h2.2
   refine ⟨m',12,⟨e,by rw [o];rfl⟩,by lia,o,a, ?_⟩
   rw [b];unfold Q2;rw [if_pos ⟨hc,h2⟩]
  ·obtain ⟨m',e,o,a,b⟩:=z07 t t.size ls s first seen h hc h2
   refine ⟨m',20,⟨e,by rw [o];rfl⟩,by lia,o,a, ?_⟩
   rw [b];unfold Q2;rw [if_neg (fun h=> h2 h.2)]
set_option tactic.hygienic true in
theorem Zp {p:Nat→Bool}:∀ {n s r:Nat},jc p n s=some r→s≤r∧r < s + n∧p r=true
 | 0,_,_,h=> by cases h
 | n + 1,s,r,h=> by
  rw [Zq] at h
  split at h
  ·rename_i hp;cases h;exact ⟨x9 _,by lia,hp⟩
  ·obtain ⟨a,b,c⟩:=Zp h;exact ⟨by lia,by lia,c⟩
theorem zpp (t:Array Nat) (pos:Nat) (must:Bool) (hp:pos≤t.size):jj (forSearch C2 t 0 pos t.size must) 30 ((jc (Jo t) (t.size - pos) pos).map fun s=> (s,Q2 t s)):=by
 by_cases h:pos=t.size
 ·have h0:(decide (pos > t.size) || decide (t.size - pos < (header C2).1))=true:=by subst h;rw [Nat.sub_self];exact Bool.or_true _
  rw [show t.size - pos=0 by lia]
  refine ⟨_,1,⟨congrArg (M.runFor 1) (if_pos h0),rfl⟩,by lia,rfl⟩
 ·have h0:¬(decide (pos > t.size) || decide (t.size - pos < (header C2).1))=true:=by
   rw [Bool.or_eq_true,decide_eq_true_eq,decide_eq_true_eq]
   show ¬(pos > t.size∨t.size - pos < 1)
   lia
  obtain ⟨q,eq⟩:=zi0 {code:=C2,text:=t,lim:=t.size,start:=pos,pc:=10,pos,handed:=pos,marks:=#[],mustAdvance:=must,seen:=({}:Sre.Seen).add 14,lastStart:=t.size} rfl (t.size - pos) pos (({}:Sre.Seen).add 14) (by show pos + (t.size - pos)=t.size;lia)
  have e:forSearch C2 t 0 pos t.size must=M.attemptFrom {code:=C2,text:=t,lim:=t.size,start:=pos,pc:=10,pos,handed:=pos,marks:=#[],mustAdvance:=must,seen:=({}:Sre.Seen).add 14,lastStart:=t.size} pos true:=(if_neg h0).trans (by kernel_rfl)
  rw [e]
  unfold M.attemptFrom
  have hf:(!M.hasFirstSet {code:=C2,text:=t,lim:=t.size,start:=pos,pc:=10,pos,handed:=pos,marks:=#[],mustAdvance:=must,seen:=({}:Sre.Seen).add 14,lastStart:=t.size})=false:=by rfl
  rw [hf,if_neg (by decide)]
  have hl:t.size + 1 - pos=(t.size - pos) + 1:=by lia
  dsimp only
  rw [hl,eq]
  cases hr:jc (Jo t) (t.size - pos) pos with
  | none=> exact ⟨_,1,⟨rfl,rfl⟩,by lia,rfl⟩
  | some s=>
   refine bc fun J=> ?_
   obtain ⟨a,b,c⟩:=Zp hr
   have:=z7w t t.size s true q (by lia) c
   obtain ⟨m',k,a',b',c'⟩:=this
   refine J ?_
   refine ⟨m',k, ?_,by lia,c'⟩
   exact a'
end
section
open PySem.Sre
noncomputable def C3:Array Nat:=#[14,10,4,1,1,22,0,31,16,127,0,13,7,22,0,31,16,127,0,1]
noncomputable def C4:Array Nat:=#[14,14,4,1,1,9,4294966783,0,0,2147483648,0,0,0,0,0,13,11,9,4294966783,0,0,2147483648,0,0,0,0,0,1]
noncomputable def jw (c:Nat):Bool:=decide (32≤c) && decide (c < 127)
theorem zho {c:Nat}:jw c=true↔32≤c∧c < 127:=by simp [jw]
theorem z3n (c:Nat) (h:jw c=true) (seen:Sre.Seen):∃ seen',inSet C3 c C3.size 5 true seen= .ok (false,seen'):=by
 obtain ⟨h1,h2⟩:=zho.mp h
 refine ⟨((seen.add 22).add 16).add 0, ?_⟩
 rw [(by kernel_rfl:inSet C3 c C3.size 5 true seen=if (decide (0≤c) && decide (c≤31))=true then .ok (true,seen.add 22) else if (c==127)=true then .ok (true,(seen.add 22).add 16) else .ok (false,((seen.add 22).add 16).add 0)),
  if_neg (by rw [decide_eq_false (by lia:¬c≤31),Bool.and_false];exact xy),if_neg (by rw [beq_eq_false_iff_ne.mpr (by lia:c≠127)];exact xy)]
theorem z5e:∀ c:Nat,c < 127→32≤c→((C4.getD (5 + (1 + c / 32)) 0).testBit (c % 32))=false:=by decide +kernel
theorem z3o (c:Nat) (h:jw c=true) (seen:Sre.Seen):∃ seen',inSet C4 c C4.size 5 true seen= .ok (false,seen'):=by
 obtain ⟨h1,h2⟩:=zho.mp h
 refine ⟨(seen.add 9).add 0, ?_⟩
 have hb:=z5e c h2 h1
 show (if (decide (c < 256) && (C4.getD (5 + (1 + c / 32)) 0).testBit (c % 32))=true then Except.ok (true,seen.add 9) else inSet C4 c 27 14 true (seen.add 9))=_
 rw [hb,Bool.and_false,if_neg (by decide)]
 rfl
theorem zi1 (m:M) (hs:∀ c seen,jw c=true→∃ seen',inSet m.code c m.code.size 5 true seen= .ok (false,seen')) (ht:∀ i,i < m.lim→jw (m.text.getD i 0)=true):∀ (n s:Nat) (seen:Sre.Seen),s + n=m.lim→∃ seen',M.admitted m (n + 1) s seen= .ok (none,seen')
 | 0,s,seen,h=> by
  refine ⟨seen, ?_⟩
  unfold M.admitted
  rw [if_pos (by lia)]
 | n + 1,s,seen,h=> by
  unfold M.admitted
  rw [if_neg (by lia)]
  obtain ⟨q,e⟩:=hs (m.text.getD s 0) seen (ht s (by lia))
  rw [e]
  exact zi1 m hs ht n (s + 1) q (by lia)
theorem zjx (code t:Array Nat) (hh:header code=(1,1 + code.getD 1 0)) (hi:(1 + code.getD 1 0==0)=false) (h2:code.getD 2 0=4) (hh2:∀ m:M,m.code=code→m.hasFirstSet=true) (hs:∀ c seen,jw c=true→∃ seen',inSet code c code.size 5 true seen= .ok (false,seen')) (ht:∀ i,i < t.size→jw (t.getD i 0)=true):
  jj (forSearch code t 0 0 t.size false) 1 none:=by
 rw [zlh]
 dsimp only
 rw [hh]
 dsimp only
 by_cases h0:(decide (0 > t.size) || decide (t.size - 0 < 1))=true
 ·rw [if_pos h0]
  exact ⟨_,1,⟨rfl,rfl⟩,by lia,rfl⟩
 ·rw [if_neg h0]
  have hc:(decide (1 > 1) && !(1 + code.getD 1 0 !=0 && code.getD 2 0 &&& 5 !=0))=false:=by simp
  rw [hc,if_neg (by decide),hi,if_neg (by decide)]
  unfold M.attemptFrom
  have hf:(!M.hasFirstSet {code,text:=t,lim:=t.size,start:=0,pc:=1 + code.getD 1 0,pos:=0,handed:=0,marks:=Array.replicate (2 * 0) none,mustAdvance:=false,seen:=({}:Sre.Seen).add 14,lastStart:=t.size})=false:=by
   rw [hh2 _ rfl];rfl
  obtain ⟨q,eq⟩:=zi1 {code,text:=t,lim:=t.size,start:=0,pc:=1 + code.getD 1 0,pos:=0,handed:=0,marks:=Array.replicate (2 * 0) none,mustAdvance:=false,seen:=({}:Sre.Seen).add 14,lastStart:=t.size} hs ht t.size 0 (({}:Sre.Seen).add 14) (Nat.zero_add _)
  rw [hf,if_neg (by decide)]
  dsimp only
  rw [Nat.sub_zero,eq]
  exact ⟨_,1,⟨rfl,rfl⟩,by lia,rfl⟩
theorem zp5 (t:Array Nat) (ht:∀ i,i < t.size→jw (t.getD i 0)=true):jj (forSearch C3 t 0 0 t.size false) 1 none:=zjx C3 t rfl rfl rfl (fun m h=> by unfold M.hasFirstSet;rw [h];rfl) (fun c seen h=> z3n c h seen) ht
theorem zp6 (t:Array Nat) (ht:∀ i,i < t.size→jw (t.getD i 0)=true):jj (forSearch C4 t 0 0 t.size false) 1 none:=zjx C4 t rfl rfl rfl (fun m h=> by unfold M.hasFirstSet;rw [h];rfl) (fun c seen h=> z3o c h seen) ht
end
section
theorem zcc:Slot "re.Pattern" "search" "re.Pattern.search":=
 .of (owner:="re.Pattern") (n:="search") (by rw [typeLookup_type,builtinLookup_eq_fast];kernel_rfl) (by decide +kernel) (by decide +kernel) (by decide +kernel)
  (by first | exact .inl (by decide +kernel) | exact .inr (by decide +kernel)) (by rw [isSubtype_type];kernel_rfl)
theorem zhy:Slot "re.Pattern" "sub" "re.Pattern.sub":=
 .of (owner:="re.Pattern") (n:="sub") (by rw [typeLookup_type,builtinLookup_eq_fast];kernel_rfl) (by decide +kernel) (by decide +kernel) (by decide +kernel)
  (by first | exact .inl (by decide +kernel) | exact .inr (by decide +kernel)) (by rw [isSubtype_type];kernel_rfl)
theorem zla:entryFor table "re.Pattern.search"=some Builtin.«re.Pattern.search»:=entryFor_of_tree (by kernel_rfl)
theorem zsz:entryFor table "re.Pattern.sub"=some Builtin.«re.Pattern.sub»:=entryFor_of_tree (by kernel_rfl)
theorem zc0:entryFor table "re.Pattern.sub.loop"=some Builtin.«re.Pattern.sub.loop»:=entryFor_of_tree (by kernel_rfl)
theorem zmm (a b:Value):argsOk "re.Pattern.search" ⟨[a,b],[]⟩:=by unfold argsOk;kernel_rfl
theorem zvi (a b c:Value):argsOk "re.Pattern.sub" ⟨[a,b,c],[]⟩:=by unfold argsOk;kernel_rfl
theorem zom:typeOf (.builtin "re.Pattern.search")=pure (.type "method_descriptor"):=by kernel_rfl
theorem zyf:typeOf (.builtin "re.Pattern.sub")=pure (.type "method_descriptor"):=by kernel_rfl
theorem zdm:PlainAttrs "re.Pattern":=
 ⟨⟨"object.__getattribute__",by rw [typeLookup_type,builtinLookup_eq_fast];kernel_rfl,by decide +kernel⟩,by rw [typeLookup_type,builtinLookup_eq_fast];kernel_rfl⟩
noncomputable def zxk (p f gi ig:Value) (c:Addr) (t t':Tok):Obj:={cls:= .type "re.Pattern",data:= .fields #[p,f,.int 0 t,gi,ig,.ref c,.int 0 t']}
structure PatAt (h:Heap) (a:Addr) (C:Array Nat):Prop where
 at_:∃ p f gi ig c t t' vs n,h.get? a=some (zxk p f gi ig c t t')∧h.get? c=some {cls:= .type "tuple",data:= .seq vs n}∧(vs.map Builtin.Re.reRawOf).map (·.toNat)=C
theorem zn2 {M:Model}{A:Around}{E:Value→Shared→Prop}{s:Shared}{a:Addr}{C:Array Nat}{x:Str}{t:Tok}{P:Builtin.Re.ReTarget→Shared→Prop} (p:PatAt s.heap a C) (hx:x.cps.size≤2 ^ 62)
  (h:P ⟨.ref a,.str x t,C,x.cps,0,0,0,x.cps.size⟩ s):wpAny M A (Builtin.Re.reTarget "re.Pattern.search" "search" ⟨[.ref a,.str x t],[]⟩) P E s:=by
 obtain ⟨p,f0,gi,ig,c,t1,t2,vs,n,h1,h2,h3⟩:=p
 obtain ⟨hp,g,d,tk,os⟩:=s
 unfold Builtin.Re.reTarget Builtin.Re.reNamed
 repeat (any_goals (first | assumption | wp_step))
 subst h3
 have e1:min (0:Int).toNat x.cps.size=0:=by simp
 have e2:min ((2:Int) ^ 63 - 1).toNat x.cps.size=x.cps.size:=by
  have:((2:Int) ^ 63 - 1).toNat=2 ^ 63 - 1:=by decide
  rw [this];lia
 dsimp only
 rw [e1,e2]
 exact h
theorem zn4 {M:Model}{A:Around}{E:Value→Shared→Prop}{s:Shared}{a:Addr}{C:Array Nat}{x:Str}{t:Tok}{k:Nat}{P:Fin→Shared→Prop} (p:PatAt s.heap a C) (f:jj (Sre.forSearch C x.cps 0 0 x.cps.size false) k none) (hk:k < 2 ^ 63) (hx:x.cps.size≤2 ^ 62)
  (h:P (.done (.ret .none)) s):wpAny M A (Builtin.«re.Pattern.search» ⟨[.ref a,.str x t],[]⟩) P E s:=by
 obtain ⟨m',n',e,hn,ho⟩:=f
 unfold Builtin.«re.Pattern.search»
 refine xa (zn2 p hx ?_)
 unfold Builtin.Re.reAnswer
 exact xa (zce e (by lia) ho (xg h))
theorem PatAt.keeps {h h':Heap}{a:Addr}{C:Array Nat} (p:PatAt h a C) (k:∀ b o,h.get? b=some o→h'.get? b=some o):PatAt h' a C:=by
 refine bc fun J=> ?_
 obtain ⟨p,f,gi,ig,c,t,t',vs,n,h1,h2,h3⟩:=p
 refine J ?_
 exact ⟨p,f,gi,ig,c,t,t',vs,n,k _ _ h1,k _ _ h2,h3⟩
theorem PatAt.but {h h':Heap}{a L:Addr}{C:Array Nat}{xs:Array Value} (p:PatAt h a C) (l:h.PlainList L xs) (k:∀ b o,b≠L→h.get? b=some o→h'.get? b=some o):PatAt h' a C:=by
 refine bc fun J=> ?_
 obtain ⟨p,f,gi,ig,c,t,t',vs,n,h1,h2,h3⟩:=p
 obtain ⟨m,e⟩:=l
 refine J ?_
 refine ⟨p,f,gi,ig,c,t,t',vs,n,k _ _ (fun e'=> ?_) h1,k _ _ (fun e'=> ?_) h2,h3⟩
 ·subst e';rw [h1] at e;injection e with e;injection e with e1;injection e1 with e1;exact absurd e1 (by decide)
 ·subst e';rw [h2] at e;injection e with e;injection e with e1;injection e1 with e1;exact absurd e1 (by decide)
theorem zdn {M:Model}{A:Around}{E:Value→Shared→Prop}{s:Shared}{a:Addr}{C:Array Nat}{x:Str}{t:Tok}{P:Builtin.Re.ReTarget→Shared→Prop} (p:PatAt s.heap a C)
  (h:P ⟨.ref a,.str x t,C,x.cps,0,0,0,x.cps.size⟩ s):wpAny M A (Builtin.Re.reWholeTarget (.ref a) (.str x t)) P E s:=by
 refine bc fun J=> ?_
 obtain ⟨p,f0,gi,ig,c,t1,t2,vs,n,h1,h2,h3⟩:=p
 obtain ⟨hp,g,d,tk,os⟩:=s
 refine J ?_
 unfold Builtin.Re.reWholeTarget
 repeat (any_goals (first | assumption | wp_step))
 subst h3
 exact h
noncomputable def Qr (f:Nat→Option (Nat×Nat)) (x:Array Nat) (r:Str):Nat→Nat→List Str
 | 0,_=> []
 | n + 1,done=> match f done with
  | some (b,e)=> (if done < b then [⟨x.extract done b⟩] else []) ++ r::Qr f x r n e
  | none=> if done < x.size then [⟨x.extract done x.size⟩] else []
theorem zf9 {M:Model}{A:Around}{E:Value→Shared→Prop}{s:Shared}{L:Addr}{xs:Array Value}{v:Value}{Q:Unit→Shared→Prop} (hl:s.heap.PlainList L xs) (hz:xs.size≤sizeLine)
  (hQ:∀ h',h'.PlainList L (xs.push v)→Heap.SameBut L s.heap h'→Q () {s with heap:=h'}):wpAny M A (updateSeq L (·.push v)) Q E s:=by
 obtain ⟨n,ho⟩:=hl
 refine wpAny_updateSeq ho rfl (hQ _ ⟨n + 1, ?_⟩ (Heap.SameBut.update ..)) hz (by simpa using hz)
 rw [Heap.get?_update_self _ ho (by rw [Obj.mapSeq_push_plain];rfl),Obj.mapSeq_push_plain]
theorem zhw {M:Model}{A:Around}{E:Value→Shared→Prop}{s:Shared}{x:Array Nat}{b e:Nat}{Q:Value→Shared→Prop} (hz:x.size≤sizeLine)
  (hQ:Q (.str ⟨x.extract b e⟩ s.toks) {s with toks:=s.toks + 1}):wpAny M A (Builtin.Re.reSlice x 0 b e) Q E s:=by
 unfold Builtin.Re.reSlice mkStr
 rw [if_pos (by rfl),if_neg (by simp [Str.length];lia)]
 exact xa (wpAny_fresh (xg hQ))
theorem zat:plainId "re.Pattern.sub.loop"=true:=by decide +kernel
noncomputable def Js (a:Addr) (x:Str) (t:Tok) (r:Str) (u:Tok) (cnt:Int) (done:Nat) (must:Bool) (L:Addr):Args:=
 ⟨[.ref a,.str x t,.str r u,rawInt 0,rawInt 0,rawInt cnt,rawInt done,rawInt done,.bool must,.ref L,.bool false],[]⟩
theorem zwu {M:Model}{A:Around}{E:Value→Shared→Prop}{s:Shared}{r:Str}{u:Tok}{Q:Unit→Shared→Prop} (h:Q () s):wpAny M A (Builtin.Re.reLiteralCannotBeTurned (.str r u)) Q E s:=by
 unfold Builtin.Re.reLiteralCannotBeTurned
 repeat (any_goals (first | assumption | wp_step))
section
variable {prog:Program}{w:World}{A:Around}{a L:Addr}{C:Array Nat}{x r:Str}{t u:Tok}{f:Nat→Option (Nat×Nat)}{K:Nat}
theorem ztr {M:Model}{E:Value→Shared→Prop}{s:Shared}{done:Nat}{must:Bool}{Q:Option Sre.M→Shared→Prop} (hf:jj (Sre.forSearch C x.cps 0 done x.cps.size must) K none) (hK:K < 2 ^ 63) (h:Q none s):
  wpAny M A (Builtin.Re.reNextFound ⟨.ref a,.str x t,C,x.cps,0,0,0,x.cps.size⟩ ((done:Int)).toNat must) Q E s:=by
 refine bc fun J=> ?_
 obtain ⟨m',n',e,hn,ho⟩:=hf
 refine J ?_
 unfold Builtin.Re.reNextFound
 exact zce e (by lia) ho h
theorem zts {M:Model}{E:Value→Shared→Prop}{s:Shared}{done b e:Nat}{must:Bool}{Q:Option Sre.M→Shared→Prop} (hf:jj (Sre.forSearch C x.cps 0 done x.cps.size must) K (some (b,e))) (hK:K < 2 ^ 63) (h:∀ m,m.start=b→m.handed=e→Q (some m) s):
  wpAny M A (Builtin.Re.reNextFound ⟨.ref a,.str x t,C,x.cps,0,0,0,x.cps.size⟩ ((done:Int)).toNat must) Q E s:=by
 refine bc fun J=> ?_
 obtain ⟨m',n',e,hn,ho,h1,h2⟩:=hf
 refine J ?_
 unfold Builtin.Re.reNextFound
 exact zft e (by lia) ho (h m' h1 h2)
theorem zwo {M:Model}{E:Value→Shared→Prop}{s:Shared}{xs:Array Value}{Q:Option (Array Value)→Shared→Prop} (hl:s.heap.PlainList L xs) (h:Q (some xs) s):wpAny M A (seqItems? (.ref L)) Q E s:=by
 obtain ⟨n,e⟩:=hl
 exact wpAny_seqItems e rfl h
theorem zoe {s:Shared}{cnt:Int}{items:List (Str×Tok)}{Q:Fin→Shared→Prop}{E:Value→Shared→Prop} (hl:s.heap.PlainList L (strValues items).toArray) (hx:x.cps.size≤sizeLine)
  (hj:JoinOk (mk []) (items.map (·.1))=true)
  (hQ:∀ tk t',Q (.done (.ret (.str (Txt.join (mk []) (items.map (·.1))) t'))) {s with toks:=tk}):
  wpAny (model prog w) A (do
   let joiner←Builtin.Re.reSlice x.cps 0 0 0
   let __do_lift←seqItems? (.ref L)
   if (__do_lift.getD #[]).isEmpty=true then (do
     let text←pure joiner
     if false=true then (do let __do_lift←holding [text] (do let __do_lift←mkInt cnt;newTuple [text,__do_lift]);ret __do_lift) else ret text)
   else do
    let text←call (.builtin (if (0==0)=true then "str.join" else "bytes.join")) [joiner,.ref L]
    if false=true then (do let __do_lift←holding [text] (do let __do_lift←mkInt cnt;newTuple [text,__do_lift]);ret __do_lift) else ret text) Q E s:=by
 refine xa (zhw hx ?_)
 refine xa (zwo hl ?_)
 have e0:(⟨x.cps.extract 0 0⟩:Str)=mk []:=by simp [mk]
 rw [e0]
 cases items with
 | nil=>
  have e1:Txt.join (mk []) (List.map (·.1) ([]:List (Str×Tok)))=mk []:=by rfl
  rw [e1] at hQ
  exact xa (xg (xg (hQ _ _)))
 | cons q items=>
  refine Qs (by simp [strValues]) ?_
  exact xa (SC.join hl.isList rfl hj fun t' k=> xg (hQ _ _))
theorem z03 {s:Shared}{items:List (Str×Tok)}{cnt:Int}{done:Nat}{must:Bool}{R:Result→Shared→Prop} (p:PatAt s.heap a C) (hx:x.cps.size≤sizeLine) (hl:s.heap.PlainList L (strValues items).toArray)
  (hf:jj (Sre.forSearch C x.cps 0 done x.cps.size must) K none) (hK:K < 2 ^ 63) (hz:items.length < sizeLine)
  (hj:JoinOk (mk []) (items.map (·.1) ++ if done < x.cps.size then [⟨x.cps.extract done x.cps.size⟩] else [])=true)
  (hR:∀ h' tk t',(∀ b o,b≠L→s.heap.get? b=some o→h'.get? b=some o)→R (.ok (.ret (.str (Txt.join (mk []) (items.map (·.1) ++ if done < x.cps.size then [⟨x.cps.extract done x.cps.size⟩] else [])) t'))) {s with heap:=h',toks:=tk}):
  codeAny (model prog w) A (.builtin "re.Pattern.sub.loop" (Js a x t r u cnt done must L)) R s:=by
 refine codeAny_builtin zc0 ?_
 unfold Builtin.«re.Pattern.sub.loop» Js
 dsimp only [rawInt]
 refine xa (zdn p ?_)
 refine J4 (by rfl) ?_
 refine xa (zwu ?_)
 rw [if_neg (by simp)]
 refine xa (ztr hf hK ?_)
 rw [Int.toNat_natCast]
 by_cases hd:done < x.cps.size
 ·rw [if_pos hd] at hj hR⊢
  refine xa (zhw hx ?_)
  refine xa (zf9 hl (by simp [strValues];lia) fun h1 l1 b1=> ?_)
  have l1':h1.PlainList L (strValues (items ++ [(⟨x.cps.extract done x.cps.size⟩,s.toks)])).toArray:=by
   have:(strValues items).toArray.push (Value.str ⟨x.cps.extract done x.cps.size⟩ s.toks)=(strValues (items ++ [(⟨x.cps.extract done x.cps.size⟩,s.toks)])).toArray:=by simp [strValues]
   rw [←this];exact l1
  refine zoe (s:={s with heap:=h1,toks:=s.toks + 1}) l1' hx (by simpa using hj) fun tk t'=> ?_
  simpa using hR h1 tk t' (fun b o hb e=> b1.extBut b o hb e)
 ·rw [if_neg hd] at hj hR⊢
  refine zoe hl hx (by simpa using hj) fun tk t'=> ?_
  simpa using hR s.heap tk t' (fun b o hb e=> e)
theorem zau (l:List (Str×Tok)) (r:Str) (u:Tok):(strValues l).toArray.push (.str r u)=(strValues (l ++ [(r,u)])).toArray:=by simp [strValues]
theorem zx9 {s:Shared}{items:List (Str×Tok)}{cnt:Int}{done b e:Nat}{must:Bool}{R:Result→Shared→Prop} (p:PatAt s.heap a C) (hx:x.cps.size≤sizeLine) (hl:s.heap.PlainList L (strValues items).toArray)
  (hf:jj (Sre.forSearch C x.cps 0 done x.cps.size must) K (some (b,e))) (hK:K < 2 ^ 63) (hz:items.length + 1 < sizeLine)
  (hR:∀ h' tk items',items'.map (·.1)=items.map (·.1) ++ ((if done < b then [⟨x.cps.extract done b⟩] else []) ++ [r])→h'.PlainList L (strValues items').toArray→(∀ b o,b≠L→s.heap.get? b=some o→h'.get? b=some o)→
   codeAny (model prog w) A (.builtin "re.Pattern.sub.loop" (Js a x t r u (cnt + 1) e (e==b) L)) R {s with heap:=h',toks:=tk}):
  codeAny (model prog w) A (.builtin "re.Pattern.sub.loop" (Js a x t r u cnt done must L)) R s:=by
 refine codeAny_builtin zc0 ?_
 unfold Builtin.«re.Pattern.sub.loop» Js
 dsimp only [rawInt]
 refine xa (zdn p ?_)
 refine J4 (by rfl) ?_
 refine xa (zwu ?_)
 rw [if_neg (by simp)]
 refine xa (zts hf hK fun m h1 h2=> ?_)
 dsimp only
 rw [Int.toNat_natCast,h1,h2]
 by_cases hd:done < b
 ·rw [if_pos hd] at hR⊢
  refine xa (zhw hx ?_)
  refine xa (zf9 hl (by simp [strValues];lia) fun h1 l1 b1=> ?_)
  rw [zau] at l1
  refine J4 (by rfl) ?_
  refine xa (xg ?_)
  refine J4 (by rfl) ?_
  refine xa (zf9 (s:={s with heap:=h1,toks:=s.toks + 1}) l1 (by simp [strValues];lia) fun h2 l2 b2=> ?_)
  rw [zau] at l2
  exact xg ⟨plainId_quiet zat _,hR h2 _ _ (by simp) l2 fun b o hb e=> b2.extBut b o hb (b1.extBut b o hb e)⟩
 ·rw [if_neg hd] at hR⊢
  refine J4 (by rfl) ?_
  refine xa (xg ?_)
  refine J4 (by rfl) ?_
  refine xa (zf9 (s:=s) hl (by simp [strValues];lia) fun h2 l2 b2=> ?_)
  rw [zau] at l2
  exact xg ⟨plainId_quiet zat _,hR h2 s.toks _ (by simp) l2 fun b o hb e=> b2.extBut b o hb e⟩
structure Finds (C x:Array Nat) (K:Nat) (f:Nat→Option (Nat×Nat)):Prop where
 at_:∀ done must,done≤x.size→jj (Sre.forSearch C x 0 done x.size must) K (f done)
 in_:∀ done b e,f done=some (b,e)→done≤b∧b < e∧e≤x.size
theorem zx8 (F:Finds C x.cps K f) (hK:K < 2 ^ 63) (hx:x.cps.size≤sizeLine) {R:Result→Shared→Prop}:∀ (n:Nat) (done:Nat) (cnt:Int) (must:Bool) (items:List (Str×Tok)) (s:Shared),done≤x.cps.size→x.cps.size - done < n→
  PatAt s.heap a C→s.heap.PlainList L (strValues items).toArray→(items.length + (Qr f x.cps r n done).length < sizeLine)→JoinOk (mk []) (items.map (·.1) ++ Qr f x.cps r n done)=true→
  (∀ h' tk t',(∀ b o,b≠L→s.heap.get? b=some o→h'.get? b=some o)→R (.ok (.ret (.str (Txt.join (mk []) (items.map (·.1) ++ Qr f x.cps r n done)) t'))) {s with heap:=h',toks:=tk})→
  codeAny (model prog w) A (.builtin "re.Pattern.sub.loop" (Js a x t r u cnt done must L)) R s:=by
 intro n
 induction n with
 | zero=> intro done cnt must items s h1 h2;lia
 | succ n ih=>
  intro done cnt must items s h1 h2 p hl hz hj hR
  have hf:=F.at_ done must h1
  simp only [Qr] at hz hj hR
  cases hfd:f done with
  | none=>
   rw [hfd] at hf hz hj hR
   exact z03 p hx hl hf hK (by lia) hj hR
  | some q=>
   refine bc fun J=> ?_
   obtain ⟨b,e⟩:=q
   obtain ⟨d1,d2,d3⟩:=F.in_ done b e hfd
   refine J ?_
   rw [hfd] at hf hz hj hR
   dsimp only at hz hj hR
   refine zx9 p hx hl hf hK (by simp at hz;lia) fun h' tk items' hi l' k=> ?_
   have hlen:items'.length=items.length + ((if done < b then [(⟨x.cps.extract done b⟩:Str)] else []) ++ [r]).length:=by
    have:=congrArg List.length hi
    simpa using this
   refine ih e (cnt + 1) (e==b) items' {s with heap:=h',toks:=tk} d3 (by lia) (p.but hl k) l' ?_ ?_ fun h2 tk2 t2 k2=> ?_
   ·rw [hlen];simp at hz⊢;lia
   ·rw [hi];simpa using hj
   ·have:=hR h2 tk2 t2 fun b o hb e=> k2 b o hb (k b o hb e)
    rw [hi];simpa using this
end
end
section
theorem zqt:typeLookup (.type "str") "__call__"=pure none:=by rw [typeLookup_type,builtinLookup_eq_fast];kernel_rfl
theorem ztq (a b:Value):Builtin.Re.reNamed "re.Pattern.sub" "sub" ["repl","string","count"] 2 [a,b] []=pure [some a,some b,none]:=by kernel_rfl
theorem zub {M:Model}{A:Around}{E:Value→Shared→Prop}{s:Shared}{a:Addr}{C:Array Nat}{x r:Str}{t u:Tok}{P:Fin→Shared→Prop} (p:PatAt s.heap a C) (hr:r.cps.contains 92=false)
  (h:P (.again (.builtin "re.Pattern.sub.loop" (Js a x t r u 0 0 false s.heap.objs.size))) {s with heap:=s.heap.push {cls:= .type "list",data:= .seq #[]}}):wpAny M A (Builtin.«re.Pattern.sub» ⟨[.ref a,.str r u,.str x t],[]⟩) P E s:=by
 have f1:=zqt
 have f2:(!r.cps.contains 92)=true:=by rw [hr];rfl
 have hT:s.TypeIs (.str r u) "str":=typeIs_str _ _ _
 unfold Builtin.«re.Pattern.sub» Builtin.Re.reSubstitute
 dsimp only
 rw [ztq]
 refine xa (xg ?_)
 refine xa (xg ?_)
 refine xa (wpAny_specialOf hT f1 ?_)
 dsimp only [Option.isSome]
 refine Qs (by decide) ?_
 refine xa (xa (xg (xg ?_)))
 refine xa (xg ?_)
 rw [if_neg (by decide),if_pos f2]
 refine xa (xg ?_)
 dsimp only
 refine xa (wpAny_holding (zdn p ?_))
 refine Qs (by decide) ?_
 exact xa (wpAny_newList (xg h))
structure PatK (g:GC) (a:Addr) (C:Array Nat):Prop where
 at_:∃ p f gi ig c t t' vs n,g.K.lookup a=some (zxk p f gi ig c t t')∧g.K.lookup c=some {cls:= .type "tuple",data:= .seq vs n}∧(vs.map Builtin.Re.reRawOf).map (·.toNat)=C
theorem PatK.get {g:GC}{a:Addr}{C:Array Nat}{h:Heap} (p:PatK g a C) (k:g.K.In h):PatAt h a C:=by
 obtain ⟨p,f,gi,ig,c,t,t',vs,n,h1,h2,h3⟩:=p
 exact ⟨p,f,gi,ig,c,t,t',vs,n,k _ _ h1,k _ _ h2,h3⟩
theorem PatAt.ty {s:Shared}{a:Addr}{C:Array Nat} (p:PatAt s.heap a C):s.TypeIs (.ref a) "re.Pattern":=by
 refine bc fun J=> ?_
 obtain ⟨_,_,_,_,_,_,_,_,_,e1,_⟩:=p
 refine J ?_
 exact ⟨_,e1,rfl⟩
section
variable {g:GC}{nm:Nat→Str}{k:Nat}{sc:Scope}
theorem Snd.pm {oe:Expr}{name:Str}{id:String}{apos pos:Pos}{es:List Expr}{fo:Den}{fs:List Den}{op:Sto→List PV→Option PV} (hm:Jl oe name apos pos es []) (ji:Slot "re.Pattern" name id) (ty:typeOf (.builtin id)=pure (.type "method_descriptor")) (O:OpN g k (.builtin id) op)
  (hop:∀ W p ps pv,op W (p::ps)=some pv→∃ a C,p= .raw a∧PatK g a C)
  (ho:Snd g nm k sc oe fo) (L:jl g nm k sc es fs) (hplain:∀ env,(starEach es env).any (·.1)=false):Snd g nm k sc (.Call (.Attribute oe name apos) es [] pos) (zf op (fo::fs)):=by
 intro A env s ad U W pv hr he hx hp E
 unfold zf at hp
 cases ea:jm (fo::fs) U W with
 | none=> rw [ea] at hp;cases hp
 | some ps0=>
  rw [ea] at hp
  refine bc fun J=> ?_
  obtain ⟨p,ps,rfl,eo,ea2⟩:=Zo ea
  obtain ⟨pl,hm⟩:=hm
  refine J ?_
  refine methodCall_KW (pl:=pl env) ?_ (hm env)
  refine xp (ho A env s ad U W _ hr he hx eo E) (fun v s1 h1=> ?_) fun V V x=> x
  have x1:=hx.keeps h1.1.h
  refine bc fun J=> ?_
  obtain ⟨a,C,rfl,pk⟩:=hop W p ps pv hp
  have r1:=h1.2
  subst r1
  obtain ⟨_,_,_,_,_,_,_,_,_,e1,_,_⟩:=pk.get x1.kin
  refine J ?_
  refine getMethod_builtin ⟨_,e1,rfl⟩ zdm ji ty (fun a' e'=> by cases e';exact ⟨_,e1,rfl⟩) ?_
  refine Z0 hr he x1 (.blt id) L ea2 (hplain env) fun vs s2 g2 r2=> ?_
  have x2:=x1.keeps g2.h
  exact xp (O A s2 ad W (.raw a::ps) pv (.ref a::vs) hr x2.kin x2.top x2.sto (.cons (by rfl) r2) hp E) (fun v s'' q=> ⟨(h1.1.trans g2).trans q.1,q.2⟩) fun V V x=> x
def zcq (aN aV:Addr) (_:Sto):List PV→Option PV:=g2 fun p q=> onR (fun a=> onS (fun x=> if ((a==aN || a==aV) && (x.all jw && ze x.length))=true then some .none else none) q) p
theorem znw {x:List Nat} (h:x.all jw=true) (i:Nat) (hi:i < (mk x).cps.size):jw ((mk x).cps.getD i 0)=true:=by
 have hi':i < x.length:=by simpa [mk] using hi
 have e:(mk x).cps.getD i 0=x[i]:=by simp [mk,hi']
 rw [e];exact xo.mp h _ (List.getElem_mem hi')
theorem zj5 {A:Around}{s:Shared}{ad:AD}{E:Value→Shared→Prop}{a:Addr}{C:Array Nat}{x:List Nat}{t:Tok} (p:PatAt s.heap a C) (f:jj (Sre.forSearch C (mk x).cps 0 0 (mk x).cps.size false) 1 none) (h:ze x.length=true):wpAny (model g.prog g.w) A (call (.builtin "re.Pattern.search") [.ref a,.str (mk x) t]) (fun v s'=> Gr s s'∧zk g ad s'.heap .none v) E s:=
 wpAny_call (codeAny_call_builtin zcc.plain zla (zcc.check _ _ _ _ _ _ _ _ p.ty (zmm _ _) (zn4 p f (by decide) (x8 (zy h) (by decide)) ⟨Gr.refl s,zff⟩)))
theorem zqb {aN aV:Addr} (pN:PatK g aN C3) (pV:PatK g aV C4):OpN g k (.builtin "re.Pattern.search") (zcq aN aV):=by
 intro A s ad W ps pv vs hr kin top S rv e E
 apply zm8 e rv;intro p q v u e r1 r2
 apply zp7 e r1;intro a e
 apply zas e r2;intro x t e
 obtain ⟨h1,rfl⟩:=z0 e
 obtain ⟨h1,h2⟩:=zak h1
 obtain ⟨h2,h3⟩:=zak h2
 rw [Bool.or_eq_true] at h1
 rcases h1 with h | h
 ·exact zj5 (eq_of_beq h▸pN.get kin) (zp5 _ (znw h2)) h3
 ·exact zj5 (eq_of_beq h▸pV.get kin) (zp6 _ (znw h2)) h3
def zdy (x:Array Nat) (done:Nat):Option (Nat×Nat):=(jc (zbu x) (x.size - done) done).map fun s=> (s,s + 1)
def zdz (x:Array Nat) (done:Nat):Option (Nat×Nat):=(jc (Jo x) (x.size - done) done).map fun s=> (s,Q2 x s)
theorem zv9 (x:Array Nat):Finds C1 x (3 * x.size + 7) (zdy x) where
 at_ done must h:=by
  refine bc fun J=> ?_
  obtain ⟨m',n,e,hn,r⟩:=zpo x done must h
  refine J ?_
  exact ⟨m',n,e,by lia,r⟩
 in_ done b e h:=by
  obtain ⟨s,h1,h2⟩:=xh.mp h
  obtain ⟨a1,a2,a3⟩:=Zp h1
  injection h2 with h2 h3;subst h2 h3
  lia
set_option tactic.hygienic true in
theorem zwa (x:Array Nat):Finds C2 x 30 (zdz x) where
 at_ done must h:=zpp x done must h
 in_ done b e h:=by
  obtain ⟨s,h1,h2⟩:=xh.mp h
  obtain ⟨a1,a2,a3⟩:=Zp h1
  injection h2 with h2 h3;subst h2 h3
  unfold Q2
  split
  ·rename_i h;obtain ⟨_,h,_⟩:=h;lia
  ·lia
def Zf (f:Array Nat→Nat→Option (Nat×Nat)) (r x:List Nat):List Str:=Qr (f x.toArray) x.toArray (mk r) (x.length + 1) 0
def zqu (f:Array Nat→Nat→Option (Nat×Nat)) (r x:List Nat):Option PV:=if (decide ((Zf f r x).length < sizeLine) && JoinOk (mk []) (Zf f r x))=true then some (.str (Txt.join (mk []) (Zf f r x)).cps.toList) else none
def zbl (a1 a2:Addr) (_:Sto):List PV→Option PV:=g3 fun p q u=> onR (fun a=> onS (fun r=> onS (fun x=> if (ze x.length && !r.contains 92)=true then
   (if a=a1 then zqu zdy r x else if a=a2 then zqu zdz r x else none) else none) u) q) p
theorem zx6 {A:Around}{s:Shared}{ad:AD}{E:Value→Shared→Prop}{a:Addr}{C:Array Nat}{r x:List Nat}{t t':Tok}{f:Array Nat→Nat→Option (Nat×Nat)}{K:Nat}{pv:PV} (p:PatAt s.heap a C) (F:Finds C (mk x).cps K (f (mk x).cps)) (hK:K < 2 ^ 63) (hx:ze x.length=true) (hr:r.contains 92=false) (e:zqu f r x=some pv):
  wpAny (model g.prog g.w) A (call (.builtin "re.Pattern.sub") [.ref a,.str (mk r) t,.str (mk x) t']) (fun v s'=> Gr s s'∧zk g ad s'.heap pv v) E s:=by
 obtain ⟨h3,rfl⟩:=z0 e
 obtain ⟨h3,h4⟩:=zak h3
 refine wpAny_call (codeAny_call_builtin zhy.plain zsz (zhy.check _ _ _ _ _ _ _ _ p.ty (zvi _ _ _) ?_))
 refine zub p (by rw [←hr];exact List.contains_toArray) ⟨plainId_quiet zat _, ?_⟩
 refine zx8 F hK (zy hx) (x.length + 1) 0 0 false [] {s with heap:=s.heap.push {cls:= .type "list",data:= .seq #[]}} (yc _) (Nat.lt_succ_self _) (p.keeps fun V V e=> xb _ e) ⟨0,xj _ rfl⟩ ?_ h4 fun h' tk t' keep=> ⟨Gr.of_heap fun b o e=> keep b o (fun e'=> Nat.lt_irrefl _ (e'▸Heap.lt_size e)) (xb _ e),zc3⟩
 rw [List.length_nil,Nat.zero_add];exact xx h3
theorem zty {a1 a2:Addr} (p1:PatK g a1 C1) (p2:PatK g a2 C2):OpN g k (.builtin "re.Pattern.sub") (zbl a1 a2):=by
 intro A s ad W ps pv vs hr kin top S rv e E
 apply zwk e rv;intro p q u v w z e r1 r2 r3
 apply zp7 e r1;intro a e
 apply zas e r2;intro r t2 e
 apply zas e r3;intro x t3 e
 obtain ⟨h1,e⟩:=jg e
 obtain ⟨h1,h2⟩:=zak h1
 rw [Bool.not_eq_true'] at h2
 by_cases ha:a=a1
 ·rw [if_pos ha] at e
  exact zx6 (ha▸p1.get kin) (zv9 _) (by have:=zy h1;show 3 * x.length + 7 < _;(have:sizeLine < 2 ^ 60:=by decide);lia) h1 h2 e
 ·rw [if_neg ha] at e
  obtain ⟨hb,e⟩:=jg e
  exact zx6 (hb▸p2.get kin) (zwa _) (by decide) h1 h2 e
end
end
section
noncomputable def zdw (sc scope:Scope) (nm:Nat→Str) (vis:List Nat) (ns:List Str):Bool:=
 (scope.kind== .function) && decide ((scope.names.map (·.1)).Nodup) && (scope.names.all fun x=> x.2 != .free || (sc.names.lookup x.1==some .cell || sc.names.lookup x.1==some .free)) &&
 (vis.all fun i=> scope.names.lookup (nm i)==some .free) && ns.all fun n=> scope.names.lookup n==some .local || scope.names.lookup n==some .cell
theorem CompOk.of {sc scope:Scope}{nm:Nat→Str}{vis:List Nat}{ns:List Str} (h:zdw sc scope nm vis ns=true):CompOk sc scope nm vis ns:=by
 unfold zdw at h
 simp only [xi] at h
 refine bc fun J=> ?_
 obtain ⟨⟨⟨⟨h1,h2⟩,h3⟩,h4⟩,h5⟩:=h
 refine J ?_
 refine ⟨eq_of_beq h1,xx h2,fun x hx hf=> ?_,fun i hi=> ?_,fun n hn=> ?_⟩
 ·have:=xo.mp h3 x hx
  rw [hf] at this
  simpa using this
 ·exact eq_of_beq (xo.mp h4 i hi)
 ·have:=xo.mp h5 n hn
  simpa using this
noncomputable def zb0 (vis:List Nat) (tg:Tg):Prop:=∀ U p U',tg p U=some U'→∀ i∈vis,U' i=U i
noncomputable def zbb (vis:List Nat) (tgs:List Tg):Prop:=∀ ps U U',zc4 tgs ps U=some U'→∀ i∈vis,U' i=U i
theorem zb0.nm {vis:List Nat}{i:Nat} (h:i∉vis):zb0 vis (tNm i):=by
 intro U p U' e j hj
 unfold tNm at e;cases e
 unfold upd;rw [if_neg (fun e=> by subst e;exact h hj)]
theorem zbb.nil {vis:List Nat}:zbb vis []:=by
 intro ps U U' e j hj
 cases ps with
 | nil=> cases si e;rfl
 | cons=> exact nn e
theorem zbb.cons {vis:List Nat}{tg:Tg}{tgs:List Tg} (h:zb0 vis tg) (hs:zbb vis tgs):zbb vis (tg::tgs):=by
 intro ps U U' e j hj
 cases ps with
 | nil=> exact nn e
 | cons p ps=>
  obtain ⟨U1,e1,e⟩:=ze1 e
  exact (hs ps U1 U' e j hj).trans (h U p U1 e1 j hj)
theorem zb0.tup {vis:List Nat}{tgs:List Tg} (h:zbb vis tgs):zb0 vis (jn tgs):=by
 intro U p U' e j hj
 obtain ⟨l,rfl,e2⟩:=zog e
 exact h _ _ _ e2 j hj
theorem zb0.ids {vis:List Nat}{tg:Tg} (h:zb0 vis tg):∀ U p U',tg p U=some U'→∀ i∈vis,U' i=U i:=h
theorem z5u {vis:List Nat}{a b:Nat} (h:b∉vis) (hab:a≠b):∀ U p U1,tNm a p (zq vis U)=some U1→∀ q U',tNm b q U1=some U'→∀ i v,U1 i=some v→U' i=some v:=by
 intro U p U1 e q U' e' i v ev
 unfold tNm at e e';cases e;cases e'
 by_cases hi:i=b
 ·subst hi
  unfold upd at ev
  rw [if_neg (fun e=> hab e.symm)] at ev
  unfold zq at ev
  rw [if_neg (by simpa using h)] at ev
  cases ev
 ·show upd _ b q i=some v
  unfold upd at ev⊢
  rw [if_neg hi];exact ev
theorem zcp {sc:Scope}{ns:List Str} (h:(ns.all fun n=> sc.names.lookup n==some .local || sc.names.lookup n==some .cell)=true):∀ n∈ns,Own sc n:=fun n hn=> by
 have:=xo.mp h n hn
 simpa [Own] using this
theorem z37 {sc:Scope}{n:Str} (h:(sc.names.lookup n==some .local || sc.names.lookup n==some .cell)=true):Own sc n:=by simpa [Own] using h
section
variable {g:GC}
theorem zyt:zds g "upper" "str.upper" jv:=Qk PySem.F.slot_str_upper PySem.F.type_str_upper
theorem zyq:zds g "lower" "str.lower" jv:=Qk PySem.F.slot_str_lower PySem.F.type_str_lower
theorem zys:zds g "strip" "str.strip" jv:=Qk PySem.F.slot_str_strip PySem.F.type_str_strip
theorem zvd:zds g "rstrip" "str.rstrip" jv:=Qk PySem.F.slot_str_rstrip PySem.F.type_str_rstrip
theorem zoz:zds g "endswith" "str.endswith" jv:=Qk PySem.F.slot_str_endswith PySem.F.type_str_endswith
theorem z2y:zds g "join" "str.join" jv:=Qk PySem.F.slot_str_join PySem.F.type_str_join
theorem zyr:zds g "split" "str.split" jv:=Qk PySem.F.slot_str_split PySem.F.type_str_split
theorem zkp:zds g "splitlines" "str.splitlines" jv:=Qk PySem.F.slot_str_splitlines PySem.F.type_str_splitlines
theorem zyp:zds g "count" "list.count" zlm:=zjs PySem.F.slot_list_count PySem.F.type_list_count
end
theorem zpu (W:Sto) (p:PV) (ps:List PV) (pv:PV) (e:Zx W (p::ps)=some pv):jv (dr W p)=true:=zzm e
theorem zps (W:Sto) (p:PV) (ps:List PV) (pv:PV) (e:Z7 W (p::ps)=some pv):jv (dr W p)=true:=zzm e
theorem zfp (W:Sto) (p:PV) (ps:List PV) (pv:PV) (e:Zs W (p::ps)=some pv):jv (dr W p)=true:=zwl e
theorem zna (W:Sto) (p:PV) (ps:List PV) (pv:PV) (e:zeb W (p::ps)=some pv):jv (dr W p)=true:=zzm e
theorem zim (W:Sto) (p:PV) (ps:List PV) (pv:PV) (e:za5 W (p::ps)=some pv):jv (dr W p)=true:=zwl e
theorem ztg (W:Sto) (p:PV) (ps:List PV) (pv:PV) (e:Qn W (p::ps)=some pv):jv (dr W p)=true:=zwl e
theorem zpt (W:Sto) (p:PV) (ps:List PV) (pv:PV) (e:zey W (p::ps)=some pv):jv (dr W p)=true:=zwl e
theorem zfo (W:Sto) (p:PV) (ps:List PV) (pv:PV) (e:j1 W (p::ps)=some pv):jv (dr W p)=true:=zzm e
theorem zpr (W:Sto) (p:PV) (ps:List PV) (pv:PV) (e:Jv W (p::ps)=some pv):zlm (dr W p)=true:=by
 obtain ⟨q,u,e1,e⟩:=zgz e
 obtain ⟨l,hl,_⟩:=zr1 e
 rw [(List.cons.inj e1).1,hl];rfl
theorem zth {g:GC}{a1 a2:Addr} (p1:PatK g a1 C1) (p2:PatK g a2 C2) (W:Sto) (p:PV) (ps:List PV) (pv:PV) (e:zbl a1 a2 W (p::ps)=some pv):∃ a C,p= .raw a∧PatK g a C:=by
 refine bc fun J=> ?_
 obtain ⟨q,u,w,e1,e⟩:=zwj e
 obtain ⟨a,rfl,e⟩:=zlw e
 obtain ⟨r,_,e⟩:=Q4 e
 obtain ⟨x,_,e⟩:=Q4 e
 obtain ⟨_,e⟩:=jg e
 refine J ?_
 refine ⟨a, ?_⟩
 rw [(List.cons.inj e1).1]
 by_cases ha:a=a1
 ·exact ⟨C1,rfl,ha▸p1⟩
 ·rw [if_neg ha] at e
  exact ⟨C2,rfl,(jg e).1▸p2⟩
theorem zlk {g:GC}{a1 a2:Addr} (p1:PatK g a1 C3) (p2:PatK g a2 C4) (W:Sto) (p:PV) (ps:List PV) (pv:PV) (e:zcq a1 a2 W (p::ps)=some pv):∃ a C,p= .raw a∧PatK g a C:=by
 obtain ⟨q,u,e1,e⟩:=zgz e
 obtain ⟨a,rfl,e⟩:=zlw e
 obtain ⟨x,_,e⟩:=Q4 e
 obtain ⟨h,_⟩:=z0 e
 have h:=(zak h).1
 rw [Bool.or_eq_true] at h
 rw [(List.cons.inj e1).1]
 rcases h with h | h
 ·exact ⟨a,C3,rfl,eq_of_beq h▸p1⟩
 ·exact ⟨a,C4,rfl,eq_of_beq h▸p2⟩
noncomputable def bfN (n:Nat) (more:List PV):BF:=fun ps=> if ps.length=n then some (ps ++ more) else none
theorem zh.list1 {g:GC}{ad:AD}{h:Heap}{ps:List PV}{vs:List Value} (r:zh g ad h ps vs) (e:ps.length=1):∃ a,vs=[a]:=List.length_eq_one_iff.mp (r.length.symm.trans e)
theorem zg7 {α:Type}{n:Nat}{l:List α} (h:l.length=n + 1):∃ a r,l=a::r∧r.length=n:=by
 cases l with
 | nil=> cases h
 | cons a r=> exact ⟨a,r,rfl,Nat.succ.inj h⟩
theorem zh.list2 {g:GC}{ad:AD}{h:Heap}{ps:List PV}{vs:List Value} (r:zh g ad h ps vs) (e:ps.length=2):∃ a b,vs=[a,b]:=by
 refine bc fun J=> ?_
 obtain ⟨a,l,e1,h⟩:=zg7 (r.length.symm.trans e)
 obtain ⟨b,e2⟩:=List.length_eq_one_iff.mp h
 refine J ?_
 exact ⟨a,b,e2▸e1⟩
theorem zh.list3 {g:GC}{ad:AD}{h:Heap}{ps:List PV}{vs:List Value} (r:zh g ad h ps vs) (e:ps.length=3):∃ a b c,vs=[a,b,c]:=by
 refine bc fun J=> ?_
 obtain ⟨a,l,e1,h⟩:=zg7 (r.length.symm.trans e)
 obtain ⟨b,l2,e2,h2⟩:=zg7 h
 obtain ⟨c,e3⟩:=List.length_eq_one_iff.mp h2
 refine J ?_
 exact ⟨a,b,c,e3▸e2▸e1⟩
section
variable {g:GC}{nm:Nat→Str}{fd:FuncData}{ids:List Nat}
theorem zbe (h:∀ a:Value,∃ binds,(∀ s:Shared,g.K.In s.heap→BindsTo s fd ⟨[a],[]⟩ binds)∧binds.map (·.1)=ids.map nm∧binds.map (·.2)=[a]):Jc g nm fd ids [] (bfN 1 []):=by
 intro s ad W ps bps vs w r e
 refine bc fun J=> ?_
 obtain ⟨h1,rfl⟩:=z0 e
 obtain ⟨a,rfl⟩:=r.list1 h1
 obtain ⟨b,h2,h3,h4⟩:=h a
 refine J ?_
 exact ⟨s,b,Gr.refl s,fun M A E Q q=> h2 s w.kin M A E Q q,h3,by rw [h4];simpa using r⟩
theorem zvl (h:∀ a b:Value,∃ binds,(∀ s:Shared,g.K.In s.heap→BindsTo s fd ⟨[a,b],[]⟩ binds)∧binds.map (·.1)=ids.map nm∧binds.map (·.2)=[a,b]):Jc g nm fd ids [] (bfN 2 []):=by
 intro s ad W ps bps vs w r e
 obtain ⟨h1,rfl⟩:=z0 e
 obtain ⟨a,b,rfl⟩:=r.list2 h1
 obtain ⟨b,h2,h3,h4⟩:=h a b
 exact ⟨s,b,Gr.refl s,fun M A E Q q=> h2 s w.kin M A E Q q,h3,by rw [h4];simpa using r⟩
theorem zo6 (h:∀ a b c:Value,∃ binds,(∀ s:Shared,g.K.In s.heap→BindsTo s fd ⟨[a,b,c],[]⟩ binds)∧binds.map (·.1)=ids.map nm∧binds.map (·.2)=[a,b,c]):Jc g nm fd ids [] (bfN 3 []):=by
 intro s ad W ps bps vs w r e
 obtain ⟨h1,rfl⟩:=z0 e
 obtain ⟨a,b,c,rfl⟩:=r.list3 h1
 obtain ⟨b,h2,h3,h4⟩:=h a b c
 exact ⟨s,b,Gr.refl s,fun M A E Q q=> h2 s w.kin M A E Q q,h3,by rw [h4];simpa using r⟩
theorem zq8 {kw:List (Str×Value)}{d:Value}{pd:PV} (hd:∀ ad h,zk g ad h pd d) (h:∀ a b:Value,∃ binds,(∀ s:Shared,g.K.In s.heap→BindsTo s fd ⟨[a,b],kw⟩ binds)∧binds.map (·.1)=ids.map nm∧binds.map (·.2)=[a,b,d]):Jc g nm fd ids kw (bfN 2 [pd]):=by
 intro s ad W ps bps vs w r e
 obtain ⟨h1,rfl⟩:=z0 e
 obtain ⟨a,b,rfl⟩:=r.list2 h1
 obtain ⟨b,h2,h3,h4⟩:=h a b
 refine ⟨s,b,Gr.refl s,fun M A E Q q=> h2 s w.kin M A E Q q,h3, ?_⟩
 rw [h4]
 exact r.append (.cons (hd _ _) .nil)
end
end
section
open PySem.Builtin PySem.Builtin.Str
theorem zwg {M:Model}{A:Around}{E:Value→Shared→Prop}{α β S:Type}{f:α→β→Sem (ForInStep β)}{B:S→β}{H:S→Shared}{I:List α→S→Prop}{Q:β→Shared→Prop}:
  ∀ (ys done:List α) (q:S),(∀ d x r q,done ++ ys=d ++ x::r→I d q→wpAny M A (f x (B q)) (fun y s'=> ∃ q',y= .yield (B q')∧s'=H q'∧I (d ++ [x]) q') E (H q))→I done q→(∀ q,I (done ++ ys) q→Q (B q) (H q))→
  wpAny M A (forIn ys (B q) f) Q E (H q):=by
 intro ys
 induction ys with
 | nil=> intro done q h hi k;simp only [List.forIn_nil];rw [List.append_nil] at k;exact xg (k q hi)
 | cons y ys ih=>
  intro done q h hi k
  rw [List.forIn_cons]
  refine xa (xp (h done y ys q rfl hi) (fun z s' hq=> ?_) fun V V x=> x)
  obtain ⟨q',rfl,rfl,hi'⟩:=hq
  have e1:done ++ [y] ++ ys=done ++ y::ys:=List.append_cons .. |>.symm
  exact ih (done ++ [y]) q' (fun d x r b e=> h d x r b (e1.symm.trans e)) hi' (e1▸k)
section
variable {prog:Program}{w:World}{A:Around}{E:Value→Shared→Prop}{s:Shared}{T:Value}{tab:Nat→Option (List Nat)}
noncomputable def zve (prog:Program) (w:World) (A:Around) (E:Value→Shared→Prop) (T:Value) (tab:Nat→Option (List Nat)) (s:Shared):Prop:=
 ∀ c l tk (Q:Value→Shared→Prop) E,tab c=some l→(∀ u,Q (.str (mk l) u) {s with toks:=tk})→∀ u,wpAny (model prog w) A (getItem T (.int (c:Nat) u)) Q E {s with toks:=tk}
theorem zlo (H:zve prog w A E T tab s) {c tk:Nat}{l:List Nat}{Q:Mapped→Shared→Prop} (e:tab c=some l) (h:∀ k,Q (.text (mk l)) {s with toks:=k}):wpAny (model prog w) A (tableLookup T c) Q E {s with toks:=tk}:=by
 unfold tableLookup
 refine xa (wpAny_attempt (xa (xa (wpAny_fresh (xg ?_)))))
 refine H c l (tk + 1) _ _ e (fun u=> ?_) _
 refine xa (xg ?_)
 exact xa (xg (xg (h _)))
structure TS where
 ps:List Str
 tot:Nat
 fast:Bool
 kn:List (Nat×Option Nat)
 tk:Nat
noncomputable abbrev TS.b (q:TS):List Str×Nat×Bool×List (Nat×Option Nat)×Bool:=(q.ps,q.tot,q.fast,q.kn,false)
structure TJ (tab:Nat→Option (List Nat)) (done:List Nat) (q:TS):Prop where
 pieces:(q.ps.reverse.map fun p=> p.cps.toList).flatten=(done.filterMap tab).flatten
 tot:q.tot=((done.filterMap tab).flatten).length
 known:∀ c a,q.kn.lookup c=some a→∃ d,a=some d∧tab c=some [d]
theorem TJ.push {M:Model}{s0:Shared}{done:List Nat}{q:TS} (h:TJ tab done q) {c k:Nat}{l:List Nat} (e:tab c=some l) {fast':Bool}{kn':List (Nat×Option Nat)}
  (hk:∀ c a,kn'.lookup c=some a→∃ d,a=some d∧tab c=some [d]) {t:Str} (ht:t.cps.toList=l) {n:Nat} (hn:n=l.length):wpAny M A (pure (ForInStep.yield (t::q.ps,q.tot + n,fast',kn',false))) (fun y s'=> ∃ q':TS,y= .yield q'.b∧s'={s0 with toks:=q'.tk}∧TJ tab (done ++ [c]) q') E {s0 with toks:=k}:=by
 have e1:((done ++ [c]).filterMap tab).flatten=(done.filterMap tab).flatten ++ l:=by simp [e]
 refine xg ⟨⟨_,_,_,_,k⟩,rfl,rfl, ?_, ?_,hk⟩
 ·show ((t::q.ps).reverse.map _).flatten=_
  simp only [e1,←h.pieces,←ht];simp
 ·show q.tot + n=_
  simp only [e1,xz,h.tot,hn]
theorem zjj:∀ (ps:List Str) (acc:Array Nat),ps.foldl (fun acc p=> acc ++ p.cps) acc=(acc.toList ++ (ps.map fun p=> p.cps.toList).flatten).toArray
 | [],acc=> by simp
 | p::ps,acc=> by simp only [List.foldl_cons,zjj ps];simp
theorem zma {x:List Nat}{t:Tok}{Q:Fin→Shared→Prop} (H:zve prog w A E T tab s)
  (hQ:∀ u k,Q (.done (.ret (.str (mk ((x.filterMap tab).flatten)) u))) {s with toks:=k}) {T':Nat→List Nat} (hx:∀ c∈x,tab c=some (T' c)) (hne:x≠[]) (hz:((x.filterMap tab).flatten).length≤sizeLine):wpAny (model prog w) A (Builtin.«str.translate» ⟨[.str (mk x) t,T],[]⟩) Q E s:=by
 unfold Builtin.«str.translate»
 have e0:((mk x).length==0)=false:=by rw [z8];cases x <;> simp at hne⊢
 refine xa (xa (xg (xa (xg (xg ?_)))))
 dsimp only
 rw [e0,if_neg (by decide)]
 refine xa ?_
 rw [List.forIn_toArray]
 refine zwg (B:=TS.b) (H:=fun q:TS=> {s with toks:=q.tk}) (I:=TJ tab) x [] ⟨[],0,_,[],s.toks⟩ (fun d c r q e hi=> ?_) ⟨rfl,rfl,fun c a e=> nn e⟩ (fun q hi=> ?_)
 ·rw [List.nil_append] at e
  have el:=hx c (e▸xu _ (xk ..))
  generalize T' c=l at el
  have htot:tooLong q.tot=false:=by
   have h2:((d.filterMap tab).flatten).length≤((x.filterMap tab).flatten).length:=by simp only [e,List.filterMap_append,List.flatten_append,xz];exact Nat.le_add_right _ _
   rw [hi.tot]
   exact decide_eq_false (Nat.not_lt.mpr (x8 h2 hz))
  refine Qs (ne_true_of_eq_false htot) ?_
  obtain ⟨ps,tot,fast,kn,tk⟩:=q
  cases fast with
  | false=>
   refine Qs xy (Qs xy (xa (zlo H el fun k=> ?_)))
   exact hi.push el hi.known rfl (z8 l)
  | true=>
   refine J4 rfl ?_
   dsimp only
   cases hl:kn.lookup c with
   | some a=>
    obtain ⟨d',rfl,e2⟩:=hi.known c a hl
    rw [el] at e2;cases si e2
    refine xa (xg ?_)
    exact hi.push el hi.known rfl rfl
   | none=>
    refine xa (zlo H el fun k=> ?_)
    dsimp only
    by_cases h1:((mk l).length==1 && l.toArray.all fun x=> decide (x < 128))=true
    ·rw [if_pos h1]
     obtain ⟨d',rfl⟩:=List.length_eq_one_iff.mp ((z8 l).symm.trans (eq_of_beq (zak h1).1))
     refine xa (xg ?_)
     refine hi.push el (fun c' a' h'=> ?_) rfl rfl
     rw [List.lookup_cons] at h'
     cases hc':c'==c with
     | true=> rw [hc'] at h';exact ⟨d',(si h').symm,eq_of_beq hc'▸el⟩
     | false=> rw [hc'] at h';exact hi.known c' a' h'
    ·rw [if_neg h1]
     refine xa (xg ?_)
     refine xa (wpAny_rule (Qs (by decide) (xa (zlo H el fun k=> ?_))))
     exact hi.push el hi.known rfl (z8 l)
 ·have htot:tooLong q.tot=false:=by rw [hi.tot];exact decide_eq_false (Nat.not_lt.mpr hz)
  refine Qs (ne_true_of_eq_false htot) ?_
  have hp:(q.ps.reverse.map fun p=> p.cps.toList).flatten=(x.filterMap tab).flatten:=hi.pieces
  unfold retStr
  rw [zjj]
  have e9:((#[]:Array Nat).toList ++ (q.ps.reverse.map fun p=> p.cps.toList).flatten)=(x.filterMap tab).flatten:=hp
  rw [e9]
  refine xa (Qs (by rw [z8];lia) ?_)
  exact xa (wpAny_fresh (xg (xg (hQ _ _))))
end
set_option tactic.hygienic true in
theorem zfg:∀ {vs:List Value}{ls:List (List Nat)},vs.mapM zbq=some ls→∀ {i:Nat}{l:List Nat},ls[i]? =some l→∃ u,vs[i]? =some (.str (mk l) u)
 | [],ls,h,i,l,e=> by cases si h;exact nn e
 | v::vs,ls,h,i,l,e=> by
  rw [List.mapM_cons] at h
  cases hv:zbq v with
  | none=> rw [hv] at h;exact nn h
  | some y=>
   rw [hv] at h
   cases hs:vs.mapM zbq with
   | none=> rw [hs] at h;exact nn h
   | some ys=>
    rw [hs] at h;cases h
    cases i with
    | zero=>
     simp at e;subst e
     cases v <;> simp [zbq] at hv
     rename_i x u
     exact ⟨u,by subst hv;simp [mk]⟩
    | succ i=> simpa using zfg hs (by simpa using e)
theorem zt7 {α:Type}{o:Option α}{d:α} (h:o.isSome=true):o=some (o.getD d):=by
 cases o with
 | none=> exact (xy h).elim
 | some _=> rfl
noncomputable def za9 (ls:List (List Nat)) (c:Nat):Option (List Nat):=if c < 1114112 then ls[c]? else none
structure TabK (g:GC) (a:Addr) (ls:List (List Nat)):Prop where
 at_:∃ vs n,g.K.lookup a=some {cls:= .type "list",data:= .seq vs n}∧vs.toList.mapM zbq=some ls
theorem TabK.ok {g:GC}{a:Addr}{ls:List (List Nat)} (t:TabK g a ls) {A:Around}{E:Value→Shared→Prop}{s:Shared} (kin:g.K.In s.heap):zve g.prog g.w A E (.ref a) (za9 ls) s:=by
 refine bc fun J=> ?_
 obtain ⟨⟨vs,n,e1,e2⟩⟩:=t
 refine J ?_
 intro c l tk Q E' ec hQ u
 unfold za9 at ec
 refine bc fun J=> ?_
 obtain ⟨hc,ec⟩:=zwm ec
 obtain ⟨u',hv⟩:=zfg e2 ec
 refine J ?_
 have pl:s.heap.PlainList a vs:=⟨n,kin _ _ e1⟩
 refine wpAny_getItem_list (s:={s with toks:=tk}) pl.isList (by lia) (by lia) (x:= .str (Mine.mk l) u') ?_ (hQ u')
 rw [Int.toNat_natCast,←Array.getElem?_toList];exact hv
def Jx (a:Addr) (ls:List (List Nat)) (_:Sto):List PV→Option PV:=sm1 fun x=> onR fun b=> if ((b==a && x.all (fun c=> (za9 ls c).isSome)) && (!x.isEmpty && ze ((x.filterMap (za9 ls)).flatten).length))=true then some (.str ((x.filterMap (za9 ls)).flatten)) else none
theorem ziu {g:GC}{k:Nat}{a:Addr}{ls:List (List Nat)} (t:TabK g a ls):OpN g k (.builtin "str.translate") (Jx a ls):=by
 intro A s ad W ps pv vs hr kin top S rv e E
 apply zhz e rv;intro x u q v e r
 apply zp7 e r;intro b e
 obtain ⟨h1,rfl⟩:=z0 e
 obtain ⟨h1,h3⟩:=zak h1
 obtain ⟨h1,h2⟩:=zak h1
 obtain ⟨h3,h4⟩:=zak h3
 cases eq_of_beq h1
 refine wpAny_call (codeAny_call_builtin PySem.F.slot_str_translate.plain PySem.F.entry_str_translate (PySem.F.slot_str_translate.check _ _ _ _ _ _ _ _ (typeIs_str _ _ _) (PySem.F.args_str_translate_2 _ _) ?_))
 exact zma (t.ok kin) (fun u k=> ⟨Gr.tok s _,ze0 rfl⟩) (T':=fun c=> ((za9 ls) c).getD []) (fun c hc=> zt7 (xo.mp h2 c hc)) (fun e=> by subst e;exact (xy h3).elim) (zy h4)
theorem zmh {g:GC}:zds g "translate" "str.translate" jv:=Qk PySem.F.slot_str_translate PySem.F.type_str_translate
theorem zin {a:Addr}{ls:List (List Nat)} (W:Sto) (p:PV) (ps:List PV) (pv:PV) (e:Jx a ls W (p::ps)=some pv):jv (dr W p)=true:=zwl e
end
section
noncomputable def zb8 (f:Den):zai:=fun V U W=> match f U W with | some .emp=> some [] | _=> none
section
variable {g:GC}{nm:Nat→Str}{k:Nat}{sc:Scope}
theorem zgr {h:Heap}{a:Addr}{n:Nat} (e:h.get? a=some {cls:= .type "dict",data:= .dict #[] n}):h.DictAt (PySem.strKind g.prog g.w) a [] n:=
 ⟨_,#[],e,⟨rfl,rfl,rfl⟩,rfl,(fun V h=> by simp at h),.nil,List.nodup_nil⟩
theorem zph {h:Heap}{a:Addr}{n:Nat} (e:h.get? a=some {cls:= .type "dict",data:= .dict #[] n}):h.DictOf (PySem.strKind g.prog g.w) a []:=
 ⟨_,#[],n,e,⟨rfl,rfl,rfl⟩,rfl,(fun V h=> by simp at h),.nil,List.nodup_nil⟩
theorem zn7:Slot "dict_itemiterator" "__iter__" "dict_itemiterator.__iter__":=
 .of (owner:="dict_itemiterator") (n:="__iter__") (by rw [typeLookup_type,builtinLookup_eq_fast];kernel_rfl) (by decide +kernel) (by decide +kernel) (by decide +kernel)
  (by first | exact .inl (by decide +kernel) | exact .inr (by decide +kernel)) (by rw [isSubtype_type];kernel_rfl)
theorem zsy:entryFor table "dict_itemiterator.__iter__"=some Builtin.«dict_keyiterator.__iter__»:=
 entryFor_alias (id':="dict_keyiterator.__iter__") (by rw [fastTable_eq_tree];kernel_rfl) (by decide +kernel) (by decide +kernel) (by rw [fastTable_eq_tree];kernel_rfl)
theorem zvh (a:Value):argsOk "dict_itemiterator.__iter__" ⟨[a],[]⟩:=by unfold argsOk;kernel_rfl
theorem zzt {I d:Addr}{n:Nat} (hne:d≠I):
  Itr g I [I] [d] [] (fun ad i h=> I∈ad.b∧i=0∧IsItemIter h I d 0 0 n .none .none∧h.get? d=some {cls:= .type "dict",data:= .dict #[] n}) (fun ad i v h=> False) true where
 frame:=fun ad ad' i h h' ⟨m,h0,h1,h2⟩ st k=> ⟨st.bb _ m,h0,k _ (.inl (by simp)) _ h1,k _ (.inr (by simp)) _ h2⟩
 item:=fun A ad i p s Q E hA hf e=> by simp at e
 go:=fun A elts x1 pos ad i v s Q E h=> h.elim
 goN:=nofun
 done:=fun A ad s Q E hA ⟨m,h0,h1,h2⟩ hQ=> by
  refine wpAny_pyNext_items_end (knd:=PySem.strKind g.prog g.w) (kvs:=[]) hA h1 (zgr h2) rfl fun h' he=> ?_
  exact hQ h' fun b o hb e=> he b o (fun e'=> hb (by simp [e'])) e
 self:=fun A ad i s Q E ⟨m,h0,h1,h2⟩ hQ=> by
  have hT:s.TypeIs (.ref I) "dict_itemiterator":=⟨_,h1,rfl⟩
  refine wpAny_pyIter_slot hT zn7 (wpAny_call_entry zn7 hT zsy ?_ (zvh _))
  show wpAny _ _ (ret (.ref I)) _ _ s
  exact xg ⟨_,rfl,"dict_itemiterator",_,hT,PySem.F.slot_dict_itemiterator_next.lookup,hQ⟩
 ban:=fun ad i h ⟨m,_⟩ b hb=> by simp at hb;subst hb;exact m
theorem zpm {f:Den}{base:Nat}{U:Ren}{W:Sto}{its:List PV} (e:zb8 f base U W=some its):f U W=some .emp∧[]=its:=by
 delta zb8 at e
 generalize f U W=o at e⊢
 cases o with
 | none=> exact nn e
 | some p=>
  cases p with
  | emp=> exact ⟨rfl,Option.some.inj e⟩
  | _=> exact nn e
theorem SI.items {oe:Expr}{apos pos:Pos}{f:Den} (hm:Jl oe "items" apos pos [] []) (h:Snd g nm k sc oe f):SI g nm k sc true (.Call (.Attribute oe "items" apos) [] [] pos) (zb8 f):=by
 intro A env s ad base U W its hr he hx hf Q E hQ
 refine bc fun J=> ?_
 obtain ⟨e0,rfl⟩:=zpm hf
 obtain ⟨pl,hm⟩:=hm
 refine J ?_
 refine methodCall_KW (pl:=pl env) ?_ (hm env)
 refine xp (h A env s ad U W _ hr he hx e0 E) (fun v s1 h1=> ?_) fun V V x=> x
 have x1:=hx.keeps h1.1.h
 have r1:=h1.2
 obtain ⟨d,rfl,hd,nd,n,e1⟩:=r1
 refine getMethod_builtin ⟨_,e1,rfl⟩ PySem.F.plainAttrs_dict PySem.F.slot_dict_items PySem.F.type_dict_items (fun a' e'=> by cases e';exact ⟨_,e1,rfl⟩) ?_
 have hT:s1.TypeIs (.ref d) "dict":=⟨_,e1,rfl⟩
 refine method_meetsIn PySem.F.slot_dict_items PySem.F.entry_dict_items rfl (PyProof.Rows.evalArgs_none ⟨rfl,hT,PySem.F.args_dict_items_1 _,_,meets_dict_items (PySem.strKind g.prog g.w) d hd,⟨[],zph e1⟩, ?_⟩)
 refine wpAny_pyIter_items (knd:=PySem.strKind g.prog g.w) (d:=d) (kvs:=[]) (ep:=n) ⟨_,xj _ rfl,rfl,rfl⟩ (zgr (xb _ e1)) ?_
 generalize hI:(s1.heap.push {cls:= .type "dict_items",data:= .fields #[.ref d]}).objs.size=I
 have k12:∀ b o,s1.heap.get? b=some o→(s1.heap.push {cls:= .type "dict_items",data:= .fields #[.ref d]}).get? b=some o:=fun b o e=> xb _ e
 have fr:(s1.heap.push {cls:= .type "dict_items",data:= .fields #[.ref d]}).get? I=none:=by rw [←hI];exact get?_size _
 have hdI:d≠I:=fun e=> by subst e;rw [k12 _ _ e1] at fr;cases fr
 refine hQ I _ [I] [d] _ _ (s1.heap.push {cls:= .type "dict_items",data:= .fields #[.ref d]}) (h1.1.trans ?_) (zzt (n:=n) hdI) (fun b o e=> k12 b o (h1.1.h b o e)) (fun b o e=> xb _ e) ?_ ?_ ?_ ?_ ?_ rfl
 ·exact ⟨⟨_,_,rfl⟩,fun b o e=> xb _ (k12 b o e)⟩
 ·intro b hb;simp at hb;subst hb;exact fr
 ·intro b hb;simp at hb;subst hb;exact ⟨_,by rw [←hI];exact xj _ rfl⟩
 ·intro b hb;simp at hb;subst hb;exact ⟨⟨_,k12 _ _ e1⟩,nd.2,by simp;exact hdI⟩
 ·intro b hb j ej;simp at hb;subst hb;exact absurd (xw ej) nd.1
 ·intro ad' h' hb st kk
  refine ⟨hb _ (by simp),rfl,kk I _ (.inl (by simp)) (by rw [←hI];exact xj _ rfl),kk d _ (.inr (by simp)) (xb _ (k12 _ _ e1))⟩
noncomputable def zv0:zcu:=fun V V W=> some (.hdr W.length,W ++ [[]])
end
end
section
section
variable {g:GC}{nm:Nat→Str}{k:Nat}{sc:Scope}
theorem SS.stuck {sts:List Stmt}:SS g nm k sc sts Qz:=by
 intro A env s ad base U W fl U' W' hr he F hx hp;cases hp
noncomputable def HMk (g:GC) (k:Nat):Prop:=∀ (A:Around) (s:Shared) (ad:AD) (W:Sto) (base:Nat) (Q:Value→Shared→Prop) (E:Value→Shared→Prop),Room k A→Wd g ad W s.heap→
 (∀ v h' tk ad',NC base ad ad' s.heap h'→zk g ad' h' (.hdr W.length) v→Wd g ad' (W ++ [[]]) h'→Q v {s with heap:=h',toks:=tk})→wpAny (model g.prog g.w) A (call (.ref g.hd) []) Q E s
theorem SE.headers {n:Str}{p pos:Pos} (hn:sc.names.lookup n=some .globalImplicit) (G:IsGlob g n (.ref g.hd)) (K:keepIn g.K (.ref g.hd)=true) (hd:(n==("__debug__":Str))=false) (H:HMk g k):
  SE g nm k sc (.Call (.Name n p) [] [] pos) zv0:=by
 intro A env s ad base U W pv W' hr he F hx hp Q E hQ
 unfold zv0 at hp;cases hp
 refine Zc hr he hx hn G (.glob K) jl.nil rfl rfl hd fun vs s1 g1 r1=> ?_
 rw [r1.inv_nil]
 have k1:=g1.h
 obtain ⟨h1,tk1,rfl⟩:=g1.eq
 dsimp only at k1
 have x1:=hx.keeps k1
 refine H A ⟨h1,s.gens,s.drawn,tk1,s.os⟩ ad W base Q E hr x1.wd fun v h' tk ad' n r w'=> ?_
 exact hQ v h' tk ad' ((Nx.of_keeps k1).trans n.nx) r (x1.nc n w')
theorem zyy {fd:FuncData}{ids:List Nat}{n0 n1 n2 n3:Str} (h:∀ a b c:Value,bindArgs fd ⟨[a,b,c],[]⟩=(do let d←alloc {cls:= .type "dict",data:= .dict #[]};pure [(n0,a),(n1,b),(n2,c),(n3,.ref d)])) (hn:[n0,n1,n2,n3]=ids.map nm):
  Jc g nm fd ids [] (bfN 3 [.emp]):=by
 intro s ad W ps bps vs w r e
 refine bc fun J=> ?_
 obtain ⟨h1,rfl⟩:=z0 e
 obtain ⟨a,b,c,rfl⟩:=r.list3 h1
 refine J ?_
 refine ⟨{s with heap:=s.heap.push {cls:= .type "dict",data:= .dict #[]}},[(n0,a),(n1,b),(n2,c),(n3,.ref s.heap.objs.size)],Gr.push s _ _,fun M A E Q q=> ?_,hn, ?_⟩
 ·rw [h a b c]
  exact xa (wpAny_alloc (xg q))
 ·refine (r.keeps fun b o e=> xb _ e).append (.cons ?_ .nil)
  refine ⟨_,rfl, ?_,w.sto.fresh (get?_size _),0,xj _ rfl⟩
  obtain ⟨o,e⟩:=q9 w.top.g
  have:mainGlobals < s.heap.objs.size:=Heap.lt_size e
  have h3:1 < s.heap.objs.size:=Nat.lt_trans (by decide) this
  exact beq_eq_false_iff_ne.mpr (fun e=> by rw [e] at h3;exact absurd h3 (by decide))
end
end
section
section
variable {P:Expr→Type} (e:Expr)
noncomputable def dsp (const:∀ v x p,Option (P (.Constant v x p)):=fun V V V=> none) (name:∀ n p,Option (P (.Name n p)):=fun V V=> none) (bin:∀ l o r p,Option (P (.BinOp l o r p)):=fun V V V V=> none)
  (un:∀ o x p,Option (P (.UnaryOp o x p)):=fun V V V=> none) (cmp:∀ l os rs p,Option (P (.Compare l os rs p)):=fun V V V V=> none) (ife:∀ a b d p,Option (P (.IfExp a b d p)):=fun V V V V=> none)
  (tup:∀ es x p,Option (P (.Tuple es x p)):=fun V V V=> none) (lst:∀ es p,Option (P (.List es p)):=fun V V=> none) (sub:∀ v s p,Option (P (.Subscript v s p)):=fun V V V=> none)
  (att:∀ o a p,Option (P (.Attribute o a p)):=fun V V V=> none) (call:∀ f es kws p,Option (P (.Call f es kws p)):=fun V V V V=> none) (lc:∀ el gs s p,Option (P (.ListComp el gs s p)):=fun V V V V=> none)
  (dc:∀ a b gs s p,Option (P (.DictComp a b gs s p)):=fun V V V V V=> none) (bo:∀ o es p,Option (P (.BoolOp o es p)):=fun V V V=> none) (sl:∀ a b d p,Option (P (.Slice a b d p)):=fun V V V V=> none):Option (P e):=match e with
 | .Constant v x p=> const v x p
 | .Name n p=> name n p
 | .BinOp l o r p=> bin l o r p
 | .UnaryOp o x p=> un o x p
 | .Compare l os rs p=> cmp l os rs p
 | .IfExp a b d p=> ife a b d p
 | .Tuple es x p=> tup es x p
 | .List es p=> lst es p
 | .Subscript v s p=> sub v s p
 | .Attribute o a p=> att o a p
 | .Call f es kws p=> call f es kws p
 | .ListComp el gs s p=> lc el gs s p
 | .DictComp a b gs s p=> dc a b gs s p
 | .BoolOp o es p=> bo o es p
 | .Slice a b d p=> sl a b d p
 | _=> none
def zar (h:∀ n p,Option (P (.Name n p))):Option (P e):=dsp e (name:=h)
def zf7 (h:∀ v x p,Option (P (.Constant v x p))):Option (P e):=dsp e (const:=h)
def z1p (h:∀ o a p,Option (P (.Attribute o a p))):Option (P e):=dsp e (att:=h)
def zlv (h:∀ f es kws p,Option (P (.Call f es kws p))):Option (P e):=dsp e (call:=h)
end
noncomputable def lo1 {α:Type}{P:List α→Type} (l:List α) (h:∀ a,Option (P [a])):Option (P l):=match l with
 | [a]=> h a
 | _=> none
noncomputable def lo2 {α:Type}{P:List α→Type} (l:List α) (h:∀ a b,Option (P [a,b])):Option (P l):=match l with
 | [a,b]=> h a b
 | _=> none
noncomputable def lo0 {α:Type}{P:List α→Type} (l:List α) (h:Option (P [])):Option (P l):=match l with
 | []=> h
 | _=> none
noncomputable def chk (p:Prop) [Decidable p]:Option (PLift p):=if h:p then some ⟨h⟩ else none
structure Fx (e:Expr) (bt bs bd:Bool):Prop where
 star:∀ es env,starEach (e::es) env=(false,eval e env)::starEach es env
 fold:∀ env x,foldedSetIterable e env x=pure x
 sub:∀ o i,∃ l,subscripted e false o i=operate l (getItem o i)
 tst:bt=true→∀ env whole,isTrue e env whole=(do let v←whole;standAt e.pos;holding [v] (truthy v))
 swp:bs=true→∀ t l env,swapsWith e t l env=pure false
 sst:bd=true→∀ ts x p env,swappedStores [.Tuple ts x p] e env=pure none
theorem Fx.one {e:Expr}{a b d:Bool} (h:Fx e a b d) (env:Env):starEach [e] env=[(false,eval e env)]:=h.star [] env
theorem zof {e:Expr}{l:Nat}{n:Str}{p:Pos}{sc sp:Scope} (hs:∀ env:Env,swapsWith e (some (.Name n p)) l env=pure (env.blockKind== .function && env.kindOf n==some .local && p.line==e.pos.line && !(sp.names.any fun (m,k)=> m==n && (k== .local || k== .cell)))) (h:sc.names.lookup n=some .cell) (env:Env) (he:env.scope=sc):swapsWithSole [.Name n p] e l env=pure false:=by
 have hk:(env.kindOf n==some .local)=false:=by unfold Env.kindOf;rw [he,h];rfl
 refine (hs env).trans ?_
 rw [hk,Bool.and_false];rfl
theorem z04 {e:Expr}{sp:Scope}{l:Nat}{n:Str}{p:Pos}{sc:Scope} (hs:∀ env:Env,swapsWith e (some (.Name n p)) l env=pure (env.blockKind== .function && env.kindOf n==some .local && p.line==e.pos.line && !(sp.names.any fun (m,k)=> m==n && (k== .local || k== .cell))))
  (h1:(sc.kind== .function)=true) (h2:sc.names.lookup n=some .local) (h3:(p.line==e.pos.line && !(sp.names.any fun (m,k)=> m==n && (k== .local || k== .cell)))=true) (env:Env) (he:env.scope=sc):swapsWithSole [.Name n p] e l env=pure true:=by
 have hb:(env.blockKind== .function)=true:=by unfold Env.blockKind;rw [he,eq_of_beq h1];rfl
 have hk:(env.kindOf n==some .local)=true:=by unfold Env.kindOf;rw [he,h2];rfl
 refine (hs env).trans ?_
 rw [hb,hk,Bool.and_assoc,h3];rfl
theorem zqs (s:Str):s=⟨s.cps.toList.toArray⟩:=by cases s;rfl
abbrev MF (e:Expr):Type:=PLift (∀ name env w,attributeBase e name env w=w)
def mfC (e:Expr):Option (MF e):=dsp (P:=MF) e (const:=fun V V V=> some ⟨fun V V V=> rfl⟩) (name:=fun V V=> some ⟨fun V V V=> rfl⟩) (sub:=fun V V V=> some ⟨fun V V V=> rfl⟩) (att:=fun V V V=> some ⟨fun V V V=> rfl⟩)
 (call:=fun f es kws p=> zar (P:=fun f=> MF (.Call f es kws p)) f fun n q=> match es with
  | []=> none
  | a::as=> some ⟨fun V V V=> rfl⟩)
theorem zvf {p:Pos}{l:List (Bool×Sem Value)} (h:l.any (·.1)=false):(backTo p l).all (!·.1)=true:=by
 induction l with
 | nil=> rfl
 | cons x l ih=>
  obtain ⟨h1,h2⟩:=Bool.or_eq_false_iff.mp h
  show (!x.1 && (backTo p l).all (!·.1))=true
  have h1:x.1=false:=h1
  rw [ih h2,h1];rfl
abbrev zmi (es:List Expr):Prop:=∀ env,(starEach es env).any (·.1)=false
theorem znk {oe:Expr}{name:Str}{apos pos:Pos}{es:List Expr}{kws:List Keyword} (h:∀ name env w,attributeBase oe name env w=w) (h2:(apos.endLine==pos.line)=true)
  (h3:∀ env,methodCallForm (es.length + kws.length) (backTo pos (starEach es env)) (backToKw pos (keywordEach kws env))=true):Jl oe name apos pos es kws:=
 ⟨fun env=> do return (←importBound oe env).getD true,fun env=> by
  show (do
   let ov←attributeBase oe name env (eval oe env)
   standAt apos.atName
   let (f,first)←holding [ov] (calleeOf (methodCallForm (es.length + kws.length) (backTo pos (starEach es env)) (backToKw pos (keywordEach kws env))) oe env ov name)
   let callPos←methodCallPos (methodCallForm (es.length + kws.length) (backTo pos (starEach es env)) (backToKw pos (keywordEach kws env))) oe env apos pos
   callWith callPos f first (backTo pos (starEach es env)) (backToKw pos (keywordEach kws env)))=_
  rw [h,h3 env];unfold methodCallPos;rw [h2];rfl⟩
theorem zhf {oe:Expr}{name:Str}{apos pos:Pos}{es:List Expr} (h:∀ name env w,attributeBase oe name env w=w) (h2:(apos.endLine==pos.line && decide (es.length < 30))=true) (hp:zmi es):Jl oe name apos pos es []:=by
 rw [xi] at h2
 refine znk h h2.1 fun env=> ?_
 show ((backTo pos (starEach es env)).all (!·.1) && true && decide (es.length + 0 + 0 < 30))=true
 rw [zvf (hp env)];exact h2.2
theorem z3u {oe e:Expr}{name kn:Str}{v:Expr}{apos pos p:Pos} (h:∀ name env w,attributeBase oe name env w=w) (h2:(apos.endLine==pos.line)=true) (hp:∀ env,starEach [e] env=[(false,eval e env)]):Jl oe name apos pos [e] [⟨some kn,v,p⟩]:=by
 refine znk h h2 fun env=> ?_
 show ((backTo pos (starEach [e] env)).all (!·.1) && true && true)=true
 rw [hp env];rfl
noncomputable def lk {α:Type} (key:α→Str) (n:Str):List α→Option ((x:α)×' key x=n)
 | []=> none
 | x::l=> if h:key x=n then some ⟨x,h⟩ else lk key n l
section
variable (g:GC) (nm:Nat→Str) (k:Nat)
abbrev CE:=(x:Str×(List Den→Den))×' ∀ {sc:Scope}{es:List Expr}{fs:List Den}{p pos:Pos},sc.names.lookup x.1=some .globalImplicit→jl g nm k sc es fs→zmi es→Snd g nm k sc (.Call (.Name x.1 p) es [] pos) (x.2 fs)
abbrev ME:=(x:Str×(Den→List Den→Den))×' ∀ {sc:Scope}{oe:Expr}{es:List Expr}{fo:Den}{fs:List Den}{p pos:Pos},Jl oe x.1 p pos es []→Snd g nm k sc oe fo→jl g nm k sc es fs→zmi es→Snd g nm k sc (.Call (.Attribute oe x.1 p) es [] pos) (x.2 fo fs)
abbrev KE:=(x:Str×Str×(Bool→Den→Den→Den))×' ∀ {b:Bool}{sc:Scope}{oe e1:Expr}{fo f1:Den}{i:Nat}{p pos p1 p2:Pos},Jl oe x.1 p pos [e1] [⟨some x.2.1,.Constant (.bool b) i p1,p2⟩]→Snd g nm k sc oe fo→Snd g nm k sc e1 f1→(∀ env,starEach [e1] env=[(false,eval e1 env)])→Snd g nm k sc (.Call (.Attribute oe x.1 p) [e1] [⟨some x.2.1,.Constant (.bool b) i p1,p2⟩] pos) (x.2.2 b fo f1)
abbrev XE:=(x:Str×(Den→List Den→zcu))×' ∀ {sc:Scope}{oe:Expr}{es:List Expr}{fo:Den}{fs:List Den}{p pos:Pos},Jl oe x.1 p pos es []→Snd g nm k sc oe fo→jl g nm k sc es fs→zmi es→SE g nm k sc (.Call (.Attribute oe x.1 p) es [] pos) (x.2 fo fs)
abbrev GE:=(x:Str×PV)×' ∃ v,IsGlob g x.1 v∧zaj g v x.2
abbrev TE:=(x:Str×String)×' IsGlob g x.1 (.type x.2)
structure Tbl where
 ix:Str→Nat
 inj:∀ i j,nm i=nm j→i=j
 vt:List (List Nat)
 calls:List (CE g nm k)
 meths:List (ME g nm k)
 kws:List (KE g nm k)
 ems:List (XE g nm k)
 globs:List (GE g)
 types:List (TE g)
 hE:IsGlob g "enumerate" (.type "enumerate")
 hR:IsGlob g "range" (.type "range")
 hZ:IsGlob g "zip" (.type "zip")
 hT:IsGlob g "type" (.type "type")
 hk:HK g
 hd:Option (PLift (HMk g k∧IsGlob g "Headers" (.ref g.hd)∧keepIn g.K (.ref g.hd)=true))
abbrev RE (sc:Scope) (e:Expr):=(x:Den×Bool×Bool×Bool)×' Snd g nm k sc e x.1∧Fx e x.2.1 x.2.2.1 x.2.2.2
abbrev RT (sc:Scope) (e:Expr):=(f:q7)×' ST g nm k sc e f
abbrev RS (sc:Scope) (s:Stmt):=(f:Stm)×' SX g nm k sc s f
abbrev Cc:=(∀ sc e,Option (RE g nm k sc e))×(∀ sc e,Option (RT g nm k sc e))×(∀ sc s,Option (RS g nm k sc s))
end
section
variable {g:GC}{nm:Nat→Str}{k:Nat} (t:Tbl g nm k) (c:Cc g nm k) (sc:Scope)
def z6v (o:Operator):Option ((op:Sto→PV→PV→Option PV)×' Op2 g k (binaryOp o) op):=match o with
 | .Add=> some ⟨zx,z3z⟩
 | .Sub=> some ⟨jb,z35⟩
 | .Mult=> some ⟨j3,z33⟩
 | .Div=> some ⟨zqd,z30⟩
 | .FloorDiv=> some ⟨zo,z0b⟩
 | .Mod=> some ⟨jt,z32⟩
 | .Pow=> some ⟨Qc,z34⟩
 | _=> none
def z5k (o:CmpOp):Option ((op:Sto→PV→PV→Option PV)×' Op2 g k (compareOp o) op):=match o with
 | .Eq=> some ⟨zv,zxb⟩
 | .NotEq=> some ⟨qr,zxc⟩
 | .Lt=> some ⟨pLt,z6j⟩
 | .LtE=> some ⟨pLe,z6i⟩
 | .GtE=> some ⟨pGe,z6g⟩
 | .In=> some ⟨pIn,z6h⟩
 | .NotIn=> some ⟨zdl,zxd⟩
 | .IsNot=> some ⟨Jw,zlx⟩
 | _=> none
noncomputable def cL:∀ es:List Expr,Option ((fs:List Den)×' jl g nm k sc es fs∧zmi es)
 | []=> some ⟨[],jl.nil,fun V=> rfl⟩
 | e::es=> (c.1 sc e).bind fun f=> (cL es).bind fun l=> some ⟨f.1.1::l.1,jl.cons f.2.1 l.2.1 (f.2.2.star es),fun env=> by rw [f.2.2.star];exact l.2.2 env⟩
def cO (o:Option Expr):Option ((f:zo0)×' SO g nm k sc o f):=match o with
 | none=> some ⟨qn,SO.none⟩
 | some e=> (c.1 sc e).bind fun f=> some ⟨qv f.1.1,SO.some f.2.1⟩
noncomputable def z5h:∀ es:List Expr,Option ((f:q7)×' SA g nm k sc .And es f)
 | []=> some ⟨fun V V=> some true,SA.nilAnd⟩
 | e::es=> (c.2.1 sc e).bind fun f=> (z5h es).bind fun l=> some ⟨Zz f.1 l.1,SA.consAnd f.2 l.2⟩
noncomputable def cOr:∀ es:List Expr,Option ((f:q7)×' SA g nm k sc .Or es f)
 | []=> some ⟨fun V V=> some false,SA.nilOr⟩
 | e::es=> (c.2.1 sc e).bind fun f=> (cOr es).bind fun l=> some ⟨tOr f.1 l.1,SA.consOr f.2 l.2⟩
def cC (v:Const) (x:Nat) (pos:Pos):Option ((f:Den)×' Snd g nm k sc (.Constant v x pos) f):=match v with
 | .int i=> some ⟨dC (.int i),Snd.int⟩
 | .str s=> some ⟨dC (.str s.cps.toList),Snd.str (zqs s)⟩
 | .float i=> some ⟨dC (.flt i),Snd.flt⟩
 | .bool i=> some ⟨dC (.bool i),Snd.bool⟩
 | .none=> some ⟨dC .none,Snd.none⟩
 | _=> none
def cN (n:Str) (pos:Pos):Option ((f:Den)×' Snd g nm k sc (.Name n pos) f):=(chk ((n==("__debug__":Str))=false)).bind fun hd=>
 if hn:sc.names.lookup n=some .globalImplicit then (lk (·.1.1) n t.globs).bind fun x=> some ⟨dC x.1.1.2,by obtain ⟨⟨_,v,h1,h2⟩,rfl⟩:=x;exact Snd.glob hn h1 hd.down h2⟩
 else (chk (nm (t.ix n)=n)).bind fun h=> (chk ((n==("__classdict__":Str))=false)).bind fun h2=> some ⟨za (t.ix n),Snd.var h.down hd.down h2.down⟩
def own (n:Str):Option (PLift (sc.names.lookup n=some .local∨sc.names.lookup n=some .cell)):=chk _
def cV (n:Str) (p:Pos):Option (PLift (STg g nm sc [n] (.Name n p) (tNm (t.ix n)))):=(chk (nm (t.ix n)=n)).bind fun h=> (own sc n).bind fun h2=> some ⟨STg.name t.inj h.down h2.down⟩
abbrev GT (e:Expr):=(x:List Str×Tg×List Nat×Bool)×' STg g nm sc x.1 e x.2.1∧(∀ vis,(∀ i∈x.2.2.1,i∉vis)→zb0 vis x.2.1)∧(∀ es env,assignEach (e::es) env=(false,assign e env)::assignEach es env)∧
 (x.2.2.2=true→(∃ n p,e= .Name n p)∧∀ v env,swappedStores [e] v env=pure none)∧(x.2.2.2=false→∃ es y p,e= .Tuple es y p)
noncomputable def cGs (G:∀ e,Option (GT (g:=g) (nm:=nm) sc e)):∀ es,Option ((x:List Str×List Tg×List Nat)×' zkq g nm sc x.1 es x.2.1∧∀ vis,(∀ i∈x.2.2,i∉vis)→zbb vis x.2.1)
 | []=> some ⟨([],[],[]),zkq.nil,fun V V=> zbb.nil⟩
 | e::es=> (G e).bind fun a=> (cGs G es).bind fun b=> some ⟨(a.1.1 ++ b.1.1,a.1.2.1::b.1.2.1,a.1.2.2.1 ++ b.1.2.2),zkq.cons a.2.1 b.2.1 (a.2.2.2.1 es),fun vis hv=> zbb.cons (a.2.2.1 vis fun i hi=> hv i (List.mem_append_left _ hi)) (b.2.2 vis fun i hi=> hv i (xu _ hi))⟩
noncomputable def cG:Nat→∀ e,Option (GT (g:=g) (nm:=nm) sc e)
 | 0,_=> none
 | m + 1,e=> dsp (P:=GT sc) e (name:=fun n p=> (cV t sc n p).bind fun h=> some ⟨([n],tNm (t.ix n),[t.ix n],true),h.down,fun vis hv=> zb0.nm (hv _ (List.mem_singleton.mpr rfl)),fun V V=> rfl,fun V=> ⟨⟨n,p,rfl⟩,fun V V=> rfl⟩,nofun⟩)
   (tup:=fun es x p=> (cGs sc (cG m) es).bind fun r=> some ⟨(r.1.1,jn r.1.2.1,r.1.2.2,false),STg.tup r.2.1,fun vis hv=> zb0.tup (r.2.2 vis hv),fun V V=> rfl,nofun,fun V=> ⟨es,x,p,rfl⟩⟩)
theorem zoj {e:Expr}{b py:Bool} (h1:b=true→∃ n p,e= .Name n p) (h2:b=false→∃ es y p,e= .Tuple es y p) (h:(b && py)=false):(∃ es x p,e= .Tuple es x p)∨((∃ n p,e= .Name n p)∧py=false):=by
 cases b with
 | false=> exact .inl (h2 rfl)
 | true=> exact .inr ⟨h1 rfl,h⟩
end
end
section
section
variable {g:GC}{nm:Nat→Str}{k:Nat} (t:Tbl g nm k) (c:Cc g nm k) (sc:Scope)
abbrev RI (e:Expr):=(x:Bool×zai)×' SI g nm k sc x.1 e x.2∧∀ env x,foldedSetIterable e env x=pure x
def cB (n:Str) (p pos:Pos) (es:List Expr) (hn:sc.names.lookup n=some .globalImplicit):Option (RI (g:=g) (nm:=nm) (k:=k) sc (.Call (.Name n p) es [] pos)):=
 if h:n="enumerate" then lo1 (P:=fun es=> RI sc (.Call (.Name n p) es [] pos)) es fun a=> (c.1 sc a).bind fun f=> some ⟨(true,zac f.1.1),by obtain rfl:=h;exact SI.enum hn t.hE f.2.1 f.2.2.one,fun V V=> rfl⟩
 else if h:n="range" then lo1 (P:=fun es=> RI sc (.Call (.Name n p) es [] pos)) es fun a=> zf7 (P:=fun a=> RI sc (.Call (.Name n p) [a] [] pos)) a fun v x q=> match v with
  | .int i=> (chk (i=(i.toNat:Int)∧i.toNat≤1000)).bind fun h2=> some ⟨(false,zgv i.toNat),by obtain rfl:=h;exact SI.range h2.down.1 hn t.hR h2.down.2,fun V V=> rfl⟩
  | _=> none
 else if h:n="zip" then match es with
  | [a,b]=> (c.1 sc a).bind fun f=> (c.1 sc b).bind fun f'=> some ⟨(true,zik [f.1.1,f'.1.1]),by obtain rfl:=h;exact SI.zip2 hn t.hZ f.2.1 f'.2.1 (f.2.2.star _) (f'.2.2.star _) fun env=> (f.2.2.star _ env).trans (congrArg _ (f'.2.2.one env)),fun V V=> rfl⟩
  | [a,b,d]=> (c.1 sc a).bind fun f=> (c.1 sc b).bind fun f'=> (c.1 sc d).bind fun f''=> some ⟨(true,zik [f.1.1,f'.1.1,f''.1.1]),by obtain rfl:=h;exact SI.zip3 hn t.hZ f.2.1 f'.2.1 f''.2.1 (f.2.2.star _) (f'.2.2.star _) (f''.2.2.star _) fun env=> (f.2.2.star _ env).trans (congrArg _ ((f'.2.2.star _ env).trans (congrArg _ (f''.2.2.one env)))),fun V V=> rfl⟩
  | _=> none
 else none
def cI (e:Expr):Option (RI (g:=g) (nm:=nm) (k:=k) sc e):=((c.1 sc e).map fun f=> ⟨(false,fIt f.1.1),SI.val f.2.1,f.2.2.fold⟩).or
 (zlv (P:=RI sc) e fun f es kws pos=> zar (P:=fun f=> RI sc (.Call f es kws pos)) f fun n p=> lo0 (P:=fun kws=> RI sc (.Call (.Name n p) es kws pos)) kws ((chk (sc.names.lookup n=some .globalImplicit)).bind fun hn=> cB t c sc n p pos es hn.down))
abbrev RM (e:Expr):=(f:zai)×' SI g nm k sc true e f∧∀ env x,foldedSetIterable e env x=pure x
def cM (e:Expr):Option (RM (g:=g) (nm:=nm) (k:=k) sc e):=zlv (P:=RM sc) e fun f es kws pos=> z1p (P:=fun f=> RM sc (.Call f es kws pos)) f fun oe n p=> lo0 (P:=fun es=> RM sc (.Call (.Attribute oe n p) es kws pos)) es <| lo0 (P:=fun kws=> RM sc (.Call (.Attribute oe n p) [] kws pos)) kws <|
 (chk (n="items")).bind fun h=> (c.1 sc oe).bind fun f=> (mfC oe).bind fun m=> (chk ((p.endLine==pos.line && decide (([]:List Expr).length < 30))=true)).bind fun h2=> some ⟨zb8 f.1.1,by obtain rfl:=h.down;exact SI.items (zhf m.down h2.down fun V=> rfl) f.2.1,fun V V=> rfl⟩
def cR (es:List Expr):Option ((f:q7)×' zb2 g nm k sc es f):=match es with
 | []=> some ⟨qj,zb2.nil⟩
 | [e]=> (c.2.1 sc e).bind fun f=> some ⟨f.1,zb2.one f.2⟩
 | _=> none
abbrev RZ (u e:Expr):=(f:Den)×' ∃ z:Prop,(z→∀ A cenv,ES cenv sc→zso g A u cenv)∧zmj z g nm k sc e f
def cZ (u e:Expr):Option (RZ (g:=g) (nm:=nm) (k:=k) sc u e):=((c.1 sc e).map fun f=> ⟨f.1.1,False,nofun,Snd.z f.2.1⟩).or
 (zlv (P:=RZ sc u) e fun f es kws pos=> z1p (P:=fun f=> RZ sc u (.Call f es kws pos)) f fun oe n p=> lo2 (P:=fun es=> RZ sc u (.Call (.Attribute oe n p) es kws pos)) es fun a b=> lo0 (P:=fun kws=> RZ sc u (.Call (.Attribute oe n p) [a,b] kws pos)) kws <|
  zf7 (P:=fun a=> RZ sc u (.Call (.Attribute oe n p) [a,b] [] pos)) a fun v x1 p1=> zf7 (P:=fun b=> RZ sc u (.Call (.Attribute oe n p) [.Constant v x1 p1,b] [] pos)) b fun v2 x2 p2=> match v,v2 with
   | .str y,.str w=> zar (P:=fun u=> RZ sc u (.Call (.Attribute oe n p) [.Constant (.str y) x1 p1,.Constant (.str w) x2 p2] [] pos)) u fun m q=> (c.1 sc oe).bind fun f=> (chk (n="replace")).bind fun h=> (chk (sc.names.lookup m=some .local)).bind fun h2=> (mfC oe).bind fun o=> (chk ((p.endLine==pos.line && decide ((2:Nat) < 30))=true)).bind fun h3=>
    some ⟨Jp f.1.1 y.cps.toList w.cps.toList,True,fun V=> zuf h2.down,by obtain rfl:=h.down;exact zmj.replace trivial (zhf o.down h3.down fun V=> rfl) f.2.1 (zqs y) (zqs w)⟩
   | _,_=> none)
noncomputable def zc6 (scope:Scope):List Nat:=
 let l:=(scope.names.filter fun x=> x.2== .free).map fun x=> t.ix x.1
 (t.vt.find? fun v=> v.length==l.length && l.all v.contains).getD l
abbrev RP (elt:Expr) (gs:List Comprehension) (scope:Scope) (pos:Pos):=(f:Den)×' Snd g nm k sc (.ListComp elt gs scope pos) f∧SU g nm k sc (.ListComp elt gs scope pos) f
def cP (elt:Expr) (gs:List Comprehension) (scope:Scope) (pos:Pos):Option (RP (g:=g) (nm:=nm) (k:=k) sc elt gs scope pos):=match gs with
 | [⟨u,it,ifs,0⟩]=> (cI t c sc it).bind fun i=> (cG t (j4 scope sc) 3 u).bind fun T=> (cR c (j4 scope sc) ifs).bind fun C=> (cZ c (j4 scope sc) u elt).bind fun f=>
  (chk ((T.1.2.2.2 && i.1.1)=false)).bind fun h0=> (chk (zdw sc scope nm (zc6 t scope) (T.1.1 ++ [])=true)).bind fun h1=> (chk (∀ i∈T.1.2.2.1,i∉zc6 t scope)).bind fun h2=> some ⟨qa (zc6 t scope) T.1.2.1 i.1.2 C.1 f.1,by
   obtain ⟨z,hz,El⟩:=f.2
   exact ⟨Snd.compG (CompOk.of h1.down) i.2.1 T.2.1 (T.2.2.1 _ h2.down) (zoj (fun h=> (T.2.2.2.2.1 h).1) T.2.2.2.2.2 h0.down) C.2 hz El i.2.2,SU.compG (CompOk.of h1.down) i.2.1 T.2.1 (T.2.2.1 _ h2.down) (zoj (fun h=> (T.2.2.2.2.1 h).1) T.2.2.2.2.2 h0.down) C.2 hz El i.2.2⟩⟩
 | [⟨u,it,ifs,0⟩,⟨u2,it2,ifs2,0⟩]=> zar (P:=fun u=> RP sc elt [⟨u,it,ifs,0⟩,⟨u2,it2,ifs2,0⟩] scope pos) u fun n p=> zar (P:=fun u2=> RP sc elt [⟨.Name n p,it,ifs,0⟩,⟨u2,it2,ifs2,0⟩] scope pos) u2 fun n2 p2=>
  (cI t c sc it).bind fun i=> (cV t (j4 scope sc) n p).bind fun T=> (cR c (j4 scope sc) ifs).bind fun C=> (cI t c (j4 scope sc) it2).bind fun i2=> (cV t (j4 scope sc) n2 p2).bind fun T2=> (cR c (j4 scope sc) ifs2).bind fun C2=> (c.1 (j4 scope sc) elt).bind fun f=>
  (chk (i.1.1=false∧i2.1.1=false)).bind fun h0=> (chk (zdw sc scope nm (zc6 t scope) ([n] ++ [n2])=true)).bind fun h1=> (chk (t.ix n∉zc6 t scope∧t.ix n2∉zc6 t scope∧t.ix n≠t.ix n2)).bind fun h2=> some ⟨Q9 (zc6 t scope) (tNm (t.ix n)) i.1.2 C.1 (tNm (t.ix n2)) i2.1.2 C2.1 f.1.1,by
   have a1:=zb0.nm h2.down.1
   have G:=z5u h2.down.2.1 h2.down.2.2
   exact ⟨Snd.comp2 (CompOk.of h1.down) i.2.1 T.down a1 (.inr ⟨⟨n,p,rfl⟩,h0.down.1⟩) C.2 i2.2.1 T2.down (.inr ⟨⟨n2,p2,rfl⟩,h0.down.2⟩) C2.2 G f.2.1 i.2.2 i2.2.2,SU.comp2 (CompOk.of h1.down) i.2.1 T.down a1 (.inr ⟨⟨n,p,rfl⟩,h0.down.1⟩) C.2 i2.2.1 T2.down (.inr ⟨⟨n2,p2,rfl⟩,h0.down.2⟩) C2.2 G f.2.1 i.2.2 i2.2.2⟩⟩
 | _=> none
def cD (kx vx:Expr) (gs:List Comprehension) (scope:Scope) (pos:Pos):Option ((f:Den)×' Snd g nm k sc (.DictComp kx vx gs scope pos) f):=match gs with
 | [⟨u,it,ifs,0⟩]=> (cI t c sc it).bind fun i=> (cG t (j4 scope sc) 3 u).bind fun T=> (cR c (j4 scope sc) ifs).bind fun C=> (c.1 (j4 scope sc) kx).bind fun f=> (c.1 (j4 scope sc) vx).bind fun f'=>
  (chk ((T.1.2.2.2 && i.1.1)=false)).bind fun h0=> (chk (zdw sc scope nm (zc6 t scope) (T.1.1 ++ [])=true)).bind fun h1=> (chk (∀ i∈T.1.2.2.1,i∉zc6 t scope)).bind fun h2=>
   some ⟨zk6 (zc6 t scope) T.1.2.1 i.1.2 C.1 f.1.1 f'.1.1,Snd.dictcomp (CompOk.of h1.down) i.2.1 T.2.1 (T.2.2.1 _ h2.down) (zoj (fun h=> (T.2.2.2.2.1 h).1) T.2.2.2.2.2 h0.down) C.2 f.2.1 f'.2.1 i.2.2⟩
 | _=> none
abbrev RD (e:Expr):=(f:Den)×' Snd g nm k sc e f
def z5i (f:Expr) (es:List Expr) (kws:List Keyword) (pos:Pos):Option (RD (g:=g) (nm:=nm) (k:=k) sc (.Call f es kws pos)):=
 dsp (P:=fun f=> RD sc (.Call f es kws pos)) f
  (name:=fun n p=> lo0 (P:=fun kws=> RD sc (.Call (.Name n p) es kws pos)) kws <| (lk (·.1.1) n t.calls).bind fun x=> (cL c sc es).bind fun l=> (chk (sc.names.lookup n=some .globalImplicit)).bind fun hn=> some ⟨x.1.1.2 l.1,by obtain ⟨x,rfl⟩:=x;exact x.2 hn.down l.2.1 l.2.2⟩)
  (att:=fun oe n p=> (c.1 sc oe).bind fun f=> (mfC oe).bind fun m=> (chk ((p.endLine==pos.line && decide (es.length < 30))=true)).bind fun h=> match kws with
   | []=> (lk (·.1.1) n t.meths).bind fun x=> (cL c sc es).bind fun l=> some ⟨x.1.1.2 f.1.1 l.1,by obtain ⟨x,rfl⟩:=x;exact x.2 (zhf m.down h.down l.2.2) f.2.1 l.2.1 l.2.2⟩
   | [⟨some kn,v,p2⟩]=> (lk (·.1.1) n t.kws).bind fun x=> lo1 (P:=fun es=> RD sc (.Call (.Attribute oe n p) es [⟨some kn,v,p2⟩] pos)) es fun e=> (c.1 sc e).bind fun f'=> zf7 (P:=fun v=> RD sc (.Call (.Attribute oe n p) [e] [⟨some kn,v,p2⟩] pos)) v fun v x1 p1=> match v with
    | .bool b=> (chk (x.1.1.2.1=kn)).bind fun hk=> (chk ((p.endLine==pos.line)=true)).bind fun h=> some ⟨x.1.1.2.2 b f.1.1 f'.1.1,by obtain ⟨x,rfl⟩:=x;obtain rfl:=hk.down;exact x.2 (z3u m.down h.down f'.2.2.one) f.2.1 f'.2.1 f'.2.2.one⟩
    | _=> none
   | _=> none)
end
end
section
abbrev RF (e:Expr):=(x:Bool×Bool×Bool)×' Fx e x.1 x.2.1 x.2.2
def fx (e:Expr):Option (RF e):=dsp (P:=RF) e
 (const:=fun V V V=> some ⟨(true,true,true),fun V V=> rfl,fun V V=> rfl,fun V V=> ⟨_,rfl⟩,fun V V V=> rfl,fun V V V V=> rfl,fun V V V V V=> rfl⟩)
 (name:=fun V V=> some ⟨(true,true,true),fun V V=> rfl,fun V V=> rfl,fun V V=> ⟨_,rfl⟩,fun V V V=> rfl,fun V V V V=> rfl,fun V V V V V=> rfl⟩)
 (bin:=fun V V V V=> some ⟨(true,true,true),fun V V=> rfl,fun V V=> rfl,fun V V=> ⟨_,rfl⟩,fun V V V=> rfl,fun V V V V=> rfl,fun V V V V V=> rfl⟩)
 (un:=fun V V V=> some ⟨(false,true,true),fun V V=> rfl,fun V V=> rfl,fun V V=> ⟨_,rfl⟩,nofun,fun V V V V=> rfl,fun V V V V V=> rfl⟩)
 (cmp:=fun V V V V=> some ⟨(false,true,true),fun V V=> rfl,fun V V=> rfl,fun V V=> ⟨_,rfl⟩,nofun,fun V V V V=> rfl,fun V V V V V=> rfl⟩)
 (ife:=fun V V V V=> some ⟨(false,true,true),fun V V=> rfl,fun V V=> rfl,fun V V=> ⟨_,rfl⟩,nofun,fun V V V V=> rfl,fun V V V V V=> rfl⟩)
 (tup:=fun V V V=> some ⟨(true,true,false),fun V V=> rfl,fun V V=> rfl,fun V V=> ⟨_,rfl⟩,fun V V V=> rfl,fun V V V V=> rfl,nofun⟩)
 (lst:=fun V V=> some ⟨(true,true,true),fun V V=> rfl,fun V V=> rfl,fun V V=> ⟨_,rfl⟩,fun V V V=> rfl,fun V V V V=> rfl,fun V V V V V=> rfl⟩)
 (sub:=fun V V V=> some ⟨(true,true,true),fun V V=> rfl,fun V V=> rfl,fun V V=> ⟨_,rfl⟩,fun V V V=> rfl,fun V V V V=> rfl,fun V V V V V=> rfl⟩)
 (att:=fun V V V=> some ⟨(true,true,true),fun V V=> rfl,fun V V=> rfl,fun V V=> ⟨_,rfl⟩,fun V V V=> rfl,fun V V V V=> rfl,fun V V V V V=> rfl⟩)
 (call:=fun V V V V=> some ⟨(true,true,true),fun V V=> rfl,fun V V=> rfl,fun V V=> ⟨_,rfl⟩,fun V V V=> rfl,fun V V V V=> rfl,fun V V V V V=> rfl⟩)
 (lc:=fun V V V V=> some ⟨(true,false,true),fun V V=> rfl,fun V V=> rfl,fun V V=> ⟨_,rfl⟩,fun V V V=> rfl,nofun,fun V V V V V=> rfl⟩)
 (dc:=fun V V V V V=> some ⟨(true,false,true),fun V V=> rfl,fun V V=> rfl,fun V V=> ⟨_,rfl⟩,fun V V V=> rfl,nofun,fun V V V V V=> rfl⟩)
section
variable {g:GC}{nm:Nat→Str}{k:Nat} (t:Tbl g nm k) (c:Cc g nm k) (sc:Scope)
def stD (e:Expr):Option (RD (g:=g) (nm:=nm) (k:=k) sc e):=dsp (P:=RD sc) e (const:=cC sc) (name:=cN t sc)
 (bin:=fun l o r pos=> (z6v o).bind fun b=> (c.1 sc l).bind fun f=> (c.1 sc r).bind fun f'=> some ⟨d2 b.1 f.1.1 f'.1.1,Snd.bin b.2 f.2.1 f'.2.1⟩)
 (un:=fun o x pos=> match o with
  | .USub=> (c.1 sc x).bind fun f=> some ⟨d1 Q6 f.1.1,Snd.neg f.2.1⟩
  | _=> none)
 (cmp:=fun l os rs pos=> lo1 (P:=fun os=> RD sc (.Compare l os rs pos)) os fun o=> lo1 (P:=fun rs=> RD sc (.Compare l [o] rs pos)) rs fun r=> (z5k o).bind fun b=> (c.1 sc l).bind fun f=> (c.1 sc r).bind fun f'=> (chk (behindInMarks o r=false)).bind fun h=> some ⟨d2 b.1 f.1.1 f'.1.1,Snd.cmp b.2 f.2.1 f'.2.1 h.down⟩)
 (ife:=fun a b d pos=> (c.2.1 sc a).bind fun f=> (c.1 sc b).bind fun f'=> (c.1 sc d).bind fun f''=> some ⟨dIf f.1 f'.1.1 f''.1.1,Snd.ifexp f.2 f'.2.1 f''.2.1⟩)
 (tup:=fun es x pos=> (cL c sc es).bind fun l=> some ⟨qy l.1,Snd.tup l.2.1⟩)
 (lst:=fun es pos=> (cL c sc es).bind fun l=> some ⟨zpd l.1,Snd.lst l.2.1⟩)
 (sub:=fun v s pos=> (c.1 sc v).bind fun f=> ((c.1 sc s).map fun f'=> ⟨d2 zn f.1.1 f'.1.1,Snd.item f.2.1 f'.2.1 f'.2.2.sub⟩).or
  (dsp (P:=fun s=> RD sc (.Subscript v s pos)) s (sl:=fun lo hi st p=> (cO c sc lo).bind fun a=> (cO c sc hi).bind fun b=> (cO c sc st).bind fun d=> some ⟨qg f.1.1 a.1 b.1 d.1,Snd.slice f.2.1 a.2 b.2 d.2⟩)))
 (att:=fun o a pos=> zar (P:=fun o=> RD sc (.Attribute o a pos)) o fun n p=> (c.1 sc (.Name n p)).bind fun f=>
  if h:a="_headers" then some ⟨zaa f.1.1,by obtain rfl:=h;exact Snd.attr t.hk f.2.1⟩ else (chk (a="append")).bind fun h=> some ⟨zda f.1.1,by obtain rfl:=h.down;exact Snd.bound f.2.1⟩)
 (call:=z5i t c sc) (lc:=fun el gs s p=> (cP t c sc el gs s p).map fun f=> ⟨f.1,f.2.1⟩) (dc:=cD t c sc)
def stE (e:Expr):Option (RE g nm k sc e):=(stD t c sc e).bind fun f=> (fx e).map fun h=> ⟨(f.1,h.1),f.2,h.2⟩
def cTy (l r:Expr) (o:CmpOp) (pos:Pos):Option (RT g nm k sc (.Compare l [o] [r] pos)):=zlv (P:=fun l=> RT g nm k sc (.Compare l [o] [r] pos)) l fun f es kws p=> zar (P:=fun f=> RT g nm k sc (.Compare (.Call f es kws p) [o] [r] pos)) f fun m p0=>
 lo1 (P:=fun es=> RT g nm k sc (.Compare (.Call (.Name m p0) es kws p) [o] [r] pos)) es fun e=> lo0 (P:=fun kws=> RT g nm k sc (.Compare (.Call (.Name m p0) [e] kws p) [o] [r] pos)) kws <| zar (P:=fun r=> RT g nm k sc (.Compare (.Call (.Name m p0) [e] [] p) [o] [r] pos)) r fun n p1=>
 (chk (m="type")).bind fun hm=> (lk (·.1.1) n t.types).bind fun x=> (c.1 sc e).bind fun f=> (chk (sc.names.lookup ("type":Str)=some .globalImplicit∧sc.names.lookup n=some .globalImplicit∧(n==("__debug__":Str))=false)).bind fun h=> match o with
  | .Is=> some ⟨fun U W=> (zbr x.1.1.2 f.1.1 U W).map fun b=> b !=false,by obtain ⟨x,rfl⟩:=x;obtain rfl:=hm.down;exact zkg h.down.1 t.hT h.down.2.1 x.2 h.down.2.2 f.2.1 f.2.2.one rfl zzr⟩
  | .IsNot=> some ⟨fun U W=> (zbr x.1.1.2 f.1.1 U W).map fun b=> b !=true,by obtain ⟨x,rfl⟩:=x;obtain rfl:=hm.down;exact zkg h.down.1 t.hT h.down.2.1 x.2 h.down.2.2 f.2.1 f.2.2.one rfl zpz⟩
  | _=> none
def stT (e:Expr):Option (RT g nm k sc e):=(dsp (P:=RT g nm k sc) e
 (un:=fun o x pos=> match o with
  | .Not=> (c.2.1 sc x).bind fun f=> some ⟨ze2 f.1,ST.not f.2⟩
  | _=> none)
 (bo:=fun o xs pos=> match o with
  | .And=> (z5h c sc xs).bind fun f=> some ⟨f.1,ST.bool f.2⟩
  | .Or=> (cOr c sc xs).bind fun f=> some ⟨f.1,ST.bool f.2⟩)
 (cmp:=fun l os rs pos=> lo1 (P:=fun os=> RT g nm k sc (.Compare l os rs pos)) os fun o=> lo1 (P:=fun rs=> RT g nm k sc (.Compare l [o] rs pos)) rs fun r=>
  ((z5k o).bind fun b=> (c.1 sc l).bind fun f=> (c.1 sc r).bind fun f'=> (chk (behindInMarks o r=false)).bind fun h=> some ⟨tOf (d2 b.1 f.1.1 f'.1.1),ST.cmp b.2 f.2.1 f'.2.1 h.down⟩).or (cTy t c sc l r o pos))).or
 ((c.1 sc e).bind fun f=> (chk (f.1.2.1=true)).bind fun h=> some ⟨tOf f.1.1,ST.of f.2.1 (f.2.2.tst h.down)⟩)
abbrev RX (e:Expr):=(f:zcu)×' SE g nm k sc e f
def cX0 (e:Expr):Option (RX (g:=g) (nm:=nm) (k:=k) sc e):=dsp (P:=RX sc) e (lst:=fun es pos=> lo0 (P:=fun es=> RX sc (.List es pos)) es (some ⟨zpg,SE.new⟩))
 (call:=fun f es kws pos=> lo0 (P:=fun kws=> RX sc (.Call f es kws pos)) kws <| dsp (P:=fun f=> RX sc (.Call f es [] pos)) f
  (name:=fun n p=> match es with
   | []=> t.hd.bind fun h=> (chk (n="Headers")).bind fun h1=> (chk (sc.names.lookup n=some .globalImplicit)).bind fun h2=> some ⟨zv0,by obtain rfl:=h1.down;exact SE.headers h2.down h.down.2.1 h.down.2.2 rfl h.down.1⟩
   | [e]=> (chk (n="append")).bind fun V=> (c.1 sc (.Name n p)).bind fun f=> (c.1 sc e).bind fun f'=> some ⟨zby f.1.1 f'.1.1,SE.app f.2.1 f'.2.1 f'.2.2.one⟩
   | _=> none)
  (att:=fun oe n p=> (c.1 sc oe).bind fun f=> (mfC oe).bind fun m=> (chk ((p.endLine==pos.line && decide (es.length < 30))=true)).bind fun h=> ((lk (·.1.1) n t.ems).bind fun x=> (cL c sc es).bind fun l=> some ⟨x.1.1.2 f.1.1 l.1,by obtain ⟨x,rfl⟩:=x;exact x.2 (zhf m.down h.down l.2.2) f.2.1 l.2.1 l.2.2⟩).or
   (lo1 (P:=fun es=> RX sc (.Call (.Attribute oe n p) es [] pos)) es fun e=> (chk (n="append")).bind fun hn=> (c.1 sc e).bind fun f'=> (chk ((p.endLine==pos.line && decide ((1:Nat) < 30))=true)).bind fun h=> some ⟨Z2 f.1.1 f'.1.1,by obtain rfl:=hn.down;exact SE.append (zhf m.down h.down fun env=> by rw [f'.2.2.one];rfl) f.2.1 f'.2.1 f'.2.2.one⟩)))
def cXP (e:Expr):Option (RX (g:=g) (nm:=nm) (k:=k) sc e):=(cX0 t c sc e).or ((c.1 sc e).map fun f=> ⟨eOf f.1.1,SE.of f.2.1⟩)
def cX (e:Expr):Option (RX (g:=g) (nm:=nm) (k:=k) sc e):=(cX0 t c sc e).or <| dsp (P:=RX sc) e (ife:=fun a b d pos=>
 if (cX0 t c sc b).isSome || (cX0 t c sc d).isSome then (c.2.1 sc a).bind fun x=> (cXP t c sc b).bind fun f=> (cXP t c sc d).bind fun f'=> some ⟨eIf x.1 f.1 f'.1,SE.ifexp x.2 f.2 f'.2⟩ else none)
noncomputable def cS:∀ sts:List Stmt,(f:Stm)×' SS g nm k sc sts f
 | []=> ⟨zl,SS.nil⟩
 | s::r=> let a:=(c.2.2 sc s).getD ⟨Qz,SX.stuck⟩;⟨zb a.1 (cS r).1,SS.cons a.2 (cS r).2⟩
noncomputable def z36 (ns:List Str):Bool:=ns.all fun n=> sc.names.lookup n==some .local || sc.names.lookup n==some .cell
def cA1 (u v:Expr) (pos:Pos):Option (RS g nm k sc (.Assign [u] v pos)):=(cG t sc 3 u).bind fun T=> (fx v).bind fun h=> (chk (z36 sc T.1.1=true)).bind fun ho=> (chk (h.1.2.1=true)).bind fun hs=> (chk ((h.1.2.2 || T.1.2.2.2)=true)).bind fun hd=>
 have a1:∀ env,env.scope=sc→swappedStores [u] v env=pure none:=fun env V=> by
  cases hb:T.1.2.2.2 with
  | true=> exact (T.2.2.2.2.1 hb).2 v env
  | false=> obtain ⟨es,y,p,rfl⟩:=T.2.2.2.2.2 hb;exact h.2.sst (by have:=hd.down;rw [hb,Bool.or_false] at this;exact this) es y p env
 have a2:∀ env,(assignEach [u] env).map (·.2)=[assign u env]:=fun env=> by rw [T.2.2.2.1];rfl
 ((cX t c sc v).map fun f=> ⟨Qp T.1.2.1 f.1,SX.asgE f.2 T.2.1 (zcp ho.down) (fun env V=> h.2.swp hs.down _ _ env) a1 a2⟩).or
 ((c.1 sc v).map fun f=> ⟨zc T.1.2.1 f.1.1,SX.asg f.2.1 T.2.1 (zcp ho.down) (fun env V=> h.2.swp hs.down _ _ env) a1 a2⟩)
def cA2 (u v:Expr) (pos:Pos):Option (RS g nm k sc (.Assign [u] v pos)):=zar (P:=fun u=> RS g nm k sc (.Assign [u] v pos)) u fun n p=> (cV t sc n p).bind fun T=> (chk (z36 sc [n]=true)).bind fun ho=> dsp (P:=fun v=> RS g nm k sc (.Assign [.Name n p] v pos)) v
 (lc:=fun el gs sp q=> (cP t c sc el gs sp q).bind fun f=>
  if h2:sc.names.lookup n=some .cell then some ⟨zc (tNm (t.ix n)) f.1,SX.asg f.2.1 T.down (zcp ho.down) (zof (sp:=sp) (fun V=> rfl) h2) (fun V V=> rfl) (fun V=> rfl)⟩
  else (chk (nm (t.ix n)=n)).bind fun h1=> (chk (sc.names.lookup n=some .local)).bind fun h2=> (chk ((sc.kind== .function)=true)).bind fun h3=> (chk ((p.line==q.line && !(sp.names.any fun (m,k)=> m==n && (k== .local || k== .cell)))=true)).bind fun h4=> some ⟨zc (tNm (t.ix n)) f.1,SX.asgU t.inj h1.down f.2.2 h2.down (z04 (sp:=sp) (fun V=> rfl) h3.down h2.down h4.down)⟩)
 (dc:=fun a b gs sp q=> (cD t c sc a b gs sp q).bind fun f=> (chk (sc.names.lookup n=some .cell)).bind fun h2=> some ⟨zc (tNm (t.ix n)) f.1,SX.asg f.2 T.down (zcp ho.down) (zof (sp:=sp) (fun V=> rfl) h2.down) (fun V V=> rfl) (fun V=> rfl)⟩)
def z6w (u it:Expr) (body:List Stmt) (pos:Pos) (frz:Bool):Option (RS g nm k sc (.For u it body [] pos)):=(cG t sc 3 u).bind fun T=> (chk (z36 sc T.1.1=true)).bind fun ho=>
 ((cI t c sc it).bind fun i=> (chk ((T.1.2.2.2 && i.1.1)=false)).bind fun h0=> some ⟨Q8 frz T.1.2.1 i.1.2 (cS c sc body).1,SX.for_ i.2.1 T.2.1 (zcp ho.down) (zoj (fun h=> (T.2.2.2.2.1 h).1) T.2.2.2.2.2 h0.down) (cS c sc body).2 i.2.2⟩).or
 ((cM c sc it).bind fun i=> (chk ((T.1.2.2.2 && true)=false)).bind fun h0=> some ⟨Q8 frz T.1.2.1 i.1 Qz,SX.for_ i.2.1 T.2.1 (zcp ho.down) (zoj (fun h=> (T.2.2.2.2.1 h).1) T.2.2.2.2.2 h0.down) SS.stuck i.2.2⟩)
def z5s (e:Expr):Option PUnit:=dsp (P:=fun V=> PUnit) e (att:=fun V V V=> some ⟨⟩) (name:=fun n V=> if n="headers" then some ⟨⟩ else none)
def stS (s:Stmt):Option (RS g nm k sc s):=match s with
 | .Assign us v pos=> lo1 (P:=fun us=> RS g nm k sc (.Assign us v pos)) us fun u=> (cA1 t c sc u v pos).or (cA2 t c sc u v pos)
 | .AugAssign u o v pos=> zar (P:=fun u=> RS g nm k sc (.AugAssign u o v pos)) u fun n p=> match o with
  | .Add=> (c.1 sc v).bind fun f=> (chk (nm (t.ix n)=n)).bind fun h1=> (chk ((n==("__classdict__":Str))=false)).bind fun h2=> (chk ((sc.names.lookup n==some .local || sc.names.lookup n==some .cell)=true)).bind fun h3=> some ⟨j9 q6 (t.ix n) f.1.1,SX.aug z0c t.inj h1.down h2.down (z37 h3.down) f.2.1⟩
  | _=> none
 | .If a b d pos=> (c.2.1 sc a).bind fun f=> some ⟨sIf f.1 (cS c sc b).1 (cS c sc d).1,SX.ite_ f.2 (cS c sc b).2 (cS c sc d).2⟩
 | .Return o pos=> match o with
  | some e=> (c.1 sc e).bind fun f=> some ⟨j8 f.1.1,SX.ret f.2.1⟩
  | none=> none
 | .For u it body els pos=> lo0 (P:=fun els=> RS g nm k sc (.For u it body els pos)) els (z6w t c sc u it body pos (z5s it).isSome)
 | .While a body els pos=> lo0 (P:=fun els=> RS g nm k sc (.While a body els pos)) els ((c.2.1 sc a).bind fun f=> some ⟨zbo 60 f.1 (cS c sc body).1,SX.whl f.2 (cS c sc body).2⟩)
 | .Expr e pos=> (cX t c sc e).bind fun f=> (fx e).bind fun h=> (chk (h.1.2.1=true)).bind fun hs=> (chk ((sc.kind== .module)=false)).bind fun hk=> some ⟨ju f.1,SX.expr f.2 (fun env he=> by unfold interactive;rw [he,hk.down];rfl) fun env V=> h.2.swp hs.down _ _ env⟩
 | .Continue pos=> some ⟨zef,SX.cont⟩
 | _=> none
end
noncomputable def Cc.of {g:GC}{nm:Nat→Str}{k:Nat} (t:Tbl g nm k):Nat→Cc g nm k
 | 0=> (fun V V=> none,fun V V=> none,fun V V=> none)
 | n + 1=> (stE t (Cc.of t n),stT t (Cc.of t n),stS t (Cc.of t n))
theorem Cc.go {g:GC}{nm:Nat→Str}{k:Nat} (t:Tbl g nm k) {sc:Scope}{b:List Stmt}{f:Stm} (h:(cS (Cc.of t 60) sc b).1=f):SS g nm k sc b f:=h▸(cS (Cc.of t 60) sc b).2
theorem Cc.one {g:GC}{nm:Nat→Str}{k:Nat} (t:Tbl g nm k) {sc:Scope}{s:Stmt}{f:Stm} (h:((Cc.of t 60).2.2 sc s).map (·.1)=some f):SX g nm k sc s f:=by
 obtain ⟨x,_,e⟩:=xh.mp h
 exact e▸x.2
end
section
def gOf (x:Program×List Str×World×(Str→Option Value)×(Str→Option Value)):GC:=⟨Challenge.rw_wv0056_01.row.toRowW.prog,x.2.2.1,Mh.KF x.2.2.1.params,x.1,x.2.1,x.2.2.2.1,x.2.2.2.2,264⟩
noncomputable def nmL:List String:=["place","r","g","b","h","s","v","texts","data","c","body","maxlinelen","eol","encoded","self","value","name","default","_name","_value","_params","script","rise","fall","sixth","maxc","bc","gc","rc","rangec","minc","i","p","q","t","f","red","green","blue","quarters","text","encoded_body","append","line","start","room","soft_break","laststart","stop","maxlinelen1","decoded","n","regex","kv","k","parts","along","across","level","tilt","table","selves","part","shield","mark","read","page","width","cells","tails","rows","row","due","ties","x","number","comes","quiet","one","word","signal","first","pressed","lamp","sent","mail","near","hue","ways","turned","share","order","odd","y","base","size","net","tied","u","ends","pair","starts","headers"]
def nm (i:Nat):Str:=match nmL[i]? with | some s=> Str.ofString s | none=> ⟨Array.replicate (i + 100) 1⟩
theorem zdh:∀ i j,nm i=nm j→i=j:=by
 have h1:∀ i,i < nmL.length→∀ j,j < nmL.length→nm i=nm j→i=j:=by decide +kernel
 have h2:∀ i,i < nmL.length→(nm i).cps.size < 100:=by decide +kernel
 have h3:∀ i,nmL.length≤i→nm i=⟨Array.replicate (i + 100) 1⟩:=fun i h=> by
  unfold nm;rw [List.getElem?_eq_none h]
 intro i j e
 by_cases hi:i < nmL.length
 ·by_cases hj:j < nmL.length
  ·exact h1 i hi j hj e
  ·rw [h3 j (by omega)] at e
   have:=h2 i hi;rw [e] at this;simp at this;exact absurd this (by omega)
 ·by_cases hj:j < nmL.length
  ·rw [h3 i (by omega)] at e
   have:=h2 j hj;rw [←e] at this;simp at this;exact absurd this (by omega)
  ·rw [h3 i (by omega),h3 j (by omega)] at e
   have:=congrArg (fun s:Str=> s.cps.size) e
   simpa using this
section
variable {x:Program×List Str×World×(Str→Option Value)×(Str→Option Value)}
theorem z4w:IsGlob (gOf x) "len" (.builtin "len"):= .blt (by kernel_rfl) (by kernel_rfl) (by decide)
theorem z4u:IsGlob (gOf x) "chr" (.builtin "chr"):= .blt (by kernel_rfl) (by kernel_rfl) (by decide)
theorem z4z:IsGlob (gOf x) "ord" (.builtin "ord"):= .blt (by kernel_rfl) (by kernel_rfl) (by decide)
theorem zur:IsGlob (gOf x) "divmod" (.builtin "divmod"):= .blt (by kernel_rfl) (by kernel_rfl) (by decide)
theorem z40:IsGlob (gOf x) "sum" (.builtin "sum"):= .blt (by kernel_rfl) (by kernel_rfl) (by decide)
theorem z4t:IsGlob (gOf x) "all" (.builtin "all"):= .blt (by kernel_rfl) (by kernel_rfl) (by decide)
theorem z4x:IsGlob (gOf x) "max" (.builtin "max"):= .blt (by kernel_rfl) (by kernel_rfl) (by decide)
theorem z4y:IsGlob (gOf x) "min" (.builtin "min"):= .blt (by kernel_rfl) (by kernel_rfl) (by decide)
theorem zyl:IsGlob (gOf x) "tuple" (.type "tuple"):= .blt (by kernel_rfl) (by kernel_rfl) (by decide)
theorem z4v:IsGlob (gOf x) "int" (.type "int"):= .blt (by kernel_rfl) (by kernel_rfl) (by decide)
theorem z1b:IsGlob (gOf x) "str" (.type "str"):= .blt (by kernel_rfl) (by kernel_rfl) (by decide)
theorem z1y:IsGlob (gOf x) "list" (.type "list"):= .blt (by kernel_rfl) (by kernel_rfl) (by decide)
theorem z1z:IsGlob (gOf x) "type" (.type "type"):= .blt (by kernel_rfl) (by kernel_rfl) (by decide)
theorem zme:IsGlob (gOf x) "enumerate" (.type "enumerate"):= .blt (by kernel_rfl) (by kernel_rfl) (by decide)
theorem zyk:IsGlob (gOf x) "range" (.type "range"):= .blt (by kernel_rfl) (by kernel_rfl) (by decide)
theorem z41:IsGlob (gOf x) "zip" (.type "zip"):= .blt (by kernel_rfl) (by kernel_rfl) (by decide)
theorem zdp:IsGlob (gOf x) "_law_light" (.ref 275):= .glob (by kernel_rfl)
theorem zdq:IsGlob (gOf x) "rgb_to_hsv" (.ref 62):= .glob (by kernel_rfl)
theorem zkn:IsGlob (gOf x) "hsv_to_rgb" (.ref 69):= .glob (by kernel_rfl)
theorem zos:IsGlob (gOf x) "_law_hue" (.ref 282):= .glob (by kernel_rfl)
theorem zkk:IsGlob (gOf x) "_law_mixed" (.ref 287):= .glob (by kernel_rfl)
theorem zmf:IsGlob (gOf x) "quotedata" (.ref 55):= .glob (by kernel_rfl)
theorem ziz:IsGlob (gOf x) "unquote" (.ref 92):= .glob (by kernel_rfl)
theorem zq2:IsGlob (gOf x) "quote" (.ref 99):= .glob (by kernel_rfl)
theorem zib:IsGlob (gOf x) "body_encode" (.ref 112):= .glob (by kernel_rfl)
theorem zuq:IsGlob (gOf x) "decode" (.ref 120):= .glob (by kernel_rfl)
theorem z7y:IsGlob (gOf x) "law" (.ref 292):= .glob (by kernel_rfl)
theorem zsg:IsGlob (gOf x) "Headers" (.ref 264):= .glob (by kernel_rfl)
theorem zkl:IsGlob (gOf x) "_twin_re_1" (.ref 43):= .glob (by kernel_rfl)
theorem zkm:IsGlob (gOf x) "_twin_re_2" (.ref 48):= .glob (by kernel_rfl)
theorem zbx:IsGlob (gOf x) "_name_disallowed_re" (.ref 130):= .glob (by kernel_rfl)
theorem zbc:IsGlob (gOf x) "_value_disallowed_re" (.ref 135):= .glob (by kernel_rfl)
theorem PK1:PatK (gOf x) 43 C1:=⟨_,_,_,_,_,_,_,_,_,(by rfl),(by rfl),(by decide +kernel)⟩
theorem PK2:PatK (gOf x) 48 C2:=⟨_,_,_,_,_,_,_,_,_,(by rfl),(by rfl),(by decide +kernel)⟩
theorem PK3:PatK (gOf x) 130 C3:=⟨_,_,_,_,_,_,_,_,_,(by rfl),(by rfl),(by decide +kernel)⟩
theorem PK4:PatK (gOf x) 135 C4:=⟨_,_,_,_,_,_,_,_,_,(by rfl),(by rfl),(by decide +kernel)⟩
theorem zxg {k:Nat}:OpN (gOf x) k (.builtin "re.Pattern.sub") (zbl 43 48):=zty PK1 PK2
theorem zzn (W:Sto) (q:PV) (ps:List PV) (pv:PV) (e:zbl 43 48 W (q::ps)=some pv):∃ a C,q= .raw a∧PatK (gOf x) a C:=zth PK1 PK2 W q ps pv e
theorem znr {k:Nat}:OpN (gOf x) k (.builtin "re.Pattern.search") (zcq 130 135):=zqb PK3 PK4
theorem zpv (W:Sto) (q:PV) (ps:List PV) (pv:PV) (e:zcq 130 135 W (q::ps)=some pv):∃ a C,q= .raw a∧PatK (gOf x) a C:=zlk PK3 PK4 W q ps pv e
theorem HKx:HK (gOf x):=⟨by kernel_rfl,by kernel_rfl,by kernel_rfl,by kernel_rfl⟩
noncomputable def qk (n:Nat):Nat:=if n < 10 then 48 + n else 55 + n
def z5b:List (List Nat):=(List.range 256).map fun c=> [61,qk (c / 16),qk (c % 16)]
noncomputable def zgs (c:Nat):Bool:=c==9 || c==10 || c==13 || (32≤c && c < 127 && c !=61)
def ENC:List (List Nat):=(List.range 256).map fun c=> if zgs c then [c] else [61,qk (c / 16),qk (c % 16)]
noncomputable def zbt:Addr:=101
theorem z4s:IsGlob (gOf x) "_QUOPRI_BODY_ENCODE_MAP" (.ref zbt):= .glob (by kernel_rfl)
theorem z20:TabK (gOf x) zbt ENC:=⟨_,_,(by rfl),(by decide +kernel)⟩
theorem zfk:∃ v,IsGlob (gOf x) "CRLF_smtplib" v∧zaj (gOf x) v (.str [13,10]):=⟨_,.glob (by rfl),zaj.str (by kernel_rfl)⟩
theorem zc7:∃ v,IsGlob (gOf x) "CRLF_quoprimime" v∧zaj (gOf x) v (.str [13,10]):=⟨_,.glob (by rfl),zaj.str (by kernel_rfl)⟩
theorem zkj:∃ v,IsGlob (gOf x) "hexdigits" v∧zaj (gOf x) v (.str [48,49,50,51,52,53,54,55,56,57,97,98,99,100,101,102,65,66,67,68,69,70]):=⟨_,.glob (by rfl),zaj.str (by kernel_rfl)⟩
theorem zgh:∃ v,IsGlob (gOf x) "_QUOPRI_MAP" v∧zaj (gOf x) v (.lst (z5b.map .str)):=⟨.ref 72,.glob (by kernel_rfl),zaj.list (by rfl) (by decide +kernel)⟩
theorem zot:HMeth (gOf x) "get_all" 203:=⟨by kernel_rfl,by kernel_rfl,by kernel_rfl,fun V V V=> by kernel_rfl⟩
theorem z15:HMeth (gOf x) "get" 211:=⟨by kernel_rfl,by kernel_rfl,by kernel_rfl,fun V V V=> by kernel_rfl⟩
theorem zsh:HMeth (gOf x) "values" 221:=⟨by kernel_rfl,by kernel_rfl,by kernel_rfl,fun V V V=> by kernel_rfl⟩
theorem zus:HMeth (gOf x) "items" 228:=⟨by kernel_rfl,by kernel_rfl,by kernel_rfl,fun V V V=> by kernel_rfl⟩
theorem zic:HMeth (gOf x) "add_header" 261:=⟨by kernel_rfl,by kernel_rfl,by kernel_rfl,fun V V V=> by kernel_rfl⟩
theorem zko:HMeth (gOf x) "_convert_string_type" 165:=⟨by kernel_rfl,by kernel_rfl,by kernel_rfl,fun V V V=> by kernel_rfl⟩
noncomputable def z7t (s:Str):Nat:=s.cps.toList.foldl (fun a c=> (a * 31 + c) % 4099) 0
def z7s (s:Str):Nat:=[2009,114,103,98,104,115,118,1456,1760,99,249,3569,2234,3653,1336,338,230,674,3828,1203,2317,3278,199,3719,492,3570,3137,3292,3633,577,2750,105,112,113,116,102,2112,1298,1972,648,2820,649,2623,1654,2714,1750,3865,2392,3557,15,3936,110,2662,3435,107,2710,1215,2500,1391,2193,254,3135,2596,3840,3392,3994,2240,2652,1286,2896,2004,2441,1452,1975,120,372,713,407,3608,3225,3008,3103,479,2144,1412,3114,3715,1197,2300,3196,1820,2111,3297,121,3636,1514,2383,1960,117,2576,2315,2269,935].idxOf (z7t s)
def ceB {g:GC}{k:Nat}{n:Str}{f:Value}{op:Sto→List PV→Option PV} (ho:OpN g k f op) (G:IsGlob g n f) (K:KeepOk g f) (hd:(n==("__debug__":Str))=false):CE g nm k:=⟨(n,zf op),fun hn L hp=> Snd.call ho hn G K L hp hd⟩
def ceF {g:GC}{k:Nat}{n:Str}{a:Addr}{o:Obj}{fd:FuncData}{body:List Stmt}{ids:List Nat}{f:Stm}{bf:BF} (X:FnOk g nm k a o fd body ids f∧Jc g nm fd ids [] bf) (G:IsGlob g n (.ref a)) (K:keepIn g.K (.ref a)=true) (hd:(n==("__debug__":Str))=false):CE g nm (k + 1):=⟨(n,dFn bf ids f),fun hn L hp=> Snd.fn X.1 zdh X.2 hn G K L hp hd⟩
def meB {g:GC}{k:Nat}{n:Str}{id:String}{kd:PV→Bool}{op:Sto→List PV→Option PV} (M:zds g n id kd) (O:OpN g k (.builtin id) op) (hop:∀ W p ps pv,op W (p::ps)=some pv→kd (dr W p)=true):ME g nm k:=⟨(n,fun fo fs=> zf op (fo::fs)),fun hm ho L hp=> Snd.bm hm M O hop ho L hp⟩
def meR {g:GC}{k:Nat}{n:Str}{id:String}{op:Sto→List PV→Option PV} (ji:Slot "re.Pattern" n id) (ty:typeOf (.builtin id)=pure (.type "method_descriptor")) (O:OpN g k (.builtin id) op) (hop:∀ W p ps pv,op W (p::ps)=some pv→∃ a C,p= .raw a∧PatK g a C):ME g nm k:=⟨(n,fun fo fs=> zf op (fo::fs)),fun hm ho L hp=> Snd.pm hm ji ty O hop ho L hp⟩
def meF {g:GC}{k:Nat}{n:Str}{a:Addr}{o:Obj}{fd:FuncData}{body:List Stmt}{ids:List Nat}{f:Stm}{bf:BF} (H:HK g) (X:FnOk g nm k a o fd body ids f∧Jc g nm fd ids [] bf) (M:HMeth g n a):ME g nm (k + 1):=⟨(n,q5 bf ids f),fun hm ho L hp=> Snd.meth X.1 zdh X.2 hm H M ho L hp⟩
def xeF {g:GC}{k:Nat}{n:Str}{a:Addr}{o:Obj}{fd:FuncData}{body:List Stmt}{ids:List Nat}{f:Stm}{bf:BF} (H:HK g) (X:FnOk g nm k a o fd body ids f∧Jc g nm fd ids [] bf) (M:HMeth g n a):XE g nm (k + 1):=⟨(n,zcz bf ids f),fun hm ho L hp=> SE.meth X.1 zdh X.2 hm H M ho L hp⟩
def keF {g:GC}{k:Nat}{n kn:Str}{a:Addr}{o:Obj}{fd:FuncData}{body:List Stmt}{ids:List Nat}{f:Stm}{bf:Bool→BF} (H:HK g) (X:FnOk g nm k a o fd body ids f∧∀ b,Jc g nm fd ids [(kn,.bool b)] (bf b)) (M:HMeth g n a):KE g nm (k + 1):=⟨(n,kn,fun b fo f1=> q5 (bf b) ids f fo [f1]),fun {b _ _ _ _ _ _ _ _ _ _} hm ho h1 hs=> Snd.methKw X.1 zdh (X.2 b) hm H M ho h1 hs⟩
def zba {k:Nat} (cs:List (CE (gOf x) nm k)) (ms:List (ME (gOf x) nm k)) (ks:List (KE (gOf x) nm k)) (es:List (XE (gOf x) nm k)) (hd:Option (PLift (HMk (gOf x) k∧IsGlob (gOf x) "Headers" (.ref (GC.hd (gOf x)))∧keepIn (GC.K (gOf x)) (.ref (GC.hd (gOf x)))=true))):Tbl (gOf x) nm k where
 ix:=z7s
 inj:=zdh
 vt:=[[63,68,69],[74,73],[82,73],[82,83],[86,83]]
 calls:=cs ++ [ceB z0g z4w (.blt _) (by kernel_rfl),ceB z0e z4u (.blt _) (by kernel_rfl),ceB z0j z4z (.blt _) (by kernel_rfl),ceB zp9 zur (.blt _) (by kernel_rfl),ceB z0l z40 (.blt _) (by kernel_rfl),ceB z0d z4t (.blt _) (by kernel_rfl),ceB ztz zyl (.type _) (by kernel_rfl),ceB z0h z4x (.blt _) (by kernel_rfl),ceB z0i z4y (.blt _) (by kernel_rfl),ceB z0f z4v (.type _) (by kernel_rfl),ceB z0k z1b (.type _) (by kernel_rfl)]
 meths:=ms ++ [meB zyt zt0 zpu,meB zyq ztw zps,meB zys zhn zfp,meB zvd zqa zna,meB zoz zly zim,meB z2y zxf ztg,meB zyr ztx zpt,meB zkp zhm zfo,meB zyp ztv zpr,meR zhy zyf zxg zzn,meR zcc zom znr zpv,meB zmh (ziu z20) zin]
 kws:=ks
 ems:=es
 globs:=[⟨(_,.raw 43),_,zkl,zaj.raw⟩,⟨(_,.raw 48),_,zkm,zaj.raw⟩,⟨(_,.raw 130),_,zbx,zaj.raw⟩,⟨(_,.raw 135),_,zbc,zaj.raw⟩,⟨(_,.raw zbt),_,z4s,zaj.raw⟩,⟨(_,_),zfk⟩,⟨(_,_),zc7⟩,⟨(_,_),zkj⟩,⟨(_,_),zgh⟩]
 types:=[⟨(_,_),z1y⟩,⟨(_,_),z1b⟩]
 hE:=zme
 hR:=zyk
 hZ:=z41
 hT:=z1z
 hk:=HKx
 hd:=hd
noncomputable def ob (K:Frag) (a:Addr):Obj:=(K.lookup a).getD default
noncomputable def fdO (o:Obj):FuncData:=match o.data with | .func fd=> fd | _=> default
noncomputable def boO (fd:FuncData):List Stmt:=match fd.body with | .stmts b=> b | _=> []
abbrev Fo (x:Program×List Str×World×(Str→Option Value)×(Str→Option Value)) (k:Nat) (a:Addr) (ids:List Nat) (f:Stm):Prop:=FnOk (gOf x) nm k a (ob (gOf x).K a) (fdO (ob (gOf x).K a)) (boO (fdO (ob (gOf x).K a))) ids f
abbrev Bi (x:Program×List Str×World×(Str→Option Value)×(Str→Option Value)) (a:Addr) (ids:List Nat) (kw:List (Str×Value)) (bf:BF):Prop:=Jc (gOf x) nm (fdO (ob (gOf x).K a)) ids kw bf
end
end
section
section
variable {x:Program×List Str×World×(Str→Option Value)×(Str→Option Value)}
def J8:Stm:=(zb (zc (jn [(tNm 24),(tNm 22)]) (zf zr2 [(d2 j3 (dC (.int 6)) (d2 jt (za 0) (dC (.int 64)))),(dC (.int 64))]))
 (zb (zc (tNm 23) (d2 jb (dC (.int 64)) (za 22)))
 (zb (j8 (d2 zn (zpd [(qy [(dC (.int 64)),(za 22),(dC (.int 0))]),(qy [(za 23),(dC (.int 64)),(dC (.int 0))]),(qy [(dC (.int 0)),(dC (.int 64)),(za 22)]),(qy [(dC (.int 0)),(za 23),(dC (.int 64))]),(qy [(za 22),(dC (.int 0)),(dC (.int 64))]),(qy [(dC (.int 64)),(dC (.int 0)),(za 23)])]) (za 24)))
 zl)))
theorem zm6 {k:Nat}:Fo x k 275 [0] J8∧Bi x 275 [0] [] (bfN 1 []):=by
 refine ⟨⟨?_, ?_, ?_, ?_, ?_, ?_, ?_, ?_, ?_,fun h X=> ⟨_,_,_,_,rfl,X 274 _ (by rfl),rfl,rfl⟩, ?_, ?_,Cc.go (zba [] [] [] [] none) ?_⟩,zbe fun a=> ⟨_,fun s X=> BindsTo.of_eq (by rfl),rfl,rfl⟩⟩ <;> kernel_rfl
def zmd:Stm:=(zb (zc (tNm 25) (zf z6k [(za 1),(za 2),(za 3)]))
 (zb (zc (tNm 30) (zf z6l [(za 1),(za 2),(za 3)]))
 (zb (zc (tNm 29) (d2 jb (za 25) (za 30)))
 (zb (zc (tNm 6) (za 25))
 (zb (sIf (tOf (d2 zv (za 30) (za 25))) (zb (j8 (qy [(dC (.flt 0)),(dC (.flt 0)),(za 6)]))
 zl) zl)
 (zb (zc (tNm 5) (d2 zqd (za 29) (za 25)))
 (zb (zc (tNm 28) (d2 zqd (d2 jb (za 25) (za 1)) (za 29)))
 (zb (zc (tNm 27) (d2 zqd (d2 jb (za 25) (za 2)) (za 29)))
 (zb (zc (tNm 26) (d2 zqd (d2 jb (za 25) (za 3)) (za 29)))
 (zb (sIf (tOf (d2 zv (za 1) (za 25))) (zb (zc (tNm 4) (d2 jb (za 26) (za 27)))
 zl) (zb (sIf (tOf (d2 zv (za 2) (za 25))) (zb (zc (tNm 4) (d2 jb (d2 zx (dC (.flt 4611686018427387904)) (za 28)) (za 26)))
 zl) (zb (zc (tNm 4) (d2 jb (d2 zx (dC (.flt 4616189618054758400)) (za 27)) (za 28)))
 zl))
 zl))
 (zb (zc (tNm 4) (d2 jt (d2 zqd (za 4) (dC (.flt 4618441417868443648))) (dC (.flt 4607182418800017408))))
 (zb (j8 (qy [(za 4),(za 5),(za 6)]))
 zl))))))))))))
theorem zwf {k:Nat}:Fo x k 62 [1,2,3] zmd∧Bi x 62 [1,2,3] [] (bfN 3 []):=by
 refine ⟨⟨?_, ?_, ?_, ?_, ?_, ?_, ?_, ?_, ?_,fun h X=> ⟨_,_,_,_,rfl,X 61 _ (by rfl),rfl,rfl⟩, ?_, ?_,Cc.go (zba [] [] [] [] none) ?_⟩,zo6 fun a b c=> ⟨_,fun s X=> BindsTo.of_eq (by rfl),rfl,rfl⟩⟩ <;> kernel_rfl
end
end
section
section
variable {x:Program×List Str×World×(Str→Option Value)×(Str→Option Value)}
def zq1:Stm:=(zb (sIf (tOf (d2 zv (za 5) (dC (.flt 0)))) (zb (j8 (qy [(za 6),(za 6),(za 6)]))
 zl) zl)
 (zb (zc (tNm 31) (zf ziv [(d2 j3 (za 4) (dC (.flt 4618441417868443648)))]))
 (zb (zc (tNm 35) (d2 jb (d2 j3 (za 4) (dC (.flt 4618441417868443648))) (za 31)))
 (zb (zc (tNm 32) (d2 j3 (za 6) (d2 jb (dC (.flt 4607182418800017408)) (za 5))))
 (zb (zc (tNm 33) (d2 j3 (za 6) (d2 jb (dC (.flt 4607182418800017408)) (d2 j3 (za 5) (za 35)))))
 (zb (zc (tNm 34) (d2 j3 (za 6) (d2 jb (dC (.flt 4607182418800017408)) (d2 j3 (za 5) (d2 jb (dC (.flt 4607182418800017408)) (za 35))))))
 (zb (zc (tNm 31) (d2 jt (za 31) (dC (.int 6))))
 (zb (sIf (tOf (d2 zv (za 31) (dC (.int 0)))) (zb (j8 (qy [(za 6),(za 34),(za 32)]))
 zl) zl)
 (zb (sIf (tOf (d2 zv (za 31) (dC (.int 1)))) (zb (j8 (qy [(za 33),(za 6),(za 32)]))
 zl) zl)
 (zb (sIf (tOf (d2 zv (za 31) (dC (.int 2)))) (zb (j8 (qy [(za 32),(za 6),(za 34)]))
 zl) zl)
 (zb (sIf (tOf (d2 zv (za 31) (dC (.int 3)))) (zb (j8 (qy [(za 32),(za 33),(za 6)]))
 zl) zl)
 (zb (sIf (tOf (d2 zv (za 31) (dC (.int 4)))) (zb (j8 (qy [(za 34),(za 32),(za 6)]))
 zl) zl)
 (zb (sIf (tOf (d2 zv (za 31) (dC (.int 5)))) (zb (j8 (qy [(za 6),(za 32),(za 33)]))
 zl) zl)
 zl)))))))))))))
theorem z3g {k:Nat}:Fo x k 69 [4,5,6] zq1∧Bi x 69 [4,5,6] [] (bfN 3 []):=by
 refine ⟨⟨?_, ?_, ?_, ?_, ?_, ?_, ?_, ?_, ?_,fun h X=> ⟨_,_,_,_,rfl,X 68 _ (by rfl),rfl,rfl⟩, ?_, ?_,Cc.go (zba [] [] [] [] none) ?_⟩,zo6 fun a b c=> ⟨_,fun s X=> BindsTo.of_eq (by rfl),rfl,rfl⟩⟩ <;> kernel_rfl
def z1a:Stm:=(zb (zc (jn [(tNm 36),(tNm 37),(tNm 38)]) (dFn (bfN 1 []) [0] J8 [(za 0)]))
 (zb (j8 (d2 zn (dFn (bfN 3 []) [1,2,3] zmd [(za 36),(za 37),(za 38)]) (dC (.int 0))))
 zl))
theorem z3h {k:Nat}:Fo x (k + 1) 282 [0] z1a∧Bi x 282 [0] [] (bfN 1 []):=by
 have X_light:=zm6 (x:=x) (k:=k + 0)
 have X_rgb:=zwf (x:=x) (k:=k + 0)
 refine ⟨⟨?_, ?_, ?_, ?_, ?_, ?_, ?_, ?_, ?_,fun h X=> ⟨_,_,_,_,rfl,X 281 _ (by rfl),rfl,rfl⟩, ?_, ?_,Cc.go (zba [ceF X_light zdp (by kernel_rfl) (by kernel_rfl),ceF X_rgb zdq (by kernel_rfl) (by kernel_rfl)] [] [] [] none) ?_⟩,zbe fun a=> ⟨_,fun s X=> BindsTo.of_eq (by rfl),rfl,rfl⟩⟩ <;> kernel_rfl
def Je:Stm:=(zb (zc (tNm 39) (qa [] (tNm 40) (fIt (za 7)) qj (d2 zo (zf ziv [(zf Zs ((za 40)::[(dC (.str [97,98,99,100]))]))]) (dC (.int 16)))))
 (zb (j8 (qy [(d2 jb (zf Jv ((za 39)::[(dC (.int 0))])) (zf Jv ((za 39)::[(dC (.int 2))]))),(d2 jb (zf Jv ((za 39)::[(dC (.int 1))])) (zf Jv ((za 39)::[(dC (.int 3))])))]))
 zl))
theorem zwe {k:Nat}:Fo x k 287 [7] Je∧Bi x 287 [7] [] (bfN 1 []):=by
 refine ⟨⟨?_, ?_, ?_, ?_, ?_, ?_, ?_, ?_, ?_,fun h X=> ⟨_,_,_,_,rfl,X 286 _ (by rfl),rfl,rfl⟩, ?_, ?_,Cc.go (zba [] [] [] [] none) ?_⟩,zbe fun a=> ⟨_,fun s X=> BindsTo.of_eq (by rfl),rfl,rfl⟩⟩ <;> kernel_rfl
def jo:Stm:=(zb (j8 (zf (zbl 43 48) ((dC (.raw 43))::[(dC (.str [46,46])),(zf (zbl 43 48) ((dC (.raw 48))::[(dC (.str [13,10])),(za 8)]))])))
 zl)
theorem zlg {k:Nat}:Fo x k 55 [8] jo∧Bi x 55 [8] [] (bfN 1 []):=by
 refine ⟨⟨?_, ?_, ?_, ?_, ?_, ?_, ?_, ?_, ?_,fun h X=> ⟨_,_,_,_,rfl,X 54 _ (by rfl),rfl,rfl⟩, ?_, ?_,Cc.go (zba [] [] [] [] none) ?_⟩,zbe fun a=> ⟨_,fun s X=> BindsTo.of_eq (by rfl),rfl,rfl⟩⟩ <;> kernel_rfl
def Zt:Stm:=(zb (j8 (zf z38 [(zf ziv [(qg (za 5) (qv (dC (.int 1))) (qv (dC (.int 3))) qn),(dC (.int 16))])]))
 zl)
theorem zgx {k:Nat}:Fo x k 92 [5] Zt∧Bi x 92 [5] [] (bfN 1 []):=by
 refine ⟨⟨?_, ?_, ?_, ?_, ?_, ?_, ?_, ?_, ?_,fun h X=> ⟨_,_,_,_,rfl,X 91 _ (by rfl),rfl,rfl⟩, ?_, ?_,Cc.go (zba [] [] [] [] none) ?_⟩,zbe fun a=> ⟨_,fun s X=> BindsTo.of_eq (by rfl),rfl,rfl⟩⟩ <;> kernel_rfl
def Q0:Stm:=(zb (j8 (d2 zn (dC (.lst (z5b.map .str))) (zf z6m [(za 9)])))
 zl)
theorem zm7 {k:Nat}:Fo x k 99 [9] Q0∧Bi x 99 [9] [] (bfN 1 []):=by
 refine ⟨⟨?_, ?_, ?_, ?_, ?_, ?_, ?_, ?_, ?_,fun h X=> ⟨_,_,_,_,rfl,X 98 _ (by rfl),rfl,rfl⟩, ?_, ?_,Cc.go (zba [] [] [] [] none) ?_⟩,zbe fun a=> ⟨_,fun s X=> BindsTo.of_eq (by rfl),rfl,rfl⟩⟩ <;> kernel_rfl
end
end
section
section
variable {x:Program×List Str×World×(Str→Option Value)×(Str→Option Value)}
def Jj:Stm:=(zb (sIf (fun U W=> (zbr "str" (za 15) U W).map fun b=> b !=false) (zb (zc (tNm 52) (dIf (tOf (za 16)) (dC (.raw 130)) (dC (.raw 135))))
 (zb (sIf (tOf (zf (zcq 130 135) ((za 52)::[(za 15)]))) (zb Qz
 zl) zl)
 (zb (j8 (za 15))
 zl))) zl)
 (zb Qz
 zl))
theorem zle {k:Nat}:Fo x k 165 [14,15,16] Jj∧∀ b,Bi x 165 [14,15,16] [("name",.bool b)] (bfN 2 [.bool b]):=by
 refine ⟨⟨?_, ?_, ?_, ?_, ?_, ?_, ?_, ?_, ?_,fun h X=> ⟨_,_,_,_,rfl,X 164 _ (by rfl),rfl,rfl⟩, ?_, ?_,Cc.go (zba [] [] [] [] none) ?_⟩,fun b=> zq8 (fun V V=> Qw) fun a b=> ⟨_,fun s X=> BindsTo.of_eq (by rfl),rfl,rfl⟩⟩ <;> kernel_rfl
def zb1:Stm:=(zb (j8 (qa [] (jn [(tNm 54),(tNm 6)]) (fIt (zaa (za 14))) qj (za 6)))
 zl)
theorem zs4 {k:Nat}:Fo x k 221 [14] zb1∧Bi x 221 [14] [] (bfN 1 []):=by
 refine ⟨⟨?_, ?_, ?_, ?_, ?_, ?_, ?_, ?_, ?_,fun h X=> ⟨_,_,_,_,rfl,X 220 _ (by rfl),rfl,rfl⟩, ?_, ?_,Cc.go (zba [] [] [] [] none) ?_⟩,zbe fun a=> ⟨_,fun s X=> BindsTo.of_eq (by rfl),rfl,rfl⟩⟩ <;> kernel_rfl
def zfu:Stm:=(zb (j8 (qg (zaa (za 14)) qn qn qn))
 zl)
theorem zwd {k:Nat}:Fo x k 228 [14] zfu∧Bi x 228 [14] [] (bfN 1 []):=by
 refine ⟨⟨?_, ?_, ?_, ?_, ?_, ?_, ?_, ?_, ?_,fun h X=> ⟨_,_,_,_,rfl,X 227 _ (by rfl),rfl,rfl⟩, ?_, ?_,Cc.go (zba [] [] [] [] none) ?_⟩,zbe fun a=> ⟨_,fun s X=> BindsTo.of_eq (by rfl),rfl,rfl⟩⟩ <;> kernel_rfl
def jp:Stm:=(zb (zc (tNm 16) (q5 (bfN 2 [.bool true]) [14,15,16] Jj (za 14) [(zf Z7 ((za 16)::[]))]))
 (zb (j8 (qa [16] (tNm 53) (fIt (zaa (za 14))) (tOf (d2 zv (zf Z7 ((d2 zn (za 53) (dC (.int 0)))::[])) (za 16))) (d2 zn (za 53) (dC (.int 1)))))
 zl))
theorem zpn {k:Nat}:Fo x (k + 1) 203 [14,16] jp∧Bi x 203 [14,16] [] (bfN 2 []):=by
 have X_conv:=zle (x:=x) (k:=k + 0)
 refine ⟨⟨?_, ?_, ?_, ?_, ?_, ?_, ?_, ?_, ?_,fun h X=> ⟨_,_,_,_,rfl,X 202 _ (by rfl),rfl,rfl⟩, ?_, ?_,Cc.go (zba [] [] [keF HKx X_conv zko] [] none) ?_⟩,zvl fun a b=> ⟨_,fun s X=> BindsTo.of_eq (by rfl),rfl,rfl⟩⟩ <;> kernel_rfl
def zmc:Stm:=(zb (zc (tNm 16) (q5 (bfN 2 [.bool true]) [14,15,16] Jj (za 14) [(zf Z7 ((za 16)::[]))]))
 (zb (Q8 true (jn [(tNm 54),(tNm 6)]) (fIt (zaa (za 14))) (zb (sIf (tOf (d2 zv (zf Z7 ((za 54)::[])) (za 16))) (zb (j8 (za 6))
 zl) zl)
 zl))
 (zb (j8 (za 17))
 zl)))
theorem z3f {k:Nat}:Fo x (k + 1) 211 [14,16,17] zmc∧Bi x 211 [14,16,17] [] (bfN 2 [.none]):=by
 have X_conv:=zle (x:=x) (k:=k + 0)
 refine ⟨⟨?_, ?_, ?_, ?_, ?_, ?_, ?_, ?_, ?_,fun h X=> ⟨_,_,_,_,rfl,X 210 _ (by rfl),rfl,rfl⟩, ?_, ?_,Cc.go (zba [] [] [keF HKx X_conv zko] [] none) ?_⟩,zq8 (fun V V=> zff) fun a b=> ⟨_,fun s X=> BindsTo.of_defaults rfl (X 204 _ (by rfl)) rfl (by rfl) (by rfl),rfl,rfl⟩⟩ <;> kernel_rfl
def jd:Stm:=(zb (Qp (tNm 55) zpg)
 (zb (sIf (tOf (d2 Jw (za 19) (dC .none))) (zb (zc (tNm 19) (q5 (bfN 2 [.bool false]) [14,15,16] Jj (za 14) [(za 19)]))
 (zb (ju (Z2 (za 55) (za 19)))
 zl)) zl)
 (zb (Q8 false (jn [(tNm 54),(tNm 6)]) (zb8 (za 20)) Qz)
 (zb (ju (Z2 (zaa (za 14)) (qy [(q5 (bfN 2 [.bool true]) [14,15,16] Jj (za 14) [(za 18)]),(zf Qn ((dC (.str [59,32]))::[(za 55)]))])))
 zl))))
theorem zil {k:Nat}:Fo x (k + 1) 261 [14,18,19,20] jd∧Bi x 261 [14,18,19,20] [] (bfN 3 [.emp]):=by
 have X_conv:=zle (x:=x) (k:=k + 0)
 refine ⟨⟨?_, ?_, ?_, ?_, ?_, ?_, ?_, ?_, ?_,fun h X=> ⟨_,_,_,_,rfl,X 260 _ (by rfl),rfl,rfl⟩, ?_, ?_,Cc.go (zba [] [] [keF HKx X_conv zko] [] none) ?_⟩,zyy (fun a b c=> by rfl) (by rfl)⟩ <;> kernel_rfl
end
end
section
section
variable {x:Program×List Str×World×(Str→Option Value)×(Str→Option Value)}
def Zh:Stm:=(zb (sIf (tOf (d2 pLt (za 11) (dC (.int 4)))) (zb Qz
 zl) zl)
 (zb (sIf (ze2 (tOf (za 10))) (zb (j8 (za 10))
 zl) zl)
 (zb (zc (tNm 10) (zf (Jx zbt ENC) [(za 10),dC (.raw zbt)]))
 (zb (zc (tNm 46) (d2 zx (dC (.str [61])) (za 12)))
 (zb (zc (tNm 49) (d2 jb (za 11) (dC (.int 1))))
 (zb (Qp (tNm 41) zpg)
 (zb (zc (tNm 42) (zda (za 41)))
 (zb (Q8 false (tNm 43) (fIt (zf j1 ((za 10)::[]))) (zb (zc (tNm 44) (dC (.int 0)))
 (zb (zc (tNm 47) (d2 jb (d2 jb (zf Qt [(za 43)]) (dC (.int 1))) (za 11)))
 (zb (zbo 60 (tOf (d2 pLe (za 44) (za 47))) (zb (zc (tNm 48) (d2 zx (za 44) (za 49)))
 (zb (sIf (tOf (d2 zv (d2 zn (za 43) (d2 jb (za 48) (dC (.int 2)))) (dC (.str [61])))) (zb (ju (zby (za 42) (qg (za 43) (qv (za 44)) (qv (d2 jb (za 48) (dC (.int 1)))) qn)))
 (zb (zc (tNm 44) (d2 jb (za 48) (dC (.int 2))))
 zl)) (zb (sIf (tOf (d2 zv (d2 zn (za 43) (d2 jb (za 48) (dC (.int 1)))) (dC (.str [61])))) (zb (ju (zby (za 42) (qg (za 43) (qv (za 44)) (qv (za 48)) qn)))
 (zb (zc (tNm 44) (d2 jb (za 48) (dC (.int 1))))
 zl)) (zb (ju (zby (za 42) (d2 zx (qg (za 43) (qv (za 44)) (qv (za 48)) qn) (dC (.str [61])))))
 (zb (zc (tNm 44) (za 48))
 zl)))
 zl))
 zl)))
 (zb (sIf (Zz (tOf (za 43)) (Zz (tOf (d2 pIn (d2 zn (za 43) (d1 Q6 (dC (.int 1)))) (dC (.str [32,9])))) (fun V V=> some true))) (zb (zc (tNm 45) (d2 jb (za 44) (za 47)))
 (zb (sIf (tOf (d2 pGe (za 45) (dC (.int 3)))) (zb (zc (tNm 33) (dFn (bfN 1 []) [9] Q0 [(d2 zn (za 43) (d1 Q6 (dC (.int 1))))]))
 zl) (zb (sIf (tOf (d2 zv (za 45) (dC (.int 2)))) (zb (zc (tNm 33) (d2 zx (d2 zn (za 43) (d1 Q6 (dC (.int 1)))) (za 46)))
 zl) (zb (zc (tNm 33) (d2 zx (za 46) (dFn (bfN 1 []) [9] Q0 [(d2 zn (za 43) (d1 Q6 (dC (.int 1))))])))
 zl))
 zl))
 (zb (ju (zby (za 42) (d2 zx (qg (za 43) (qv (za 44)) (qv (d1 Q6 (dC (.int 1)))) qn) (za 33))))
 zl))) (zb (ju (zby (za 42) (qg (za 43) (qv (za 44)) qn qn)))
 zl))
 zl)))))
 (zb (sIf (tOf (d2 pIn (d2 zn (za 10) (d1 Q6 (dC (.int 1)))) (dC (.str [13,10])))) (zb (ju (zby (za 42) (dC (.str []))))
 zl) zl)
 (zb (j8 (zf Qn ((za 12)::[(za 41)])))
 zl))))))))))
theorem zgw {k:Nat}:Fo x (k + 1) 112 [10,11,12] Zh∧Bi x 112 [10,11,12] [] (bfN 3 []):=by
 have X_quote:=zm7 (x:=x) (k:=k + 0)
 refine ⟨⟨?_, ?_, ?_, ?_, ?_, ?_, ?_, ?_, ?_,fun h X=> ⟨_,_,_,_,rfl,X 111 _ (by rfl),rfl,rfl⟩, ?_, ?_,Cc.go (zba [ceF X_quote zq2 (by kernel_rfl) (by kernel_rfl)] [] [] [] none) ?_⟩,zo6 fun a b c=> ⟨_,fun s X=> BindsTo.of_defaults rfl (X 105 _ (by rfl)) rfl (by rfl) (by rfl),rfl,rfl⟩⟩ <;> kernel_rfl
def Jk:Stm:=(zb (sIf (ze2 (tOf (za 13))) (zb (j8 (za 13))
 zl) zl)
 (zb (zc (tNm 50) (dC (.str [])))
 (zb (Q8 false (tNm 43) (fIt (zf j1 ((za 13)::[]))) (zb (zc (tNm 43) (zf zeb ((za 43)::[])))
 (zb (sIf (ze2 (tOf (za 43))) (zb (j9 q6 50 (za 12))
 (zb zef
 zl)) zl)
 (zb (zc (tNm 31) (dC (.int 0)))
 (zb (zc (tNm 51) (zf Qt [(za 43)]))
 (zb (zbo 60 (tOf (d2 pLt (za 31) (za 51))) (zb (zc (tNm 9) (d2 zn (za 43) (za 31)))
 (zb (sIf (tOf (d2 qr (za 9) (dC (.str [61])))) (zb (j9 q6 50 (za 9))
 (zb (j9 q6 31 (dC (.int 1)))
 zl)) (zb (sIf (tOf (d2 zv (d2 zx (za 31) (dC (.int 1))) (za 51))) (zb (j9 q6 31 (dC (.int 1)))
 (zb zef
 zl)) (zb (sIf (Zz (tOf (d2 pLt (d2 zx (za 31) (dC (.int 2))) (za 51))) (Zz (tOf (d2 pIn (d2 zn (za 43) (d2 zx (za 31) (dC (.int 1)))) (dC (.str [48,49,50,51,52,53,54,55,56,57,97,98,99,100,101,102,65,66,67,68,69,70])))) (Zz (tOf (d2 pIn (d2 zn (za 43) (d2 zx (za 31) (dC (.int 2)))) (dC (.str [48,49,50,51,52,53,54,55,56,57,97,98,99,100,101,102,65,66,67,68,69,70])))) (fun V V=> some true)))) (zb (j9 q6 50 (dFn (bfN 1 []) [5] Zt [(qg (za 43) (qv (za 31)) (qv (d2 zx (za 31) (dC (.int 3)))) qn)]))
 (zb (j9 q6 31 (dC (.int 3)))
 zl)) (zb (j9 q6 50 (za 9))
 (zb (j9 q6 31 (dC (.int 1)))
 zl)))
 zl))
 zl))
 (zb (sIf (tOf (d2 zv (za 31) (za 51))) (zb (j9 q6 50 (za 12))
 zl) zl)
 zl))))
 zl))))))
 (zb (sIf (Zz (tOf (d2 zdl (d2 zn (za 13) (d1 Q6 (dC (.int 1)))) (dC (.str [13,10])))) (Zz (tOf (zf za5 ((za 50)::[(za 12)]))) (fun V V=> some true))) (zb (zc (tNm 50) (qg (za 50) qn (qv (d1 Q6 (zf Qt [(za 12)]))) qn))
 zl) zl)
 (zb (j8 (za 50))
 zl)))))
theorem zs3 {k:Nat}:Fo x (k + 1) 120 [13,12] Jk∧Bi x 120 [13,12] [] (bfN 2 []):=by
 have X_unquote:=zgx (x:=x) (k:=k + 0)
 refine ⟨⟨?_, ?_, ?_, ?_, ?_, ?_, ?_, ?_, ?_,fun h X=> ⟨_,_,_,_,rfl,X 119 _ (by rfl),rfl,rfl⟩, ?_, ?_,Cc.go (zba [ceF X_unquote ziz (by kernel_rfl) (by kernel_rfl)] [] [] [] none) ?_⟩,zvl fun a b=> ⟨_,fun s X=> BindsTo.of_defaults rfl (X 113 _ (by rfl)) rfl (by rfl) (by rfl),rfl,rfl⟩⟩ <;> kernel_rfl
end
end
section
section
variable {x:Program×List Str×World×(Str→Option Value)×(Str→Option Value)}
def z4r:Stm:=(Qp (tNm 102) (eIf (tOf (d2 Jw (za 102) (dC .none))) (eOf (za 102)) zpg))
def z1w:Stm:=(sIf (fun U W=> (zbr "list" (za 102) U W).map fun b=> b !=true) (zb Qz
 zl) zl)
def z1x:Stm:=(sIf (tOf (dC (.bool true))) (zb (Q8 true (jn [(tNm 54),(tNm 6)]) (fIt (za 102)) (zb Qz
 (zb Qz
 zl)))
 zl) zl)
def zl7 (x:Addr) (W:Sto):Ren:=upd (qw [14,102] [.raw x,.none] Zy) 102 (.mref W.length)
theorem z4i (W:Sto):(W ++ [[]])[W.length]? =some ([]:List PV):=by simp
theorem drI (W:Sto):dr (W ++ [[]]) (.mref W.length)= .lst []:=by
 show (match (W ++ [[]])[W.length]? with | some l=> PV.lst l | none=> PV.mref W.length)=_
 rw [z4i]
theorem z16:HdrMk (gOf x) 158:=⟨by kernel_rfl,by kernel_rfl,by kernel_rfl,by kernel_rfl,by kernel_rfl,by kernel_rfl,by kernel_rfl⟩
theorem eI1 (x:Addr) (base:Nat) (W:Sto):z4r base (qw [14,102] [.raw x,.none] Zy) W=some (.next,zl7 x W,W ++ [[]]):=by rfl
theorem eI2 (x:Addr) (base:Nat) (W:Sto):z1w base (zl7 x W) (W ++ [[]])=some (.next,zl7 x W,W ++ [[]]):=by
 have h:zbr "list" (za 102) (zl7 x W) (W ++ [[]])=some true:=by
  show (znt (W ++ [[]]) (.mref W.length)).map _=_
  unfold znt;rw [drI];rfl
 unfold z1w sIf
 dsimp only
 rw [h];rfl
theorem eI4 (x:Addr) (base:Nat) (W:Sto):z1x base (zl7 x W) (W ++ [[]])=some (.next,zl7 x W,W ++ [[]]):=by
 have h:fIt (za 102) (zdd true base (W ++ [[]]).length) (zl7 x W) (W ++ [[]])=some []:=by
  show (if Q5 (zdd true base (W ++ [[]]).length) (.mref W.length)=true then pIt (W ++ [[]]) (.mref W.length) else none)=_
  have e:Q5 (zdd true base (W ++ [[]]).length) (.mref W.length)=true:=by
   unfold Q5 zdd;simp only [if_true,xz,List.length_cons,List.length_nil]
   exact yd (by omega)
  rw [if_pos e]
  unfold pIt;rw [drI];rfl
 unfold z1x
 show zb (Q8 true _ (fIt (za 102)) _) zl base (zl7 x W) (W ++ [[]])=_
 unfold zb Q8
 rw [h];rfl
theorem z6t {k:Nat}:HMk (gOf x) (k + 2):=by
 intro A s ad W base Q E hr wd hQ
 refine zky (g:=gOf x) (k:=k) (nm:=nm) (fI:=158) (o:=_) (fd:=_) (iS:=14) (iH:=102) (nS:="self") (nH:="headers") (f1:=z4r) (f2:=z1w) (f4:=z1x) (U1:=zl7) z16 zdh (by kernel_rfl) (by kernel_rfl) (by kernel_rfl) (by kernel_rfl) (by kernel_rfl) (by kernel_rfl)
  ⟨(by rfl:(gOf x).K.lookup 158=some _),rfl,rfl,rfl,rfl,rfl,rfl,rfl,rfl,fun h X=> ⟨_,_,_,_,rfl,X 157 _ (by rfl),rfl,rfl⟩,rfl,rfl,SS.stuck⟩ ?_ ?_ eI1 ?_ ?_ ?_ eI2 ?_ eI4 ?_ hr wd hQ
 ·exact fun s x X=> BindsTo.of_defaults rfl (X 151 _ (by rfl)) rfl (by rfl) (by rfl)
 ·exact Cc.one (zba [] [] [] [] none) (by kernel_rfl)
 ·intro x W;rfl
 ·intro x W;rfl
 ·exact Cc.one (zba [] [] [] [] none) (by kernel_rfl)
 ·exact Cc.one (zba [] [] [] [] none) (by kernel_rfl)
 ·exact fun V V=> rfl
end
end
section
section
variable {x:Program×List Str×World×(Str→Option Value)×(Str→Option Value)}
def L1:Stm:=(zc (tNm 101) (qy [(dC (.int 263)),(dC (.int 17754)),(dC (.int 3894277))]))
def L2:Stm:=(zc (tNm 68) (qa [21] (jn [(tNm 54),(tNm 44)]) (zac (za 101)) qj (d2 zx (za 44) (zf z0p [(qa [] (tNm 74) (fIt (qg (za 21) (qv (za 54)) (qv (dC (.int 60))) (qv (dC (.int 3))))) qj (d2 jt (za 74) (dC (.int 1000000000))))]))))
def L3:Stm:=(zc (tNm 99) (Q9 [] (tNm 6) (fIt (dC (.str [97,98,99,100]))) qj (tNm 98) (fIt (dC (.str [97,98,99,100]))) (tOf (d2 pLe (za 98) (za 6))) (qy [(za 98),(za 6)])))
def L4:Stm:=(zc (tNm 97) (qa [68] (jn [(tNm 54),(tNm 100)]) (zac (za 99)) (tOf (d2 zv (d2 jt (d2 zo (d2 zn (za 68) (dC (.int 0))) (d2 Qc (dC (.int 2)) (za 54))) (dC (.int 2))) (dC (.int 1)))) (za 100)))
def L5:Stm:=(Qp (tNm 96) zv0)
def zym:Stm:=(ju (zcz (bfN 3 [.emp]) [14,18,19,20] jd (za 96) [(d2 zn (qy [(za 98),(zf Zx ((za 98)::[]))]) (d2 jt (d2 zo (d2 zo (d2 zn (za 68) (dC (.int 0))) (dC (.int 1024))) (d2 Qc (dC (.int 2)) (za 54))) (dC (.int 2)))),(za 6)]))
def zsn:Stm:=(sIf (tOf (d2 qr (za 98) (za 6))) (zb (ju (zcz (bfN 3 [.emp]) [14,18,19,20] jd (za 96) [(d2 zn (qy [(zf Zx ((za 6)::[])),(za 6)]) (d2 jt (d2 zo (d2 zo (d2 zn (za 68) (dC (.int 0))) (dC (.int 1024))) (d2 Qc (dC (.int 2)) (za 54))) (dC (.int 2)))),(za 98)]))
 zl) zl)
def L6:Stm:=Q8 false (jn [(tNm 54),(jn [(tNm 98),(tNm 6)])]) (zac (za 97)) (zb zym (zb zsn zl))
def L7:Stm:=(zc (tNm 73) (d2 zx (qa [] (jn [(tNm 98),(tNm 6)]) (fIt (za 97)) qj (d2 zx (za 98) (za 6))) (qa [] (jn [(tNm 98),(tNm 6)]) (fIt (za 97)) (tOf (d2 qr (za 98) (za 6))) (d2 zx (za 6) (za 98)))))
def L8:Stm:=(zc (tNm 86) (zk6 [96] (tNm 74) (fIt (dC (.str [97,98,99,100]))) qj (za 74) (q5 (bfN 2 []) [14,16] jp (za 96) [(zf Zx ((za 74)::[]))])))
def L9:Stm:=(zc (tNm 88) (qa [] (tNm 39) (zgv 4) qj (dFn (bfN 1 []) [0] z1a [(d2 j3 (dC (.int 16)) (za 39))])))
def L10:Stm:=(zc (tNm 91) (dC (.str [])))
def zut:Stm:=(zc (tNm 91) (d2 zx (za 91) (d2 zn (qa [91] (tNm 74) (fIt (dC (.str [97,98,99,100]))) (tOf (d2 zdl (za 74) (za 91))) (za 74)) (d2 jt (d2 zo (d2 zn (za 68) (dC (.int 1))) (za 94)) (za 95)))))
def L11:Stm:=Q8 false (jn [(tNm 94),(tNm 95)]) (fIt (qy [(qy [(dC (.int 1)),(dC (.int 4))]),(qy [(dC (.int 4)),(dC (.int 3))]),(qy [(dC (.int 12)),(dC (.int 2))]),(qy [(dC (.int 24)),(dC (.int 1))])])) (zb zut zl)
def L12:Stm:=(zc (tNm 81) (qa [68] (jn [(tNm 54),(tNm 74)]) (zac (dC (.str [97,98,99,100]))) qj (d2 zx (d2 j3 (dC (.str [46])) (d2 zx (dC (.int 1)) (d2 jt (d2 zo (d2 zo (d2 zn (za 68) (dC (.int 1))) (dC (.int 24))) (d2 Qc (dC (.int 2)) (za 54))) (dC (.int 2))))) (za 74))))
def L13:Stm:=(zc (tNm 69) (qa [68] (tNm 54) (zgv 4) qj (d2 zn (qy [(dC (.str [])),(dC (.str [32])),(dC (.str [9]))]) (d2 jt (d2 zo (d2 zo (d2 zn (za 68) (dC (.int 1))) (dC (.int 384))) (d2 Qc (dC (.int 3)) (za 54))) (dC (.int 3))))))
def L14:Stm:=(zc (tNm 63) (zf z38 [(d2 zx (dC (.int 128)) (d2 jt (d2 zn (za 68) (dC (.int 2))) (dC (.int 128))))]))
def L15:Stm:=(zc (tNm 67) (d2 zx (dC (.int 6)) (d2 jt (d2 zo (d2 zn (za 68) (dC (.int 2))) (dC (.int 128))) (dC (.int 4)))))
def L16:Stm:=(zc (tNm 12) (d2 zn (qy [(dC (.str [10])),(dC (.str [13,10])),(dC (.str [13]))]) (d2 jt (d2 zo (d2 zn (za 68) (dC (.int 2))) (dC (.int 512))) (dC (.int 3)))))
def L17:Stm:=(zc (tNm 64) (d2 zn (qy [(dC (.str [10])),(dC (.str [13,10])),(dC (.str [13]))]) (d2 jt (d2 zo (d2 zn (za 68) (dC (.int 2))) (dC (.int 1536))) (dC (.int 3)))))
def L18:Stm:=(zc (tNm 44) (d2 jt (d2 zo (d2 zn (za 68) (dC (.int 2))) (dC (.int 4608))) (dC (.int 64))))
def L19:Stm:=(zc (tNm 70) (za 81))
def L20:Stm:=(zc (tNm 80) (dFn (bfN 1 []) [0] J8 [(za 44)]))
def L21:Stm:=(zc (tNm 82) (dC (.str [])))
def L22:Stm:=(Qp (tNm 60) zv0)
def L23:Stm:=(Qp (tNm 72) zpg)
def zuu:Stm:=(zc (jn [(tNm 36),(tNm 37),(tNm 38)]) (za 80))
def zuw:Stm:=(zc (jn [(tNm 87),(tNm 90),(tNm 15)]) (dFn (bfN 3 []) [1,2,3] zmd [(za 36),(za 37),(za 38)]))
def zuy:Stm:=(zc (tNm 0) (d2 zo (zf ziv [(d2 zx (d2 j3 (dC (.int 128)) (za 87)) (dC (.int 1)))]) (dC (.int 2))))
def zu0:Stm:=(sIf (tOf (d2 qr (za 80) (dFn (bfN 1 []) [0] J8 [(za 0)]))) (zb (j8 (dC (.bool false)))
 zl) zl)
def zu2:Stm:=(zc (tNm 89) (zf Qn ((dC (.str []))::[(qa [] (jn [(tNm 74),(tNm 71),(tNm 78)]) (zik [(dC (.str [97,98,99,100])),(za 70),(za 81)]) (tOf (d2 qr (za 71) (za 78))) (za 74))])))
def zu4:Stm:=(ju (zcz (bfN 3 [.emp]) [14,18,19,20] jd (za 60) [(d2 zx (dC (.str [120])) (za 89)),(d2 zx (za 82) (zf zqf [(d2 jt (d2 jb (za 0) (za 44)) (dC (.int 64)))]))]))
def zu6:Stm:=(zc (tNm 92) (zf Qn ((dC (.str []))::[(qa [82,73] (tNm 74) (fIt (dC (.str [97,98,99,100]))) (tOf (d2 zv (d2 jt (zf Qt [(qa [74,73] (tNm 93) (fIt (za 82)) (tOf (d2 pIn (d2 zx (za 74) (za 93)) (za 73))) (za 93))]) (dC (.int 2))) (dC (.int 1)))) (za 74))])))
def zu8:Stm:=(ju (Z2 (za 72) (qy [(d2 zx (dC (.str [120])) (za 92)),(d2 zx (za 82) (zf zqf [(d2 j3 (dC (.int 16)) (d2 jt (zf Qt [(Q9 [82,73] (tNm 74) (fIt (za 82)) qj (tNm 93) (fIt (za 82)) (tOf (d2 pIn (d2 zx (za 74) (za 93)) (za 73))) (za 74))]) (dC (.int 4))))]))])))
def zva:Stm:=(zc (tNm 83) (d2 zn (za 91) (za 54)))
def zou:Stm:=(zc (tNm 80) (dFn (bfN 3 []) [4,5,6] zq1 [(d2 zx (za 87) (d2 zn (za 88) (d2 zx (d2 pIn (za 83) (d2 zn (za 86) (za 83))) (d2 j3 (dC (.int 2)) (d2 pIn (za 83) (za 89)))))),(za 90),(za 15)]))
def zov:Stm:=(zc (tNm 85) (zf Qn ((za 12)::[(qa [86,83] (jn [(tNm 74),(tNm 71)]) (zik [(dC (.str [97,98,99,100])),(za 70)]) qj (dIf (tOf (d2 pIn (za 74) (d2 zn (za 86) (za 83)))) (za 71) (d2 zx (dFn (bfN 1 []) [9] Q0 [(d2 zn (za 71) (dC (.int 0)))]) (qg (za 71) (qv (dC (.int 1))) qn qn))))])))
def zow:Stm:=(zc (tNm 84) (qa [] (tNm 43) (fIt (zf zey ((dFn (bfN 1 []) [8] jo [(za 85)])::[(dC (.str [13,10]))]))) qj (dIf (tOf (d2 zv (qg (za 43) qn (qv (dC (.int 3))) qn) (dC (.str [61,50,69])))) (d2 zx (dFn (bfN 1 []) [5] Zt [(qg (za 43) qn (qv (dC (.int 3))) qn)]) (qg (za 43) (qv (dC (.int 3))) qn qn)) (za 43))))
def zox:Stm:=(zc (tNm 70) (qa [] (tNm 43) (fIt (za 84)) qj (Jp (za 43) [46,46,46] [46])))
def zoy:Stm:=(zc (tNm 82) (zf Qn ((dC (.str []))::[(qa [82,83] (tNm 74) (fIt (dC (.str [97,98,99,100]))) (tOf (d2 qr (d2 pIn (za 74) (za 82)) (d2 zv (za 74) (za 83)))) (za 74))])))
def L24:Stm:=Q8 false (tNm 54) (fIt (qy [(dC (.int 0)),(dC (.int 1)),(dC (.int 0)),(dC (.int 2)),(dC (.int 0)),(dC (.int 1)),(dC (.int 0)),(dC (.int 3)),(dC (.int 0)),(dC (.int 1)),(dC (.int 0)),(dC (.int 2)),(dC (.int 0)),(dC (.int 1)),(dC (.int 0)),(dC (.int 3))])) (zb zuu (zb zuw (zb zuy (zb zu0 (zb zu2 (zb zu4 (zb zu6 (zb zu8 (zb zva (zb zou (zb zov (zb zow (zb zox (zb zoy zl))))))))))))))
def L25:Stm:=(sIf (tOr (tOf (d2 qr (q5 (bfN 1 []) [14] zfu (za 60) []) (za 72))) (tOr (tOf (d2 qr (za 70) (za 81))) (tOr (tOf (d2 qr (za 80) (dFn (bfN 1 []) [0] J8 [(za 44)]))) (fun V V=> some false)))) (zb (j8 (dC (.bool false)))
 zl) zl)
def L26:Stm:=(zc (tNm 77) (qa [] (tNm 40) (fIt (q5 (bfN 2 []) [14,16] jp (za 60) [(dC (.str [88]))])) qj (zf Zs ((za 40)::[(dC (.str [48,49,50,51,52,53,54,55,56,57]))]))))
def zmg:Stm:=(zc (tNm 78) (zf Qn ((dC (.str []))::[(qa [75] (jn [(tNm 54),(tNm 74)]) (zac (dC (.str [97,98,99,100]))) (tOf (d2 zv (d2 jt (d2 zo (za 75) (d2 Qc (dC (.int 2)) (za 54))) (dC (.int 2))) (dC (.int 1)))) (za 74))])))
def zq3:Stm:=(zc (tNm 76) (zf Qt [(q5 (bfN 2 []) [14,16] jp (za 60) [(d2 zx (dC (.str [88])) (zf Zx ((za 78)::[])))])]))
def zq4:Stm:=(sIf (tOf (d2 qr (za 76) (d2 j3 (zf Qt [(za 77)]) (zf z0n [(qa [78] (tNm 79) (fIt (za 77)) qj (d2 zv (d2 jt (zf Qt [(qa [78] (tNm 74) (fIt (za 79)) (tOf (d2 pIn (za 74) (za 78))) (za 74))]) (dC (.int 2))) (dC (.int 0))))])))) (zb (j8 (dC (.bool false)))
 zl) zl)
def L27:Stm:=Q8 false (tNm 75) (zgv 16) (zb zmg (zb zq3 (zb zq4 zl)))
def L28:Stm:=(zc (tNm 61) (zf Qn ((dC (.str []))::[(qa [73] (tNm 74) (fIt (dC (.str [97,98,99,100]))) (tOf (d2 pIn (d2 zx (za 74) (za 74)) (za 73))) (za 74))])))
def L29:Stm:=(sIf (tOf (d2 qr (zpd [(q5 (bfN 2 [.none]) [14,16,17] zmc (za 60) [(d2 zx (dC (.str [88])) (zf Zx ((za 61)::[])))])]) (qg (qa [61] (jn [(tNm 16),(tNm 40)]) (fIt (za 72)) (tOf (d2 zv (za 16) (d2 zx (dC (.str [120])) (za 61)))) (za 40)) qn (qv (dC (.int 1))) qn))) (zb (j8 (dC (.bool false)))
 zl) zl)
def L30:Stm:=(zc (tNm 66) (qa [63,68,69] (jn [(tNm 54),(tNm 71)]) (zac (za 70)) qj (d2 zx (d2 zx (d2 j3 (za 63) (d2 jt (d2 zo (d2 zo (d2 zn (za 68) (dC (.int 2))) (dC (.int 294912))) (d2 Qc (dC (.int 2)) (za 54))) (dC (.int 2)))) (za 71)) (d2 zn (za 69) (za 54)))))
def L31:Stm:=(zc (tNm 65) (zf zey ((dFn (bfN 2 []) [13,12] Jk [(dFn (bfN 1 []) [8] jo [(dFn (bfN 3 []) [10,11,12] Zh [(zf Qn ((dC (.str [10]))::[(za 66)])),(za 67),(za 12)])]),(za 64)])::[(za 64)])))
def L32:Stm:=(sIf (tOf (d2 qr (za 65) (qa [63] (tNm 43) (fIt (za 66)) qj (dIf (tOf (d2 zv (d2 zn (za 43) (dC (.int 0))) (za 63))) (za 43) (d2 zx (dC (.str [46])) (za 43)))))) (zb (j8 (dC (.bool false)))
 zl) zl)
def L33:Stm:=(sIf (tOf (d2 qr (dFn (bfN 2 []) [13,12] Jk [(d2 zx (dFn (bfN 1 []) [8] jo [(dFn (bfN 3 []) [10,11,12] Zh [(d2 zx (za 63) (dC (.str [46,46,97]))),(dC (.int 5)),(za 12)])]) (dC (.str [32]))),(za 64)]) (d2 zx (za 63) (dC (.str [46,46,46,97]))))) (zb (j8 (dC (.bool false)))
 zl) zl)
def L34:Stm:=(zc (jn [(tNm 56),(tNm 57)]) (dFn (bfN 1 []) [7] Je [(q5 (bfN 1 []) [14] zb1 (za 60) [])]))
def L35:Stm:=(sIf (tOf (d2 qr (qy [(d2 zx (d2 Qc (za 56) (dC (.int 2))) (d2 Qc (za 57) (dC (.int 2)))),(dC (.int 0))]) (zf zqg [(qa [] (tNm 62) (fIt (dFn (bfN 1 []) [7] Je [(q5 (bfN 2 []) [14,16] jp (za 60) [(dC (.str [88]))])])) qj (d2 j3 (dC (.int 16)) (za 62)))]))) (zb (j8 (dC (.bool false)))
 zl) zl)
def L36:Stm:=(zc (jn [(tNm 58),(tNm 59)]) (dFn (bfN 1 []) [7] Je [(q5 (bfN 2 []) [14,16] jp (za 60) [(d2 zx (dC (.str [88])) (zf Zx ((za 61)::[])))])]))
def L37:Stm:=(j8 (d2 zv (qy [(d2 jb (d2 Qc (za 56) (dC (.int 2))) (d2 Qc (za 57) (dC (.int 2)))),(d2 j3 (d2 j3 (dC (.int 2)) (za 56)) (za 57))]) (qy [(d2 j3 (dC (.int 16)) (za 58)),(d2 j3 (dC (.int 16)) (za 59))])))
def zup:Stm:=(zb L1 (zb L2 (zb L3 (zb L4 (zb L5 (zb L6 (zb L7 (zb L8 (zb L9 (zb L10 (zb L11 (zb L12 (zb L13 (zb L14 (zb L15 (zb L16 (zb L17 (zb L18 (zb L19 (zb L20 (zb L21 (zb L22 (zb L23 (zb L24 (zb L25 (zb L26 (zb L27 (zb L28 (zb L29 (zb L30 (zb L31 (zb L32 (zb L33 (zb L34 (zb L35 (zb L36 (zb L37 zl)))))))))))))))))))))))))))))))))))))
theorem z3i {k:Nat}:Fo x (k + 2) 292 [21] zup∧Bi x 292 [21] [] (bfN 1 []):=by
 have X_hue:=z3h (x:=x) (k:=k + 0)
 have X_light:=zm6 (x:=x) (k:=k + 1)
 have X_mixed:=zwe (x:=x) (k:=k + 1)
 have X_add_header:=zil (x:=x) (k:=k + 0)
 have X_body_encode:=zgw (x:=x) (k:=k + 0)
 have X_decode:=zs3 (x:=x) (k:=k + 0)
 have X_get:=z3f (x:=x) (k:=k + 0)
 have X_get_all:=zpn (x:=x) (k:=k + 0)
 have X_hsv:=z3g (x:=x) (k:=k + 1)
 have X_items:=zwd (x:=x) (k:=k + 1)
 have X_quote:=zm7 (x:=x) (k:=k + 1)
 have X_quotedata:=zlg (x:=x) (k:=k + 1)
 have X_rgb:=zwf (x:=x) (k:=k + 1)
 have X_unquote:=zgx (x:=x) (k:=k + 1)
 have X_values:=zs4 (x:=x) (k:=k + 1)
 refine ⟨⟨?_, ?_, ?_, ?_, ?_, ?_, ?_, ?_, ?_,fun h X=> ⟨_,_,_,_,rfl,X 291 _ (by rfl),rfl,rfl⟩, ?_, ?_,Cc.go (zba [ceF X_hue zos (by kernel_rfl) (by kernel_rfl),ceF X_light zdp (by kernel_rfl) (by kernel_rfl),ceF X_mixed zkk (by kernel_rfl) (by kernel_rfl),ceF X_body_encode zib (by kernel_rfl) (by kernel_rfl),ceF X_decode zuq (by kernel_rfl) (by kernel_rfl),ceF X_hsv zkn (by kernel_rfl) (by kernel_rfl),ceF X_quote zq2 (by kernel_rfl) (by kernel_rfl),ceF X_quotedata zmf (by kernel_rfl) (by kernel_rfl),ceF X_rgb zdq (by kernel_rfl) (by kernel_rfl),ceF X_unquote ziz (by kernel_rfl) (by kernel_rfl)] [meF HKx X_get z15,meF HKx X_get_all zot,meF HKx X_items zus,meF HKx X_values zsh] [] [xeF HKx X_add_header zic] (some ⟨z6t,zsg,by kernel_rfl⟩)) ?_⟩,zbe fun a=> ⟨_,fun s X=> BindsTo.of_eq (by rfl),rfl,rfl⟩⟩ <;> kernel_rfl
end
end
section
theorem zd {f f':Stm}{base:Nat}{U U1:Ren}{W W1:Sto} (h:f base U W=some (.next,U1,W1)):zb f f' base U W=f' base U1 W1:=by unfold zb;rw [h]
theorem zp {op:Sto→PV→PV→Option PV}{f f':Den}{U:Ren}{W:Sto}{a b:PV} (h1:f U W=some a) (h2:f' U W=some b):d2 op f f' U W=op W a b:=by unfold d2;rw [h1,h2]
theorem z5m {op:Sto→PV→Option PV}{f:Den}{U:Ren}{W:Sto}{a:PV} (h1:f U W=some a):d1 op f U W=op W a:=by unfold d1;rw [h1]
theorem zmp {op:Sto→List PV→Option PV}{fs:List Den}{U:Ren}{W:Sto}{ps:List PV} (h:jm fs U W=some ps):zf op fs U W=op W ps:=by unfold zf;rw [h]
theorem qq {op:Sto→List PV→Option PV}{f:Den}{U:Ren}{W:Sto}{a:PV} (h1:f U W=some a):zf op [f] U W=op W [a]:=by unfold zf;rw [zt h1 rfl]
theorem je {op:Sto→List PV→Option PV}{f f':Den}{U:Ren}{W:Sto}{a b:PV} (h1:f U W=some a) (h2:f' U W=some b):zf op [f,f'] U W=op W [a,b]:=by unfold zf;rw [zt h1 (zt h2 rfl)]
theorem Jr {bf:BF}{ids:List Nat}{F:Stm}{f:Den}{U:Ren}{W:Sto}{a:PV} (h1:f U W=some a):dFn bf ids F [f] U W=fnV bf ids F W [a]:=by unfold dFn;rw [zt h1 rfl]
theorem zwc {bf:BF}{ids:List Nat}{F:Stm}{f f2:Den}{U:Ren}{W:Sto}{a b:PV} (h1:f U W=some a) (h2:f2 U W=some b):dFn bf ids F [f,f2] U W=fnV bf ids F W [a,b]:=by unfold dFn;rw [zt h1 (zt h2 rfl)]
theorem zlc {bf:BF}{ids:List Nat}{F:Stm}{f f2 f3:Den}{U:Ren}{W:Sto}{a b c:PV} (h1:f U W=some a) (h2:f2 U W=some b) (h3:f3 U W=some c):dFn bf ids F [f,f2,f3] U W=fnV bf ids F W [a,b,c]:=by unfold dFn;rw [zt h1 (zt h2 (zt h3 rfl))]
theorem qb {f:Den}{U:Ren}{W:Sto}{a:PV} (h1:f U W=some a):tOf f U W=pTr W a:=by unfold tOf;rw [h1]
theorem zj {i:Nat}{f:Den}{base:Nat}{U:Ren}{W:Sto}{a:PV} (h:f U W=some a):zc (tNm i) f base U W=some (.next,upd U i a,W):=by unfold zc;rw [h];rfl
theorem Z4 {tg:Tg}{cond:q7}{bod:Ren→Sto→Option (List PV)}{U:Ren}{W:Sto} (p:PV) (ps:List PV):j6 tg cond bod U W (p::ps)=(tg p U).bind fun U'=> (cond U' W).bind fun b=> _root_.cond b ((bod U' W).bind fun q=> (j6 tg cond bod U W ps).map (q ++ ·)) (j6 tg cond bod U W ps):=rfl
theorem zax {tg:Tg}{cond:q7}{bod:Ren→Sto→Option (List PV)}{U:Ren}{W:Sto}:j6 tg cond bod U W []=some []:=rfl
theorem jx {α:Type}{tg:Tg}{cond:q7}{f:Den}{U:Ren}{W:Sto} (k:α→PV) (c:α→Bool) (q:α→PV):∀ l:List α,(∀ x∈l,∃ U',tg (k x) U=some U'∧cond U' W=some (c x)∧(c x=true→f U' W=some (q x)))→
  j6 tg cond (J5 f) U W (l.map k)=some ((l.filter c).map q)
 | [],_=> rfl
 | x::l,h=> by
  refine bc fun J=> ?_
  obtain ⟨U',e1,e2,e3⟩:=h x xk
  refine J ?_
  have ih:=jx k c q l fun y hy=> h y (xf _ hy)
  rw [List.map_cons,Z4,e1,Option.bind_some,e2,Option.bind_some,ih]
  cases hc:c x with
  | false=> rw [List.filter_cons_of_neg (by rw [hc];exact xy)];rfl
  | true=> rw [List.filter_cons_of_pos hc];unfold J5;rw [e3 hc];rfl
theorem Za {α:Type}{tg:Tg}{f:Den}{U:Ren}{W:Sto} (k q:α→PV) (l:List α) (h:∀ x∈l,∃ U',tg (k x) U=some U'∧f U' W=some (q x)):j6 tg qj (J5 f) U W (l.map k)=some (l.map q):=by
 rw [jx k (fun V=> true) q l fun x hx=> by obtain ⟨U',e1,e2⟩:=h x hx;exact ⟨U',e1,rfl,fun V=> e2⟩,List.filter_eq_self.mpr fun V V=> rfl]
theorem qm {vis:List Nat}{tg:Tg}{fi:zai}{cond:q7}{f:Den}{U:Ren}{W:Sto}{its outs:List PV} (h1:fi W.length U W=some its) (h2:j6 tg cond (J5 f) (zq vis U) W its=some outs) (h3:ze outs.length=true):qa vis tg fi cond f U W=some (.lst outs):=by
 unfold qa;rw [h1,Option.bind_some,h2,Option.bind_some,if_pos h3]
theorem Qi {f:Den}{base:Nat}{U:Ren}{W:Sto}{l:List PV} (h:f U W=some (.lst l)) (hl:ze l.length=true):fIt f base U W=some l:=by
 unfold fIt;rw [h];show (if Q5 base (.lst l)=true then pIt W (.lst l) else none)=_
 rw [if_pos (by rfl:Q5 base (.lst l)=true)];show (if ze l.length=true then some l else none)=_;rw [if_pos hl]
theorem zel {f:Den}{base:Nat}{U:Ren}{W:Sto}{l:List PV} (h:f U W=some (.lst l)) (hl:ze l.length=true):zac f base U W=some (za0 l):=by
 unfold zac;rw [h];show (if Q5 base (.lst l)=true then (pIt W (.lst l)).map za0 else none)=_
 rw [if_pos (by rfl:Q5 base (.lst l)=true)];show ((if ze l.length=true then some l else none)).map za0=_;rw [if_pos hl];rfl
theorem zm {n:Nat} (h:n≤100000):ze n=true:=yd (by lia)
theorem zg4:∀ l:List Int,ints? (l.map .int)=some l
 | []=> rfl
 | x::l=> by show (ints? (l.map .int)).map (x::·)=_;rw [zg4 l];rfl
theorem zn6:∀ k,k < 3→∀ n,n≤63→(sliceRange (sliceBounds (some ((k:Nat):Int)) (some 60) (some 3) n).1 (sliceBounds (some ((k:Nat):Int)) (some 60) (some 3) n).2.1 (sliceBounds (some ((k:Nat):Int)) (some 60) (some 3) n).2.2).length≤63:=by decide +kernel
theorem zh5:∀ l:List Int,(∀ x∈l,0≤x)→∃ m:Nat,l.sum=(m:Int)
 | [],_=> ⟨0,rfl⟩
 | x::l,h=> by
  obtain ⟨m,e⟩:=zh5 l fun y hy=> h y (xf _ hy)
  have:=h x xk
  exact ⟨x.toNat + m,by rw [List.sum_cons,e];lia⟩
def zfx:Den:=(d2 zx (za 44) (zf z0p [(qa [] (tNm 74) (fIt (qg (za 21) (qv (za 54)) (qv (dC (.int 60))) (qv (dC (.int 3))))) qj (d2 jt (za 74) (dC (.int 1000000000))))]))
theorem filterMap_map {α β:Type} (f:α→β) (l:List α) (is:List Nat):is.filterMap ((l.map f)[·]?)=(is.filterMap (l[·]?)).map f:=by
 induction is with
 | nil=> rfl
 | cons i is ih=>
  rw [List.filterMap_cons,List.filterMap_cons,List.getElem?_map]
  cases l[i]? with
  | none=> simpa using ih
  | some x=> simpa using ih
theorem zkz {U:Ren}{W:Sto}{l:List Int}{k:Nat}{s:Int} (hl:l.length≤63) (hk:k < 3) (h1:U 21=some (.lst (l.map .int))) (h2:U 54=some (.int k)) (h3:U 44=some (.int s)):∃ m:Nat,zfx U W=some (.int (s + m)):=by
 have hsl:qg (za 21) (qv (za 54)) (qv (dC (.int 60))) (qv (dC (.int 3))) U W=some (.lst (((sliceRange (sliceBounds (some (k:Int)) (some 60) (some 3) l.length).1 (sliceBounds (some (k:Int)) (some 60) (some 3) l.length).2.1 (sliceBounds (some (k:Int)) (some 60) (some 3) l.length).2.2).filterMap (l[·]?)).map .int)):=by
  unfold qg
  simp only [za,h1,qv,h2,dC]
  show ite (some (3:Int)=some 0∨¬ze (l.map PV.int).length=true) _ _=_
  rw [if_neg (by simp [xc];exact zm (by omega)),filterMap_map,xc]
 generalize hys:((sliceRange (sliceBounds (some (k:Int)) (some 60) (some 3) l.length).1 (sliceBounds (some (k:Int)) (some 60) (some 3) l.length).2.1 (sliceBounds (some (k:Int)) (some 60) (some 3) l.length).2.2).filterMap (l[·]?))=ys at hsl
 have hlen:ys.length≤63:=by rw [←hys];exact x8 (zxo _ _) (zn6 k hk l.length hl)
 have hc:qa [] (tNm 74) (fIt (qg (za 21) (qv (za 54)) (qv (dC (.int 60))) (qv (dC (.int 3))))) qj (d2 jt (za 74) (dC (.int 1000000000))) U W=some (.lst ((ys.map (fun i=> i.fmod 1000000000)).map .int)):=by
  refine qm (Qi hsl (by rw [xc];exact zm (by lia))) ((Za PV.int (fun i=> .int (i.fmod 1000000000)) ys fun i V=> ⟨_,rfl,rfl⟩).trans (by rw [xq];rfl)) (by simp;exact zm (by lia))
 obtain ⟨m,hm⟩:=zh5 (ys.map (fun i=> i.fmod 1000000000)) fun x hx=> by
  obtain ⟨i,_,rfl⟩:=xr.mp hx
  exact Int.fmod_nonneg_of_pos i (by decide)
 refine ⟨m, ?_⟩
 have hs:zf z0p [(qa [] (tNm 74) (fIt (qg (za 21) (qv (za 54)) (qv (dC (.int 60))) (qv (dC (.int 3))))) qj (d2 jt (za 74) (dC (.int 1000000000))))] U W=some (.int m):=by
  rw [qq hc]
  show (ints? ((ys.map (fun i=> i.fmod 1000000000)).map .int)).map (fun ns=> PV.int ns.sum)=_
  rw [zg4,Option.map_some,hm]
 exact (zp h3 hs).trans rfl
theorem z42 (base:Nat) (U:Ren) (W:Sto):L1 base U W=some (.next,upd U 101 (.tup [.int 263,.int 17754,.int 3894277]),W):=rfl
theorem z43 {base:Nat}{U:Ren}{W:Sto}{l:List Int} (hl:l.length≤63) (h1:U 21=some (.lst (l.map .int))) (h2:U 101=some (.tup [.int 263,.int 17754,.int 3894277])):
  ∃ c0 c1 c2:Nat,L2 base U W=some (.next,upd U 68 (.lst [.int c0,.int c1,.int c2]),W):=by
 have hr:zq [21] U 21=some (.lst (l.map .int)):=by unfold zq;rw [if_pos (by rfl)];exact h1
 refine bc fun J=> ?_
 obtain ⟨m0,e0⟩:=zkz (U:=upd (upd (zq [21] U) 54 (.int (0:Nat))) 44 (.int 263)) (W:=W) hl (by decide:0 < 3) hr rfl rfl
 obtain ⟨m1,e1⟩:=zkz (U:=upd (upd (zq [21] U) 54 (.int (1:Nat))) 44 (.int 17754)) (W:=W) hl (by decide:1 < 3) hr rfl rfl
 obtain ⟨m2,e2⟩:=zkz (U:=upd (upd (zq [21] U) 54 (.int (2:Nat))) 44 (.int 3894277)) (W:=W) hl (by decide:2 < 3) hr rfl rfl
 refine J ?_
 refine ⟨263 + m0,17754 + m1,3894277 + m2, ?_⟩
 have key:qa [21] (jn [(tNm 54),(tNm 44)]) (zac (za 101)) qj zfx U W=some (.lst [.int (263 + m0),.int (17754 + m1),.int (3894277 + m2)]):=by
  refine qm (its:=za0 [.int 263,.int 17754,.int 3894277]) ?_ ?_ rfl
  ·unfold zac za;rw [h2];rfl
  ·show j6 _ qj (J5 zfx) _ W [.tup [.int (0:Nat),.int 263],.tup [.int (1:Nat),.int 17754],.tup [.int (2:Nat),.int 3894277]]=_
   have t:∀ (a b:PV) (r:Ren),jn [(tNm 54),(tNm 44)] (.tup [a,b]) r=some (upd (upd r 54 a) 44 b):=fun V V V=> rfl
   simp only [Z4,zax,t,qj,J5,e0,e1,e2,List.nil_append,List.cons_append,Option.bind_some,Option.map_some,cond_true]
 show zc (tNm 68) (qa [21] (jn [(tNm 54),(tNm 44)]) (zac (za 101)) qj zfx) base U W=_
 rw [zj key];simp
noncomputable def Ret (F:Stm) (base:Nat) (U:Ren) (W:Sto) (p:PV):Prop:=∃ U' W',F base U W=some (.ret p,U',W')
section
variable {f f':Stm}{base:Nat}{U U1:Ren}{W W1:Sto}{p:PV}{t:q7}{d:Den}
theorem Ret.next (h:f base U W=some (.next,U1,W1)) (r:Ret f' base U1 W1 p):Ret (zb f f') base U W p:=by
 obtain ⟨a,b,e⟩:=r;exact ⟨a,b,(zd h).trans e⟩
theorem Ret.seq (r:Ret f base U W p):Ret (zb f f') base U W p:=by
 obtain ⟨a,b,e⟩:=r;exact ⟨a,b,by unfold zb;rw [e]⟩
theorem Z6 (h:t U W=some true):sIf t f f' base U W=f base U W:=congrArg (fun o=> Option.bind o fun b=> cond b (f base U W) (f' base U W)) h
theorem zll (h:t U W=some false):sIf t f f' base U W=f' base U W:=congrArg (fun o=> Option.bind o fun b=> cond b (f base U W) (f' base U W)) h
theorem Ret.yes (h:t U W=some true) (r:Ret f base U W p):Ret (sIf t f f') base U W p:=by
 obtain ⟨a,b,e⟩:=r;exact ⟨a,b,(Z6 h).trans e⟩
theorem Ret.ret (h:d U W=some p):Ret (j8 d) base U W p:=⟨U,W,congrArg (fun o=> Option.map (fun p=> (Fl.ret p,U,W)) o) h⟩
theorem Jd (h:t U W=some false):sIf t f zl base U W=some (.next,U,W):=zll h
end
theorem zao {bf:BF}{ids:List Nat}{F:Stm}{W:Sto}{ps bps:List PV}{p:PV} (h1:bf ps=some bps) (h2:Ret F W.length (qw ids bps Zy) W p) (h3:noM p=true):fnV bf ids F W ps=some p:=by
 obtain ⟨U',W',h2⟩:=h2
 unfold fnV fnP;rw [h1];dsimp only;rw [h2];dsimp only [zrh];rw [if_pos h3]
theorem Qx {bf:BF}{ids:List Nat}{F:Stm}{fo f:Den}{U:Ren}{W:Sto}{i:Nat}{a:PV} (h0:fo U W=some (.hdr i)) (h1:f U W=some a):q5 bf ids F fo [f] U W=fnV bf ids F W [.hdr i,a]:=by
 unfold q5;rw [h0,zt h1 rfl]
theorem zi8 {bf:BF}{ids:List Nat}{F:Stm}{fo:Den}{U:Ren}{W:Sto}{i:Nat} (h0:fo U W=some (.hdr i)):q5 bf ids F fo [] U W=fnV bf ids F W [.hdr i]:=by
 unfold q5;rw [h0];rfl
theorem zt6 {W:Sto}{a:Nat}{s:List Nat} (ha:(a==130 || a==135)=true) (hp:s.all jw=true) (hs:ze s.length=true):zcq 130 135 W [.raw a,.str s]=some .none:=by
 show (if ((a==130 || a==135) && (s.all jw && ze s.length))=true then some PV.none else none)=_
 rw [ha,hp,hs];rfl
theorem zfy {W:Sto}{i:Nat}{b:Bool}{s:List Nat} (hp:s.all jw=true) (hs:ze s.length=true):fnV (bfN 2 [.bool b]) [14,15,16] Jj W [.hdr i,.str s]=some (.str s):=by
 refine zao (bps:=[.hdr i,.str s,.bool b]) rfl ?_ rfl
 refine Ret.seq (Ret.yes rfl (Ret.next (zj (a:= .raw (if b then 130 else 135)) (by cases b <;> rfl)) (Ret.next (Jd ?_) (Ret.seq (Ret.ret rfl)))))
 rw [qb ((je (a:= .raw (if b then 130 else 135)) (b:= .str s) rfl rfl).trans (zt6 (by cases b <;> rfl) hp hs))];rfl
noncomputable def hp (p:List Nat×List Nat):PV:= .tup [.str p.1,.str p.2]
def Qo (s:List Nat):Bool:=s.all jw && decide (s.length≤100)
theorem zbm {s:List Nat} (h:Qo s=true):s.all jw=true∧s.length≤100:=by
 unfold Qo at h;rw [xi,decide_eq_true_eq] at h;exact h
noncomputable def qi (s:List Nat):List Nat:=(Txt.lower (mk s)).cps.toList
noncomputable def zcd (s:List Nat):List Nat:=(Txt.upper (mk s)).cps.toList
noncomputable def jk (s:List Nat):Bool:= !Builtin.Str.tooLong (Txt.lower (mk s)).length
theorem zhd {W:Sto}{s:List Nat} (h:jk s=true):Z7 W [.str s]=some (.str (qi s)):=by
 show (if Builtin.Str.tooLong (Txt.lower (mk s)).length=false then some (PV.str (Txt.lower (mk s)).cps.toList) else none)=_
 rw [if_pos (by unfold jk at h;simpa using h)];rfl
theorem zej {fo fe:Den}{base j:Nat}{U:Ren}{W:Sto}{p:PV}{l:List PV} (h1:fo U W=some (.mref j)) (h2:fe U W=some p) (hj:W[j]? =some l) (hb:base≤j) (hl:l.length≤1000):
  ju (Z2 fo fe) base U W=some (.next,U,W.set j (l ++ [p])):=by
 unfold ju Z2
 rw [h1,h2]
 unfold Qm
 dsimp only
 rw [hj]
 dsimp only
 rw [if_pos (by rw [yd hb,zm (by lia)];rfl)]
 rfl
theorem zgu {bf:BF}{ids:List Nat}{F:Stm}{fo:Den}{fs:List Den}{base i:Nat}{U:Ren}{W W':Sto}{ps:List PV} (h1:fo U W=some (.hdr i)) (h2:jm fs U W=some ps) (h3:fnP bf ids F base W (.hdr i::ps)=some (.none,W')):
  ju (zcz bf ids F fo fs) base U W=some (.next,U,W'):=by
 unfold ju zcz;rw [h1,h2];dsimp only;rw [h3];rfl
theorem zo2 {W:Sto}{i:Nat}{L:List PV}{n t:List Nat} (hi:W[i]? =some L) (hL:L.length≤1000) (hn:Qo n=true) (ht:Qo t=true) (base:Nat) (hb:base≤i):
  fnP (bfN 3 [.emp]) [14,18,19,20] jd base W [.hdr i,.str n,.str t]=some (.none,W.set i (L ++ [hp (n,t)]) ++ [[.str t]]):=by
 refine bc fun J=> ?_
 obtain ⟨hn1,hn2⟩:=zbm hn
 obtain ⟨ht1,ht2⟩:=zbm ht
 refine J ?_
 have hlt:i < W.length:=(xe.mp hi).1
 have key:jd base (qw [14,18,19,20] [.hdr i,.str n,.str t,.emp] Zy) W=some (.next,upd (upd (qw [14,18,19,20] [.hdr i,.str n,.str t,.emp] Zy) 55 (.mref W.length)) 19 (.str t),W.set i (L ++ [hp (n,t)]) ++ [[.str t]]):=by
  generalize hUu:qw [14,18,19,20] [.hdr i,.str n,.str t,.emp] Zy=U
  have r14:U 14=some (.hdr i):=by rw [←hUu];rfl
  have r18:U 18=some (.str n):=by rw [←hUu];rfl
  have r19:U 19=some (.str t):=by rw [←hUu];rfl
  have r20:U 20=some .emp:=by rw [←hUu];rfl
  have s1:Qp (tNm 55) zpg base U W=some (.next,upd U 55 (.mref W.length),W ++ [[]]):=rfl
  have s2:zc (tNm 19) (q5 (bfN 2 [.bool false]) [14,15,16] Jj (za 14) [(za 19)]) base (upd U 55 (.mref W.length)) (W ++ [[]])=some (.next,upd (upd U 55 (.mref W.length)) 19 (.str t),W ++ [[]]):=
   zj ((Qx (i:=i) (a:= .str t) r14 r19).trans (zfy ht1 (zm (by lia))))
  have s3:ju (Z2 (za 55) (za 19)) base (upd (upd U 55 (.mref W.length)) 19 (.str t)) (W ++ [[]])=some (.next,upd (upd U 55 (.mref W.length)) 19 (.str t),(W ++ [[]]).set W.length ([] ++ [PV.str t])):=
   zej rfl rfl (by simp) (by lia) (by simp)
  have e3:(W ++ [[]]).set W.length ([] ++ [PV.str t])=W ++ [[.str t]]:=by simp
  rw [e3] at s3
  have s4:Q8 false (jn [(tNm 54),(tNm 6)]) (zb8 (za 20)) Qz base (upd (upd U 55 (.mref W.length)) 19 (.str t)) (W ++ [[.str t]])=some (.next,upd (upd U 55 (.mref W.length)) 19 (.str t),W ++ [[.str t]]):=by
   unfold Q8
   rw [show zb8 (za 20) (zdd false base (W ++ [[PV.str t]]).length) (upd (upd U 55 (.mref W.length)) 19 (.str t)) (W ++ [[PV.str t]])=some [] from by
    unfold zb8;rw [show za 20 (upd (upd U 55 (.mref W.length)) 19 (.str t)) (W ++ [[PV.str t]])=some .emp from r20]]
   rfl
  have hj:zf Qn ((dC (.str [59,32]))::[(za 55)]) (upd (upd U 55 (.mref W.length)) 19 (.str t)) (W ++ [[.str t]])=some (.str t):=by
   rw [je (a:= .str [59,32]) (b:= .mref W.length) rfl rfl]
   have hd:dr (W ++ [[PV.str t]]) (.mref W.length)= .lst [.str t]:=by
    show (match (W ++ [[PV.str t]])[W.length]? with | some l=> PV.lst l | none=> PV.mref W.length)=_
    simp
   show onL _ (dr (W ++ [[PV.str t]]) (.mref W.length))=_
   rw [hd]
   show (if za4 [59,32] [t]=true then some (PV.str (Txt.join (mk [59,32]) [mk t]).cps.toList) else none)=_
   rw [if_pos (by unfold za4;exact yd (by simp;lia))]
   rw [show (Txt.join (mk [59,32]) [mk t])=mk t from by simp [Txt.join,mk,Builtin.Str.glued]]
  have s5:ju (Z2 (zaa (za 14)) (qy [(q5 (bfN 2 [.bool true]) [14,15,16] Jj (za 14) [(za 18)]),(zf Qn ((dC (.str [59,32]))::[(za 55)]))])) base (upd (upd U 55 (.mref W.length)) 19 (.str t)) (W ++ [[.str t]])=some (.next,upd (upd U 55 (.mref W.length)) 19 (.str t),(W ++ [[PV.str t]]).set i (L ++ [hp (n,t)])):=by
   refine zej (j:=i) ?_ ?_ (by rw [List.getElem?_append_left hlt];exact hi) hb hL
   ·unfold zaa;rw [show za 14 (upd (upd U 55 (.mref W.length)) 19 (.str t)) (W ++ [[.str t]])=some (.hdr i) from r14]
   ·unfold qy
    rw [zt ((Qx (i:=i) (a:= .str n) r14 r18).trans (zfy hn1 (zm (by lia)))) (zt hj rfl)]
    rfl
  have e5:(W ++ [[PV.str t]]).set i (L ++ [hp (n,t)])=W.set i (L ++ [hp (n,t)]) ++ [[.str t]]:=by rw [List.set_append_left _ _ hlt]
  rw [e5] at s5
  have s6:sIf (tOf (d2 Jw (za 19) (dC .none))) (zb (zc (tNm 19) (q5 (bfN 2 [.bool false]) [14,15,16] Jj (za 14) [(za 19)])) (zb (ju (Z2 (za 55) (za 19))) zl)) zl base (upd U 55 (.mref W.length)) (W ++ [[]])=some (.next,upd (upd U 55 (.mref W.length)) 19 (.str t),W ++ [[.str t]]):=by
   rw [Z6 (by rw [qb (zp (a:= .str t) (b:= .none) r19 rfl)];rfl),zd s2,zd s3];rfl
  unfold jd
  rw [zd s1,zd s6,zd s4,zd s5];rfl
 unfold fnP
 show (match jd base (qw [14,18,19,20] [.hdr i,.str n,.str t,.emp] Zy) W with
  | some (fl,_,W')=> some (zrh fl,W')
  | none=> none)=_
 rw [key];rfl
end
section
theorem zrc {W:Sto}{i:Nat}{l:List PV} (h:W[i]? =some l):dr W (.mref i)= .lst l:=by
 show (match W[i]? with | some l=> PV.lst l | none=> PV.mref i)=_
 rw [h]
theorem zfv {f:Den}{U:Ren}{W:Sto}{i:Nat} (h:f U W=some (.hdr i)):zaa f U W=some (.mref i):=by unfold zaa;rw [h]
theorem zf0 {f:Den}{base i:Nat}{U:Ren}{W:Sto}{l:List PV} (h:f U W=some (.mref i)) (hi:W[i]? =some l) (hb:i < base) (hl:l.length≤1000):fIt f base U W=some l:=by
 unfold fIt;rw [h]
 show (if decide (i < base)=true then pIt W (.mref i) else none)=_
 rw [if_pos (yd hb)]
 unfold pIt;rw [zrc hi]
 show (if ze l.length=true then some l else none)=_
 rw [if_pos (zm (by lia))]
theorem zcn:∀ l:List (List Nat),ztt (l.map .str)=true
 | []=> rfl
 | x::l=> by exact zcn l
theorem zdc (W:Sto) (a b:List Nat):zv W (.str a) (.str b)=some (.bool (a==b)):=rfl
theorem zhg (W:Sto) (a b:List Nat):qr W (.str a) (.str b)=some (.bool (!(a==b))):=rfl
theorem trB (W:Sto) (b:Bool):pTr W (.bool b)=some b:=rfl
def ze7 (L:List (List Nat×List Nat)) (n:List Nat):List (List Nat):=(L.filter fun p=> qi p.1==qi n).map (·.2)
theorem zju {U:Ren}{W:Sto}{p:List Nat×List Nat}{m:List Nat}{f:Den} (hf:f U W=some (.str p.1)) (h2:U 16=some (.str m)) (hl:jk p.1=true):tOf (d2 zv (zf Z7 (f::[])) (za 16)) U W=some (qi p.1==m):=by
 rw [qb ((zp ((qq hf).trans (zhd hl)) h2).trans (zdc _ _ _)),trB]
theorem zg1 {W:Sto}{i:Nat}{L:List (List Nat×List Nat)}{n:List Nat} (hi:W[i]? =some (L.map hp)) (hL:L.length≤1000) (hn:jk n=true) (hn2:Qo (qi n)=true) (hLn:∀ p∈L,jk p.1=true):
  fnV (bfN 2 []) [14,16] jp W [.hdr i,.str n]=some (.lst ((ze7 L n).map .str)):=by
 have hlt:i < W.length:=(xe.mp hi).1
 obtain ⟨a1,a2⟩:=zbm hn2
 refine zao (bps:=[.hdr i,.str n]) rfl ?_ (zcn _)
 have s1:q5 (bfN 2 [.bool true]) [14,15,16] Jj (za 14) [(zf Z7 ((za 16)::[]))] (qw [14,16] [.hdr i,.str n] Zy) W=some (.str (qi n)):=
  (Qx (i:=i) rfl ((qq (a:= .str n) rfl).trans (zhd hn))).trans (zfy a1 (zm (by lia)))
 refine Ret.next (zj s1) (Ret.seq (Ret.ret ?_))
 generalize hUu:upd (qw [14,16] [.hdr i,.str n] Zy) 16 (.str (qi n))=U
 have r14:U 14=some (.hdr i):=by rw [←hUu];rfl
 have r16:U 16=some (.str (qi n)):=by rw [←hUu];rfl
 refine qm (zf0 (zfv r14) hi hlt (by simpa using hL)) ((jx hp (fun q=> qi q.1==qi n) (fun q=> .str q.2) L fun q hq=> ?_).trans ?_) ?_
 ·refine ⟨_,rfl, ?_,fun V=> rfl⟩
  exact zju (p:=q) rfl (by show zq [16] U 16=_;exact r16) (hLn q hq)
 ·congr 1
  unfold ze7
  rw [xq]
  rfl
 ·rw [xc];refine zm ?_
  unfold ze7
  rw [xc];have:=yb (fun p:List Nat×List Nat=> qi p.1==qi n) L;lia
theorem zuh {W:Sto}{i:Nat}{L:List (List Nat×List Nat)} (hi:W[i]? =some (L.map hp)) (hL:L.length≤1000):fnV (bfN 1 []) [14] zb1 W [.hdr i]=some (.lst ((L.map (·.2)).map .str)):=by
 have hlt:i < W.length:=(xe.mp hi).1
 refine zao (bps:=[.hdr i]) rfl (Ret.seq (Ret.ret ?_)) (zcn _)
 refine qm (zf0 (zfv rfl) hi hlt (by simpa using hL)) ((Za hp (fun q=> .str q.2) L fun q V=> ⟨_,rfl,rfl⟩).trans ?_) ?_
 ·rw [xq];rfl
 ·simp;exact zm (by lia)
theorem zbv {α:Type}:∀ (x:List α),(List.range x.length).filterMap (x[·]?)=x
 | []=> rfl
 | a::x=> by
  rw [List.length_cons,List.range_succ_eq_map,List.filterMap_cons,List.filterMap_map]
  have:=zbv x
  simpa [Function.comp_def] using this
theorem zw4 (L:List (List Nat×List Nat)):ztt (L.map hp)=true:=by
 induction L with
 | nil=> rfl
 | cons q L ih=> exact ih
theorem ztf {W:Sto}{i:Nat}{L:List (List Nat×List Nat)} (hi:W[i]? =some (L.map hp)) (hL:L.length=16):fnV (bfN 1 []) [14] zfu W [.hdr i]=some (.lst (L.map hp)):=by
 refine zao (bps:=[.hdr i]) rfl (Ret.seq (Ret.ret ?_)) (zw4 L)
 unfold qg
 rw [zfv (i:=i) rfl]
 show zcb W (.mref i) none none none=_
 unfold zcb sl0
 rw [zrc hi]
 dsimp only
 rw [if_neg (by simp [hL];decide)]
 have e:sliceRange (sliceBounds none none none 16).1 (sliceBounds none none none 16).2.1 (sliceBounds none none none 16).2.2=List.range 16:=by decide +kernel
 rw [xc,hL,e]
 have:=zbv (L.map hp)
 rw [xc,hL] at this
 rw [this]
theorem zs1 {U:Ren}{W:Sto}{base:Nat}{m:List Nat}:∀ (L:List (List Nat×List Nat)) (U:Ren),U 16=some (.str m)→(∀ p∈L,jk p.1=true)→
  match L.find? (fun p=> qi p.1==m) with
  | some p=> ∃ U',zbz (jn [(tNm 54),(tNm 6)]) (zb (sIf (tOf (d2 zv (zf Z7 ((za 54)::[])) (za 16))) (zb (j8 (za 6)) zl) zl) zl) base (L.map hp) U W=some (.ret (.str p.2),U',W)
  | none=> ∃ U',zbz (jn [(tNm 54),(tNm 6)]) (zb (sIf (tOf (d2 zv (zf Z7 ((za 54)::[])) (za 16))) (zb (j8 (za 6)) zl) zl) zl) base (L.map hp) U W=some (.next,U',W)∧∀ j,j≠54→j≠6→U' j=U j:=by
 intro L
 induction L with
 | nil=> intro U h1 h2;exact ⟨U,rfl,fun V V V=> rfl⟩
 | cons p L ih=>
  intro U h1 h2
  have hc:tOf (d2 zv (zf Z7 ((za 54)::[])) (za 16)) (upd (upd U 54 (.str p.1)) 6 (.str p.2)) W=some (qi p.1==m):=zju (p:=p) rfl h1 (h2 p xk)
  rw [List.find?_cons,List.map_cons]
  have ht:jn [(tNm 54),(tNm 6)] (hp p) U=some (upd (upd U 54 (.str p.1)) 6 (.str p.2)):=rfl
  cases hb:qi p.1==m with
  | true=>
   rw [hb] at hc
   refine ⟨upd (upd U 54 (.str p.1)) 6 (.str p.2), ?_⟩
   have:zb (sIf (tOf (d2 zv (zf Z7 ((za 54)::[])) (za 16))) (zb (j8 (za 6)) zl) zl) zl base (upd (upd U 54 (.str p.1)) 6 (.str p.2)) W=some (.ret (.str p.2),upd (upd U 54 (.str p.1)) 6 (.str p.2),W):=by
    unfold zb;rw [Z6 hc];rfl
   exact zwh ht this
  | false=>
   rw [hb] at hc
   dsimp only
   have:zb (sIf (tOf (d2 zv (zf Z7 ((za 54)::[])) (za 16))) (zb (j8 (za 6)) zl) zl) zl base (upd (upd U 54 (.str p.1)) 6 (.str p.2)) W=some (.next,upd (upd U 54 (.str p.1)) 6 (.str p.2),W):=by
    unfold zb;rw [zll hc];rfl
   rw [Zi ht this]
   have:=ih (upd (upd U 54 (.str p.1)) 6 (.str p.2)) h1 fun q hq=> h2 q (xf _ hq)
   cases hf:L.find? (fun p=> qi p.1==m) with
   | some q=> rw [hf] at this;exact this
   | none=>
    rw [hf] at this
    refine bc fun J=> ?_
    obtain ⟨U',e,k⟩:=this
    refine J ?_
    refine ⟨U',e,fun j h1 h2=> (k j h1 h2).trans ?_⟩
    unfold upd;rw [if_neg h2,if_neg h1]
def zrj (L:List (List Nat×List Nat)) (n:List Nat):PV:=match L.find? (fun p=> qi p.1==qi n) with | some p=> .str p.2 | none=> .none
theorem z3j {W:Sto}{i:Nat}{L:List (List Nat×List Nat)}{n:List Nat} (hi:W[i]? =some (L.map hp)) (hL:L.length≤1000) (hn:jk n=true) (hn2:Qo (qi n)=true) (hLn:∀ p∈L,jk p.1=true):
  fnV (bfN 2 [.none]) [14,16,17] zmc W [.hdr i,.str n]=some (zrj L n):=by
 have hlt:i < W.length:=(xe.mp hi).1
 obtain ⟨a1,a2⟩:=zbm hn2
 have s1:q5 (bfN 2 [.bool true]) [14,15,16] Jj (za 14) [(zf Z7 ((za 16)::[]))] (qw [14,16,17] [.hdr i,.str n,.none] Zy) W=some (.str (qi n)):=
  (Qx (i:=i) rfl ((qq (a:= .str n) rfl).trans (zhd hn))).trans (zfy a1 (zm (by lia)))
 refine zao (bps:=[.hdr i,.str n,.none]) rfl (Ret.next (zj s1) ?_) (by unfold zrj;split <;> rfl)
 generalize hUu:upd (qw [14,16,17] [.hdr i,.str n,.none] Zy) 16 (.str (qi n))=U
 have r14:U 14=some (.hdr i):=by rw [←hUu];rfl
 have r16:U 16=some (.str (qi n)):=by rw [←hUu];rfl
 have r17:U 17=some .none:=by rw [←hUu];rfl
 have hit:fIt (zaa (za 14)) (zdd true W.length W.length) U W=some (L.map hp):=zf0 (zfv r14) hi (by unfold zdd;simp;exact hlt) (by simpa using hL)
 have:=zs1 (U:=U) (W:=W) (base:=zdd true W.length W.length) L U r16 hLn
 unfold zrj
 cases hf:L.find? (fun p=> qi p.1==qi n) with
 | some p=>
  rw [hf] at this
  obtain ⟨U',e⟩:=this
  refine Ret.seq ⟨U',W, ?_⟩
  unfold Q8;rw [hit];exact e
 | none=>
  rw [hf] at this
  refine bc fun J=> ?_
  obtain ⟨U',e,k⟩:=this
  refine J ?_
  refine Ret.next (U1:=U') (W1:=W) (by unfold Q8;rw [hit];exact e) (Ret.seq (Ret.ret ?_))
  show U' 17=_
  rw [k 17 (by decide) (by decide)];exact r17
theorem za1 {p:Nat→Bool}:∀ {n s r:Nat},jc p n s=some r→∀ j,s≤j→j < r→p j=false
 | 0,_,_,h=> by exact nn h
 | n + 1,s,r,h=> by
  rw [Zq] at h
  intro j h1 h2
  by_cases hp:p s=true
  ·rw [if_pos hp] at h;cases si h;exact absurd ‹_› (Nat.not_lt_of_le ‹_›)
  ·rw [if_neg hp] at h
   by_cases hj:j=s
   ·subst hj;simpa using hp
   ·exact za1 h j (by lia) h2
theorem zb9 {p:Nat→Bool}:∀ {n s:Nat},jc p n s=none→∀ j,s≤j→j < s + n→p j=false
 | 0,_,_=> by intro j h1 h2;exact absurd ‹_› (Nat.not_lt_of_le ‹_›)
 | n + 1,s,h=> by
  rw [Zq] at h
  intro j h1 h2
  by_cases hp:p s=true
  ·rw [if_pos hp] at h;exact nomatch h
  ·rw [if_neg hp] at h
   by_cases hj:j=s
   ·subst hj;simpa using hp
   ·exact zb9 h j (by lia) (by lia)
noncomputable def Qj (l:List Str):List Nat:=(l.map fun s=> s.cps.toList).flatten
theorem zjo:∀ l:List Str,(Txt.join (mk []) l).cps.toList=Qj l
 | []=> rfl
 | a::l=> by
  have h:∀ (l:List Str) (acc:Array Nat),(l.foldl (fun acc p=> acc ++ (mk []).cps ++ p.cps) acc).toList=acc.toList ++ Qj l:=by
   intro l
   induction l with
   | nil=> intro acc;simp [Qj]
   | cons b l ih=> intro acc;simp only [List.foldl_cons,ih];simp [Qj,mk]
  refine (?_:(Builtin.Str.glued (mk []) (a::l)).cps.toList=_)
  unfold Builtin.Str.glued
  refine (?_:((l.foldl (fun acc p=> acc ++ (mk []).cps ++ p.cps) a.cps)).toList=_)
  rw [h];simp [Qj]
theorem zj6 {x:List Nat}{p:Nat→Bool}{e:Nat→Nat}{f:Nat→Option (Nat×Nat)}{r:List Nat} (hf:∀ d,f d=(jc p (x.length - d) d).map fun s=> (s,e s)) (he:∀ s,s < x.length→p s=true→s < e s∧e s≤x.length)
  {g:Nat→List Nat→List Nat} (g0:∀ d,g d []=[]) (gno:∀ d c t,d < x.length→x.drop d=c::t→p d=false→g d (c::t)=c::g (d + 1) t) (gyes:∀ d c t,d < x.length→x.drop d=c::t→p d=true→g d (c::t)=r ++ g (e d) (x.drop (e d))):
  ∀ (n d:Nat),d≤x.length→x.length - d < n→Qj (Qr f x.toArray (mk r) n d)=g d (x.drop d):=by
 have walk:∀ (k d:Nat),d + k≤x.length→(∀ j,d≤j→j < d + k→p j=false)→g d (x.drop d)=(x.drop d).take k ++ g (d + k) (x.drop (d + k)):=by
  intro k
  induction k with
  | zero=> intro d h1 h2;simp
  | succ k ih=>
   intro d h1 h2
   have hd:d < x.length:=by lia
   have e1:x.drop d=x[d]::x.drop (d + 1):=List.drop_eq_getElem_cons hd
   simp only [e1,gno d _ _ hd e1 (h2 d (x9 _) (by lia)),ih (d + 1) (by lia) fun j a b=> h2 j (by lia) (by lia)]
   simp only [List.take_succ_cons,List.cons_append,show d + 1 + k=d + (k + 1) by lia]
 intro n
 induction n with
 | zero=> intro d h1 h2;lia
 | succ n ih=>
  intro d h1 h2
  unfold Qr
  rw [hf]
  cases hr:jc p (x.length - d) d with
  | none=>
   have:=walk (x.length - d) d (by lia) (zb9 hr)
   rw [this,show d + (x.length - d)=x.length by lia,List.drop_length,g0]
   dsimp only [Option.map]
   by_cases hd:d < x.toArray.size
   ·rw [if_pos hd];simp [Qj]
   ·rw [if_neg hd]
    have:d=x.length:=by simp at hd;lia
    subst this;simp [Qj]
  | some s=>
   obtain ⟨a1,a2,a3⟩:=Zp hr
   have hs:s < x.length:=by lia
   obtain ⟨b1,b2⟩:=he s hs a3
   have:=walk (s - d) d (by lia) fun j u v=> za1 hr j u (by lia)
   rw [this,show d + (s - d)=s by lia]
   have e1:x.drop s=x[s]::x.drop (s + 1):=List.drop_eq_getElem_cons hs
   rw [e1,gyes s _ _ hs e1 a3]
   dsimp only [Option.map]
   have ihs:=ih (e s) b2 (by lia)
   have hcons:∀ (l1 l2:List Str),Qj (l1 ++ mk r::l2)=Qj l1 ++ (r ++ Qj l2):=by intro l1 l2;simp [Qj,mk]
   simp only [hcons,ihs]
   congr 1
   by_cases hd:d < s
   ·rw [if_pos hd];simp [Qj,List.take_drop]
   ·rw [if_neg hd,show s - d=0 by lia];simp [Qj]
noncomputable def jz:Bool→List Nat→List Nat
 | _,[]=> []
 | b,c::t=> if b && c==10 then jz false t else if c==10 || c==13 then 13::10::jz (c==13) t else c::jz false t
theorem zdi:∀ l:List Nat,jz true l=if l.head? ==some 10 then jz false l.tail else jz false l
 | []=> rfl
 | c::t=> by
  by_cases hc:c=10
  ·subst hc;rfl
  ·have h1:(c==10)=false:=by simpa using hc
   have h2:((c::t).head? ==some 10)=false:=by simpa using hc
   rw [h2,if_neg (by decide)]
   show (if (true && c==10)=true then _ else _)=(if (false && c==10)=true then _ else _)
   rw [h1];rfl
def zaq (l:List Nat):List Nat:=jz false l
noncomputable def Qg:Bool→List Nat→List Nat
 | _,[]=> []
 | b,c::t=> if b && c==46 then 46::46::Qg false t else c::Qg (c==10) t
theorem zhl:zaq []=[]:=rfl
theorem zex (c:Nat) (t:List Nat):zaq (c::t)=if c==10 || c==13 then 13::10::(if c==13 && t.head? ==some 10 then zaq t.tail else zaq t) else c::zaq t:=by
 show (if c==10 || c==13 then 13::10::jz (c==13) t else c::jz false t)=_
 cases hc:c==13 with
 | false=> rfl
 | true=> rw [zdi];rfl
theorem zdt {x:List Nat}{d c:Nat}{t:List Nat} (h:x.drop d=c::t):x.toArray[d]?.getD 0=c∧x.drop (d + 1)=t∧d < x.length:=by
 have hd:d < x.length:=by
  by_cases hd:d < x.length
  ·exact hd
  ·rw [List.drop_eq_nil_of_le (by exact Nat.not_lt.mp ‹_›)] at h;exact nomatch h
 have e1:x.drop d=x[d]::x.drop (d + 1):=List.drop_eq_getElem_cons hd
 rw [h] at e1;injection e1 with e1 e2
 exact ⟨by simp [hd,←e1],e2.symm,hd⟩
theorem zjl {x:List Nat}{d:Nat}:(x.drop d).head? =x[d]? :=by
 rw [List.head?_drop]
set_option tactic.hygienic true in
theorem zkd (x:List Nat):Qj (Zf zdz [13,10] x)=zaq x:=by
 unfold Zf
 rw [zj6 (x:=x) (p:=Jo x.toArray) (e:=Q2 x.toArray) (f:=zdz x.toArray) (g:=fun V l=> zaq l) (fun d=> by unfold zdz;simp) ?_ (fun V=> zhl) ?_ ?_ (x.length + 1) 0 (yc _) (by lia)]
 ·rfl
 ·intro s hs hp'
  unfold Q2
  split
  ·rename_i h;have:=h.2.1;simp at this;lia
  ·lia
 ·intro d c t hd h hp'
  obtain ⟨a1,a2,_⟩:=zdt h
  rw [zex]
  unfold Jo at hp'
  rw [a1] at hp'
  rw [hp',if_neg (by decide)]
 ·intro d c t hd h hp'
  obtain ⟨a1,a2,_⟩:=zdt h
  rw [zex]
  unfold Jo at hp'
  rw [a1] at hp'
  rw [hp',if_pos rfl]
  unfold Q2
  rw [a1]
  by_cases hc:c=13∧d + 1 < x.toArray.size∧x.toArray[d + 1]?.getD 0=10
  ·rw [if_pos hc]
   refine bc fun J=> ?_
   obtain ⟨h1,h2,h3⟩:=hc
   refine J ?_
   have ht:t.head? =some 10:=by
    simp only [←a2,zjl]
    have h2':d + 1 < x.length:=h2
    simp [h2'] at h3⊢;exact h3
   rw [if_pos (by rw [h1,ht];rfl)]
   have:t.tail=x.drop (d + 2):=by simp only [←a2,List.tail_drop]
   rw [this];rfl
  ·rw [if_neg hc,a2]
   have:(c==13 && t.head? ==some 10)=false:=by
    rw [Bool.and_eq_false_iff]
    by_cases h1:c=13
    ·right
     rw [←a2,zjl]
     by_cases h2:d + 1 < x.length
     ·have h3:¬x.toArray[d + 1]?.getD 0=10:=fun h3=> hc ⟨h1,h2,h3⟩
      simp [h2] at h3⊢;exact h3
     ·rw [List.getElem?_eq_none (by exact Nat.not_lt.mp ‹_›)];rfl
    ·left;simpa using h1
   rw [this];rfl
theorem zkc (x:List Nat):Qj (Zf zdy [46,46] x)=Qg true x:=by
 unfold Zf
 have hprev:∀ d c t,x.drop d=c::t→(decide (d + 1=0∨x.toArray[d + 1 - 1]?.getD 0=10))=(c==10):=by
  intro d c t h
  obtain ⟨a1,_,_⟩:=zdt h
  simp only [show d + 1 - 1=d by lia,a1]
  by_cases hc:c=10 <;> simp [hc]
 rw [zj6 (x:=x) (p:=zbu x.toArray) (e:=fun s=> s + 1) (f:=zdy x.toArray) (g:=fun d l=> Qg (decide (d=0∨x.toArray[d - 1]?.getD 0=10)) l) (fun d=> by unfold zdy;simp) ?_ (fun V=> rfl) ?_ ?_ (x.length + 1) 0 (yc _) (by lia)]
 ·rfl
 ·intro s hs hp';lia
 ·intro d c t hd h hp'
  obtain ⟨a1,a2,_⟩:=zdt h
  unfold zbu at hp'
  rw [a1] at hp'
  have:(decide (d=0∨x.toArray[d - 1]?.getD 0=10) && c==46)=false:=by
   simp only [←hp'];congr 1
  rw [hprev d c t h]
  show (if (decide (d=0∨x.toArray[d - 1]?.getD 0=10) && c==46)=true then 46::46::Qg false t else c::Qg (c==10) t)=_
  rw [this,if_neg (by decide)]
 ·intro d c t hd h hp'
  obtain ⟨a1,a2,_⟩:=zdt h
  unfold zbu at hp'
  rw [a1] at hp'
  have h46:c=46:=by simp only [xi] at hp';simpa using hp'.2
  have:(decide (d=0∨x.toArray[d - 1]?.getD 0=10) && c==46)=true:=by
   simp only [←hp'];congr 1
  simp only [hprev d c t h,a2]
  show (if (decide (d=0∨x.toArray[d - 1]?.getD 0=10) && c==46)=true then 46::46::Qg false t else c::Qg (c==10) t)=_
  rw [this,if_pos rfl,h46];rfl
theorem zhu {x:List Nat}{r:List Nat}{f:Nat→Option (Nat×Nat)} (hf:∀ d b e,f d=some (b,e)→d≤b∧b < e∧e≤x.length):∀ (n d:Nat),d≤x.length→(Qr f x.toArray (mk r) n d).length≤2 * (x.length - d) + 1
 | 0,d,h=> by unfold Qr;simp
 | n + 1,d,h=> by
  unfold Qr
  cases hfd:f d with
  | none=> dsimp only;split <;> simp
  | some q=>
   refine bc fun J=> ?_
   obtain ⟨b,e⟩:=q
   obtain ⟨h1,h2,h3⟩:=hf d b e hfd
   refine J ?_
   have ih:=zhu (r:=r) hf n e h3
   dsimp only
   split
   ·simp;lia
   ·simp;lia
theorem zhk:∀ (n:Nat) (l:List Nat),l.length≤n→(zaq l).length≤2 * l.length
 | 0,l,h=> by (have:l=[]:=List.length_eq_zero_iff.mp (by lia));subst this;simp only [zhl];simp
 | n + 1,[],h=> by simp only [zhl];simp
 | n + 1,c::t,h=> by
  rw [zex]
  have h1:=zhk n t (by simp at h;omega)
  have h2:=zhk n t.tail (by simp at h⊢;exact Nat.le_succ_of_le ‹_›)
  split
  ·split
   ·simp at h2⊢;lia
   ·simp;lia
  ·simp;lia
theorem zd2 {l:List Str} (h:(Qj l).length≤100000) (h2:l.length≤100000):JoinOk (mk []) l=true:=by
 refine joinOk_of ?_
 have:(l.map fun (y:Str)=> y.length).sum=(Qj l).length:=by
  unfold Qj
  simp only [List.length_flatten,xq]
  congr 1
 rw [this,show (mk []).length=0 from rfl]
 have:sizeLine=16777216:=rfl
 lia
theorem zl6 {W:Sto}{x:List Nat} (hx:x.length≤1000):fnV (bfN 1 []) [8] jo W [.str x]=some (.str (Qg true (zaq x))):=by
 have dots_len:∀ (l:List Nat) (b:Bool),(Qg b l).length≤2 * l.length:=by
  intro l
  induction l with
  | nil=> intro b;simp [Qg]
  | cons c t ih=>
   intro b
   refine (?_:(if (b && c==46)=true then 46::46::Qg false t else c::Qg (c==10) t).length≤_)
   have h1:=ih false
   have h2:=ih (c==10)
   split <;> (simp;lia)
 have hn:=zhk x.length x (x9 _)
 have s2:zbl 43 48 W [.raw 48,.str [13,10],.str x]=some (.str (zaq x)):=by
  have hl:(Zf zdz [13,10] x).length≤2 * (x.length - 0) + 1:=zhu (fun d b e h=> by have:=(zwa x.toArray).in_ d b e h;simpa using this) _ _ (yc _)
  refine (?_:(if (ze x.length && !([13,10]:List Nat).contains 92)=true then (if (48:Nat)=43 then _ else if (48:Nat)=48 then (if (decide ((Zf zdz [13,10] x).length < sizeLine) && JoinOk (mk []) (Zf zdz [13,10] x))=true then some (PV.str (Txt.join (mk []) (Zf zdz [13,10] x)).cps.toList) else none) else none) else none)=_)
  rw [if_pos (by rw [zm (by lia)];rfl),if_neg (by decide),if_pos rfl,if_pos,zjo,zkd]
  simp only [xi]
  exact ⟨yd (by (have:sizeLine=16777216:=rfl);lia),zd2 (by rw [zkd];lia) (by lia)⟩
 have s1:zbl 43 48 W [.raw 43,.str [46,46],.str (zaq x)]=some (.str (Qg true (zaq x))):=by
  have hd:=dots_len (zaq x) true
  have hl:(Zf zdy [46,46] (zaq x)).length≤2 * ((zaq x).length - 0) + 1:=zhu (fun d b e h=> by have:=(zv9 (zaq x).toArray).in_ d b e h;simpa using this) _ _ (yc _)
  refine (?_:(if (ze (zaq x).length && !([46,46]:List Nat).contains 92)=true then (if (43:Nat)=43 then (if (decide ((Zf zdy [46,46] (zaq x)).length < sizeLine) && JoinOk (mk []) (Zf zdy [46,46] (zaq x)))=true then some (PV.str (Txt.join (mk []) (Zf zdy [46,46] (zaq x))).cps.toList) else none) else _) else none)=_)
  rw [if_pos (by rw [zm (by lia)];rfl),if_pos rfl,if_pos,zjo,zkc]
  simp only [xi]
  exact ⟨yd (by (have:sizeLine=16777216:=rfl);lia),zd2 (by rw [zkc];lia) (by lia)⟩
 refine zao (bps:=[.str x]) rfl (Ret.seq (Ret.ret ?_)) rfl
 have e2:zf (zbl 43 48) ((dC (.raw 48))::[(dC (.str [13,10])),(za 8)]) (qw [8] [.str x] Zy) W=some (.str (zaq x)):=
  (zmp (zt (p:= .raw 48) rfl (zt (p:= .str [13,10]) rfl (zt (p:= .str x) rfl rfl)))).trans s2
 exact (zmp (zt (p:= .raw 43) rfl (zt (p:= .str [46,46]) rfl (zt e2 rfl)))).trans s1
def qd (x:List Nat):List Nat:=Qg true (jz false x)
theorem zbn {W:Sto}{x:List Nat} (hx:x.length≤1000):fnV (bfN 1 []) [8] jo W [.str x]=some (.str (qd x)):=by
 exact zl6 hx
theorem Zd {f g:Den}{U:Ren}{W:Sto}{a b:Nat} (hf:f U W=some (.int a)) (hg:g U W=some (.int b)) (h0:0 < b) (h1:b < 1073741824):d2 zo f g U W=some (.int (a / b:Nat)):=by
 rw [zp hf hg]
 show (if ((b:Int))≠0∧((b:Int)).natAbs < 1073741824 then some (PV.int ((a:Int).fdiv b)) else none)=_
 rw [if_pos ⟨by lia,by lia⟩,Int.fdiv_eq_ediv_of_nonneg _ (by lia)];rfl
theorem Zl {f g:Den}{U:Ren}{W:Sto}{a b:Nat} (hf:f U W=some (.int a)) (hg:g U W=some (.int b)) (h0:0 < b):d2 jt f g U W=some (.int (a % b:Nat)):=by
 rw [zp hf hg]
 show (if ((b:Int))=0 then none else some (PV.int ((a:Int).fmod b)))=_
 rw [if_neg (by lia),Int.fmod_eq_emod_of_nonneg _ (by lia)];rfl
theorem zxr {g:Den}{U:Ren}{W:Sto}{c k:Nat} (hc:c=2∨c=3) (hk:k < 20) (hg:g U W=some (.int k)):d2 Qc (dC (.int c)) g U W=some (.int (c ^ k:Nat)):=by
 rw [zp (a:= .int c) rfl hg]
 show (if 0≤(k:Int)∧(Builtin.Int.intBits (c:Int):Int) * k≤2 ^ 27 then some (PV.int ((c:Int) ^ ((k:Int)).toNat)) else none)=_
 have hb:Builtin.Int.intBits (c:Int)=2:=by rcases hc with rfl | rfl <;> decide
 rw [if_pos ⟨by lia,by rw [hb];(have:(k:Int) < 20:=by lia);(have:((2:Nat):Int) * k≤40:=by lia);exact Int.le_trans this (by decide)⟩]
 simp
theorem zf8 {g:Den}{U:Ren}{W:Sto}{k:Nat} (hk:k < 20) (hg:g U W=some (.int k)):d2 Qc (dC (.int 2)) g U W=some (.int (2 ^ k:Nat)):=zxr (c:=2) (.inl rfl) hk hg
theorem z0t {g:Den}{U:Ren}{W:Sto}{k:Nat} (hk:k < 20) (hg:g U W=some (.int k)):d2 Qc (dC (.int 3)) g U W=some (.int (3 ^ k:Nat)):=zxr (c:=3) (.inr rfl) hk hg
theorem zcr {k:Nat} (hk:k < 10):(2:Nat) ^ k < 1073741824:=Nat.lt_of_lt_of_le (Nat.pow_lt_pow_right (by decide) hk) (by decide)
theorem zqk {k:Nat} (hk:k < 10):(3:Nat) ^ k < 1073741824:=Nat.lt_of_lt_of_le (Nat.pow_lt_pow_right (by decide) hk) (by decide)
theorem Qf {U:Ren}{W:Sto}{c0 c1 c2:Nat} (h:U 68=some (.lst [.int c0,.int c1,.int c2])):
  d2 zn (za 68) (dC (.int 0)) U W=some (.int c0)∧d2 zn (za 68) (dC (.int 1)) U W=some (.int c1)∧d2 zn (za 68) (dC (.int 2)) U W=some (.int c2):=
 ⟨(zp (a:= .lst [.int c0,.int c1,.int c2]) h rfl).trans rfl,(zp (a:= .lst [.int c0,.int c1,.int c2]) h rfl).trans rfl,(zp (a:= .lst [.int c0,.int c1,.int c2]) h rfl).trans rfl⟩
noncomputable def zgg:List (Nat×Nat):=[(97,97),(97,98),(98,98),(97,99),(98,99),(99,99),(97,100),(98,100),(99,100),(100,100)]
noncomputable def Q7 (p:Nat×Nat):PV:= .tup [.str [p.1],.str [p.2]]
def qf (T:Nat):List (Nat×Nat):=(zgg.zipIdx.filter fun p=> T.testBit p.2).map (·.1)
theorem z44 (base:Nat) (U:Ren) (W:Sto):L3 base U W=some (.next,upd U 99 (.lst (zgg.map Q7)),W):=by rfl
theorem zje {α:Type} (f:α→PV) (l:List α):za0 (l.map f)=l.zipIdx.map fun p=> .tup [.int (p.2:Int),f p.1]:=by
 unfold za0;rw [List.zipIdx_map,xq];rfl
theorem zqv (a k:Nat):(((a / 2 ^ k % 2:Nat):Int)==1)=a.testBit k:=by
 rw [Nat.testBit_eq_decide_div_mod_eq]
 generalize a / 2 ^ k % 2=m
 by_cases h:m=1
 ·subst h;rfl
 ·rw [decide_eq_false h];exact beq_eq_false_iff_ne.mpr (by lia)
theorem zek (W:Sto) (a b:Int):zv W (.int a) (.int b)=some (.bool (a==b)):=rfl
theorem zkh {α:Type}{l:List α}{p:α×Nat} (h:p∈l.zipIdx):p.2 < l.length:=by
 obtain ⟨a,i⟩:=p
 have:=List.mem_zipIdx h
 lia
theorem z45 {base:Nat}{U:Ren}{W:Sto}{c0 c1 c2:Nat} (h1:U 68=some (.lst [.int c0,.int c1,.int c2])) (h2:U 99=some (.lst (zgg.map Q7))):
  L4 base U W=some (.next,upd U 97 (.lst ((qf c0).map Q7)),W):=by
 refine zj (qm ((zel h2 rfl).trans (congrArg some (zje _ _))) ((jx (fun q:(Nat×Nat)×Nat=> .tup [.int (q.2:Int),Q7 q.1]) (fun q=> c0.testBit q.2) (fun q=> Q7 q.1) zgg.zipIdx fun q hq=> ?_).trans ?_) ?_)
 ·have hk:=zkh hq
  refine ⟨_,rfl, ?_,fun V=> rfl⟩
  have hc:=(Qf (U:=upd (upd (zq [68] U) 54 (.int (q.2:Int))) 100 (Q7 q.1)) (W:=W) (c0:=c0) (c1:=c1) (c2:=c2) h1).1
  have hk':q.2 < 10:=hk
  refine (qb ((zp (Zl (b:=2) (Zd hc (zf8 (by lia) rfl) (Nat.pos_of_ne_zero (by simp)) (zcr hk')) rfl (by decide)) (b:= .int 1) rfl).trans (zek _ _ _))).trans ?_
  rw [trB,zqv]
 ·congr 1
  unfold qf
  rw [xq]
  rfl
 ·rw [xc];unfold qf;rw [xc];exact zm (x8 (yb _ _) (by decide))
theorem z46 (base:Nat) (U:Ren) (W:Sto):L5 base U W=some (.next,upd U 96 (.hdr W.length),W ++ [[]]):=rfl
noncomputable def zjv (l:List (Nat×Nat)):List (Nat×Nat):=l.flatMap fun p=> p::if p.1=p.2 then [] else [(p.2,p.1)]
def zto (H:List (List Nat×List Nat)):List (List Nat×List Nat):=H.map fun p=> (qi p.1,p.2)
noncomputable def zxa (p:Nat×Nat):List Nat×List Nat:=([p.1],[p.2])
structure NetOk (H:List (List Nat×List Nat)) (l:List (Nat×Nat)):Prop where
 low:zto H=(zjv l).map zxa
 ok:∀ p∈H,jk p.1=true
noncomputable def qe (c:Nat):Prop:=c=97∨c=98∨c=99∨c=100
theorem Jf {c:Nat} (h:qe c):Qo [c]=true∧Qo [c - 32]=true∧qi [c]=[c]∧qi [c - 32]=[c]∧jk [c]=true∧jk [c - 32]=true:=by
 rcases h with rfl | rfl | rfl | rfl <;> decide +kernel
theorem zh8 {U:Ren}{W:Sto}{f:Den}{c:Nat} (hc:qe c) (hf:f U W=some (.str [c])):zf Zx (f::[]) U W=some (.str [c - 32]):=by
 rw [qq hf]
 rcases hc with rfl | rfl | rfl | rfl <;> rfl
theorem z25 {U:Ren}{W:Sto}{c0 c1 c2 k:Nat} (h1:U 68=some (.lst [.int c0,.int c1,.int c2])) (h2:U 54=some (.int k)) (hk:k < 10):
  (d2 jt (d2 zo (d2 zo (d2 zn (za 68) (dC (.int 0))) (dC (.int 1024))) (d2 Qc (dC (.int 2)) (za 54))) (dC (.int 2))) U W=some (.int (c0 / 1024 / 2 ^ k % 2:Nat)):=
 Zl (b:=2) (Zd (Zd (b:=1024) (Qf h1).1 rfl (by decide) (by decide)) (zf8 (by lia) h2) (Nat.pos_of_ne_zero (by simp)) (zcr hk)) rfl (by decide)
theorem z1s {U:Ren}{W:Sto}{f g h:Den}{a b:List Nat}{j:Nat} (hf:f U W=some (.str a)) (hg:g U W=some (.str b)) (hh:h U W=some (.int j)) (hj:j < 2):d2 zn (qy [f,g]) h U W=some (.str (if j=0 then a else b)):=by
 have ht:qy [f,g] U W=some (.tup [.str a,.str b]):=by unfold qy;rw [zt hf (zt hg rfl)];rfl
 rw [zp ht hh]
 have:j=0∨j=1:=by lia
 rcases this with rfl | rfl <;> rfl
theorem zyo {U:Ren}{W:Sto}{c0 c1 c2 k u v i:Nat}{H:List (List Nat×List Nat)} (hc:U 68=some (.lst [.int c0,.int c1,.int c2])) (hn:U 96=some (.hdr i)) (hk:k < 10) (hu:qe u) (hv:qe v) (hi:W[i]? =some (H.map hp)) (hH:H.length≤500):
  ∃ W' H',zb zym (zb zsn zl) 0 (upd (upd (upd U 54 (.int k)) 98 (.str [u])) 6 (.str [v])) W=some (.next,upd (upd (upd U 54 (.int k)) 98 (.str [u])) 6 (.str [v]),W')∧W'[i]? =some ((H ++ H').map hp)∧H'.length≤2∧NetOk H' [(u,v)]:=by
 generalize hUu:upd (upd (upd U 54 (.int k)) 98 (.str [u])) 6 (.str [v])=r
 have r68:r 68=some (.lst [.int c0,.int c1,.int c2]):=by rw [←hUu];exact hc
 have r96:r 96=some (.hdr i):=by rw [←hUu];exact hn
 have r54:r 54=some (.int k):=by rw [←hUu];rfl
 have r98:r 98=some (.str [u]):=by rw [←hUu];rfl
 have r6:r 6=some (.str [v]):=by rw [←hUu];rfl
 have hj:c0 / 1024 / 2 ^ k % 2 < 2:=Nat.mod_lt _ (by decide)
 generalize hb:c0 / 1024 / 2 ^ k % 2=j at hj
 have hbit:∀ W,(d2 jt (d2 zo (d2 zo (d2 zn (za 68) (dC (.int 0))) (dC (.int 1024))) (d2 Qc (dC (.int 2)) (za 54))) (dC (.int 2))) r W=some (.int j):=fun W=> hb▸z25 r68 r54 hk
 refine bc fun J=> ?_
 obtain ⟨u1,u2,u3,u4,u5,u6⟩:=Jf hu
 obtain ⟨v1,v2,v3,v4,v5,v6⟩:=Jf hv
 refine J ?_
 have ilt:i < W.length:=(xe.mp hi).1
 have n1p:Qo (if j=0 then [u] else [u - 32])=true:=by split;exact u1;exact u2
 have s1:zym 0 r W=some (.next,r,W.set i (H.map hp ++ [hp ((if j=0 then [u] else [u - 32]),[v])]) ++ [[.str [v]]]):=by
  refine zgu (i:=i) (ps:=[.str (if j=0 then [u] else [u - 32]),.str [v]]) r96 ?_ (zo2 hi (by simp;lia) n1p v1 0 (yc _))
  exact zt (z1s (a:=[u]) (b:=[u - 32]) r98 (zh8 hu r98) (hbit W) hj) (zt r6 rfl)
 generalize hW1:W.set i (H.map hp ++ [hp ((if j=0 then [u] else [u - 32]),[v])]) ++ [[.str [v]]]=W1 at s1
 have hi1:W1[i]? =some ((H ++ [((if j=0 then [u] else [u - 32]),[v])]).map hp):=by
  rw [←hW1,List.getElem?_append_left (by simpa using ilt),List.getElem?_set_self ilt];simp
 have low1:qi (if j=0 then [u] else [u - 32])=[u]:=by split;exact u3;exact u4
 have ok1:jk (if j=0 then [u] else [u - 32])=true:=by split;exact u5;exact u6
 rw [zd s1]
 have tne:tOf (d2 qr (za 98) (za 6)) r W1=some (!([u]==[v])):=by rw [qb ((zp r98 r6).trans (zhg _ _ _)),trB]
 by_cases huv:u=v
 ·refine ⟨W1,[((if j=0 then [u] else [u - 32]),[v])], ?_,hi1,by simp, ?_⟩
  ·have:zsn 0 r W1=some (.next,r,W1):=Jd (by rw [tne,huv];simp)
   rw [zd this];rfl
  ·refine ⟨?_, ?_⟩
   ·subst huv;unfold zto zjv;simp [low1,zxa]
   ·intro p hp';simp at hp';subst hp';exact ok1
 ·have n2p:Qo (if j=0 then [v - 32] else [v])=true:=by split;exact v2;exact v1
  have low2:qi (if j=0 then [v - 32] else [v])=[v]:=by split;exact v4;exact v3
  have ok2:jk (if j=0 then [v - 32] else [v])=true:=by split;exact v6;exact v5
  have ilt1:i < W1.length:=(xe.mp hi1).1
  have s2:zsn 0 r W1=some (.next,r,W1.set i ((H ++ [((if j=0 then [u] else [u - 32]),[v])]).map hp ++ [hp ((if j=0 then [v - 32] else [v]),[u])]) ++ [[.str [u]]]):=by
   unfold zsn
   rw [Z6 (by rw [tne];simpa using huv)]
   have:ju (zcz (bfN 3 [.emp]) [14,18,19,20] jd (za 96) [(d2 zn (qy [(zf Zx ((za 6)::[])),(za 6)]) (d2 jt (d2 zo (d2 zo (d2 zn (za 68) (dC (.int 0))) (dC (.int 1024))) (d2 Qc (dC (.int 2)) (za 54))) (dC (.int 2)))),(za 98)]) 0 r W1=some (.next,r,W1.set i ((H ++ [((if j=0 then [u] else [u - 32]),[v])]).map hp ++ [hp ((if j=0 then [v - 32] else [v]),[u])]) ++ [[.str [u]]]):=by
    refine zgu (i:=i) (ps:=[.str (if j=0 then [v - 32] else [v]),.str [u]]) r96 ?_ (zo2 hi1 (by simp;lia) n2p u1 0 (yc _))
    exact zt (z1s (a:=[v - 32]) (b:=[v]) (zh8 hv r6) r6 (hbit W1) hj) (zt r98 rfl)
   rw [zd this];rfl
  rw [zd s2]
  refine ⟨_,[((if j=0 then [u] else [u - 32]),[v]),((if j=0 then [v - 32] else [v]),[u])],rfl, ?_,by simp, ?_⟩
  ·rw [List.getElem?_append_left (by simpa using ilt1),List.getElem?_set_self ilt1];simp
  ·refine ⟨?_, ?_⟩
   ·unfold zto zjv;simp [low1,low2,huv,zxa]
   ·intro p hp';simp at hp';rcases hp' with rfl | rfl;exact ok1;exact ok2
theorem NetOk.nil:NetOk [] []:=⟨rfl,nofun⟩
theorem NetOk.app {H H':List (List Nat×List Nat)}{l l':List (Nat×Nat)} (a:NetOk H l) (b:NetOk H' l'):NetOk (H ++ H') (l ++ l'):=by
 refine ⟨?_,fun p hp'=> ?_⟩
 ·have h1:=a.low;have h2:=b.low
  unfold zto zjv at *
  rw [List.map_append,h1,h2,List.flatMap_append,List.map_append]
 ·rcases List.mem_append.mp hp' with h | h
  ·exact a.ok p h
  ·exact b.ok p h
def itP (p:(Nat×Nat)×Nat):PV:= .tup [.int (p.2:Int),Q7 p.1]
theorem zyn {c0 c1 c2 i:Nat}:∀ (its:List ((Nat×Nat)×Nat)) (U:Ren) (W:Sto) (H:List (List Nat×List Nat)),(∀ p∈its,p.2 < 10∧qe p.1.1∧qe p.1.2)→
  U 68=some (.lst [.int c0,.int c1,.int c2])→U 96=some (.hdr i)→W[i]? =some (H.map hp)→H.length + 2 * its.length≤500→
  ∃ U' W' H',zbz (jn [(tNm 54),(jn [(tNm 98),(tNm 6)])]) (zb zym (zb zsn zl)) 0 (its.map itP) U W=some (.next,U',W')∧W'[i]? =some ((H ++ H').map hp)∧NetOk H' (its.map (·.1))∧H'.length≤2 * its.length∧(∀ j,j≠54→j≠98→j≠6→U' j=U j):=by
 intro its
 induction its with
 | nil=> intro U W H _ h1 h2 h3 h4;exact ⟨U,W,[],rfl,by simpa using h3,.nil,by simp,fun V V V V=> rfl⟩
 | cons p its ih=>
  intro U W H hl h1 h2 h3 h4
  refine bc fun J=> ?_
  obtain ⟨⟨u,v⟩,k⟩:=p
  obtain ⟨hk,hu,hv⟩:=hl _ xk
  simp only at hk hu hv
  simp only [List.length_cons] at h4
  obtain ⟨W1,H1,e1,i1,l1,n1⟩:=zyo (U:=U) (W:=W) h1 h2 hk hu hv h3 (by lia)
  obtain ⟨U',W',H',e2,i2,n2,l2,k2⟩:=ih (upd (upd (upd U 54 (.int k)) 98 (.str [u])) 6 (.str [v])) W1 (H ++ H1) (fun q hq=> hl q (xf _ hq)) h1 h2 i1 (by simp;lia)
  refine J ?_
  refine ⟨U',W',H1 ++ H', ?_,by rw [←List.append_assoc];exact i2, ?_,by simp;lia,fun j a b c=> ?_⟩
  ·rw [List.map_cons]
   have ht:jn [(tNm 54),(jn [(tNm 98),(tNm 6)])] (itP ((u,v),k)) U=some (upd (upd (upd U 54 (.int k)) 98 (.str [u])) 6 (.str [v])):=rfl
   exact (Zi ht e1).trans e2
  ·exact NetOk.app n1 n2
  ·rw [k2 j a b c];unfold upd;rw [if_neg c,if_neg b,if_neg a]
theorem zk9:∀ p∈zgg,qe p.1∧qe p.2:=by unfold qe;decide
theorem zue {T:Nat}{p:Nat×Nat} (h:p∈qf T):p∈zgg:=by
 unfold qf at h
 obtain ⟨q,hq,rfl⟩:=xr.mp h
 have:=(List.mem_filter.mp hq).1
 obtain ⟨a,i⟩:=q
 exact (List.mem_zipIdx_iff_getElem?.mp this |> xw)
theorem zoi (T:Nat):(qf T).length≤10:=by
 unfold qf;rw [xc];exact yb _ _
theorem z47 {U:Ren}{W:Sto}{c0 c1 c2 i:Nat} (h1:U 68=some (.lst [.int c0,.int c1,.int c2])) (h2:U 97=some (.lst ((qf c0).map Q7))) (h3:U 96=some (.hdr i)) (h4:W[i]? =some []):
  ∃ U' W' H,L6 0 U W=some (.next,U',W')∧W'[i]? =some (H.map hp)∧NetOk H (qf c0)∧H.length≤20∧(∀ j,j≠54→j≠98→j≠6→U' j=U j):=by
 have hlen:=zoi c0
 refine bc fun J=> ?_
 obtain ⟨U',W',H',e,a,b,c,d⟩:=zyn (c0:=c0) (c1:=c1) (c2:=c2) (i:=i) (qf c0).zipIdx U W [] (fun p hp'=> by
  have h5:=zkh hp'
  have h6:p.1∈qf c0:=by
   obtain ⟨a,i⟩:=p
   exact (List.mem_zipIdx_iff_getElem?.mp hp' |> xw)
  exact ⟨by lia,zk9 _ (zue h6)⟩) h1 h3 h4 (by simp;lia)
 refine J ?_
 refine ⟨U',W',H', ?_,by simpa using a, ?_,by simp at c;lia,d⟩
 ·unfold L6 Q8
  rw [zel h2 (by rw [xc];exact zm (by lia)),zje]
  exact e
 ·have:(qf c0).zipIdx.map (·.1)=qf c0:=by rw [List.zipIdx_map_fst]
  rw [this] at b;exact b
noncomputable def ze3 (l:List (Nat×Nat)):List PV:=l.map (fun p=> .str [p.1,p.2]) ++ (l.filter fun p=> !([p.1]==[p.2])).map fun p=> .str [p.2,p.1]
theorem z48 {base:Nat}{U:Ren}{W:Sto}{l:List (Nat×Nat)} (h:U 97=some (.lst (l.map Q7))) (hl:l.length≤10):L7 base U W=some (.next,upd U 73 (.lst (ze3 l)),W):=by
 have hfit:ze (l.map Q7).length=true:=by rw [xc];exact zm (by lia)
 have e1:qa [] (jn [(tNm 98),(tNm 6)]) (fIt (za 97)) qj (d2 zx (za 98) (za 6)) U W=some (.lst (l.map fun p=> .str [p.1,p.2])):=by
  refine qm (Qi h hfit) (Za Q7 (fun p=> .str [p.1,p.2]) l fun q V=> ⟨_,rfl,rfl⟩) (by rw [xc];exact zm (by lia))
 have e2:qa [] (jn [(tNm 98),(tNm 6)]) (fIt (za 97)) (tOf (d2 qr (za 98) (za 6))) (d2 zx (za 6) (za 98)) U W=some (.lst ((l.filter fun p=> !([p.1]==[p.2])).map fun p=> .str [p.2,p.1])):=by
  refine qm (Qi h hfit) (jx Q7 (fun p=> !([p.1]==[p.2])) (fun p=> .str [p.2,p.1]) l fun q V=> ?_) (by rw [xc];exact zm (by have:=yb (fun p:Nat×Nat=> !([p.1]==[p.2])) l;lia))
  ·refine ⟨_,rfl, ?_,fun V=> rfl⟩
   exact (qb ((zp (a:= .str [q.1]) (b:= .str [q.2]) rfl rfl).trans (zhg _ _ _))).trans (trB _ _)
 refine zj ((zp e1 e2).trans ?_)
 show (if ze _=true then some (PV.lst _) else none)=_
 rw [if_pos]
 ·rfl
 ·refine zm ?_
  have:=yb (fun p:Nat×Nat=> !([p.1]==[p.2])) l
  rw [xc,xc];lia
def zew (l:List (Nat×Nat)) (x:Nat):List Nat:=((zjv l).filter fun p=> p.1==x).map (·.2)
def ja (l:List (Nat×Nat)) (x:Nat):PV:= .lst ((zew l x).map fun y=> .str [y])
theorem zvg {H:List (List Nat×List Nat)}{l:List (Nat×Nat)} (n:NetOk H l) {x:Nat} (hx:qe x):ze7 H [x - 32]=(zew l x).map fun y=> [y]:=by
 obtain ⟨_,_,_,h4,_,_⟩:=Jf hx
 have h1:ze7 H [x - 32]=((zto H).filter fun p=> p.1==qi [x - 32]).map (·.2):=by
  unfold ze7 zto;rw [List.filter_map,xq];rfl
 rw [h1,n.low,h4]
 unfold zew
 rw [List.filter_map,xq,xq]
 have:((fun p:List Nat×List Nat=> p.1==[x])∘zxa)=fun p:Nat×Nat=> p.1==x:=by
  funext p;unfold zxa;simp [Function.comp]
 rw [this];rfl
theorem z49 {base:Nat}{U:Ren}{W:Sto}{i:Nat}{H:List (List Nat×List Nat)}{l:List (Nat×Nat)} (h1:U 96=some (.hdr i)) (hi:W[i]? =some (H.map hp)) (hH:H.length≤1000) (n:NetOk H l):
  L8 base U W=some (.next,upd U 86 (.dct [[97],[98],[99],[100]] [ja l 97,ja l 98,ja l 99,ja l 100]),W):=by
 have key:∀ x,qe x→q5 (bfN 2 []) [14,16] jp (za 96) [(zf Zx ((za 74)::[]))] (upd (zq [96] U) 74 (.str [x])) W=some (ja l x):=by
  intro x hx
  obtain ⟨a1,a2,a3,a4,a5,a6⟩:=Jf hx
  rw [Qx (i:=i) (a:= .str [x - 32]) h1 (zh8 hx rfl),zg1 hi hH a6 (by rw [a4];exact a1) n.ok,zvg n hx]
  unfold ja;rw [xq];rfl
 refine zj ?_
 unfold zk6
 have hit:fIt (dC (.str [97,98,99,100])) W.length U W=some [.str [97],.str [98],.str [99],.str [100]]:=rfl
 rw [hit]
 rw [Option.bind_some]
 have t:∀ (a:PV) (r:Ren),tNm 74 a r=some (upd r 74 a):=fun V V=> rfl
 have hb:∀ x,qe x→zy0 (za 74) (q5 (bfN 2 []) [14,16] jp (za 96) [(zf Zx ((za 74)::[]))]) (upd (zq [96] U) 74 (.str [x])) W=some [.tup [.str [x],ja l x]]:=by
  intro x hx
  unfold zy0
  rw [key x hx];rfl
 simp only [Z4,zax,t,qj,hb 97 (.inl rfl),hb 98 (.inr (.inl rfl)),hb 99 (.inr (.inr (.inl rfl))),hb 100 (.inr (.inr (.inr rfl))),List.nil_append,List.cons_append,Option.bind_some,Option.map_some,cond_true]
 rfl
theorem zj8 {j:Nat} (h:j < 1000):qx (j:Int)=true:=by
 have h1: -(2 ^ 63) < (j:Int):=by lia
 have h2:(j:Int) < 2 ^ 63:=by lia
 unfold qx;exact yd ⟨h1,h2⟩
noncomputable def J1:Nat→UInt64
 | 0=> 0
 | 1=> 0x3FD0000000000000
 | 2=> 0x3FE0000000000000
 | _=> 0x3FE8000000000000
theorem z5a (base:Nat) (U:Ren) (W:Sto):L9 base U W=some (.next,upd U 88 (.lst [.flt (J1 0),.flt (J1 1),.flt (J1 2),.flt (J1 3)]),W):=by kernel_rfl
theorem z17 (base:Nat) (U:Ren) (W:Sto):L10 base U W=some (.next,upd U 91 (.str []),W):=rfl
noncomputable def jh:List Nat:=[97,98,99,100]
def zj3 (o:List Nat):List Nat:=jh.filter fun x=> !o.contains x
def zw3 (o:List Nat) (j:Nat):List Nat:=o ++ [(zj3 o)[j]?.getD 0]
noncomputable def OS:Nat→List (List Nat)
 | 0=> [[]]
 | n + 1=> (OS n).flatMap fun o=> (zj3 o).map fun x=> o ++ [x]
theorem zyu:∀ n,n < 4→∀ o∈OS n,(zj3 o).length=4 - n∧∀ j,j < 4 - n→zw3 o j∈OS (n + 1):=by decide +kernel
theorem z2z:∀ n,n < 5→∀ o∈OS n,o.length=n:=by decide +kernel
theorem zt1 (W:Sto) (l:List PV) (i:Int):zn W (.lst l) (.int i)=itL l i:=rfl
theorem zdr {U:Ren}{W:Sto}{c0 c1 c2 b s n:Nat}{o:List Nat} (h1:U 68=some (.lst [.int c0,.int c1,.int c2])) (h2:U 91=some (.str o)) (hn:n < 4) (ho:o∈OS n) (hb:0 < b∧b < 100) (hs:s=4 - n):
  ∃ o',zb zut zl 0 (upd (upd U 94 (.int b)) 95 (.int s)) W=some (.next,upd (upd (upd U 94 (.int b)) 95 (.int s)) 91 (.str o'),W)∧o'∈OS (n + 1):=by
 refine bc fun J=> ?_
 obtain ⟨hl,hx⟩:=zyu n hn o ho
 refine J ?_
 have hol:=z2z n (by lia) o ho
 have hj:c1 / b % s < 4 - n:=by rw [hs];exact Nat.mod_lt _ (by lia)
 refine ⟨zw3 o (c1 / b % s), ?_,hx _ hj⟩
 generalize hr:upd (upd U 94 (.int b)) 95 (.int s)=r
 have r68:r 68=some (.lst [.int c0,.int c1,.int c2]):=by rw [←hr];exact h1
 have r91:r 91=some (.str o):=by rw [←hr];exact h2
 have r94:r 94=some (.int b):=by rw [←hr];rfl
 have r95:r 95=some (.int s):=by rw [←hr];rfl
 have e1:qa [91] (tNm 74) (fIt (dC (.str [97,98,99,100]))) (tOf (d2 zdl (za 74) (za 91))) (za 74) r W=some (.lst ((zj3 o).map fun x=> .str [x])):=by
  refine qm (its:=jh.map fun x=> .str [x]) rfl (jx _ (fun x=> !o.contains x) _ _ fun x V=> ?_) (by rw [xc,hl];exact zm (by lia))
  ·refine ⟨_,rfl, ?_,fun V=> rfl⟩
   exact (qb ((zp (a:= .str [x]) (b:= .str o) rfl r91).trans rfl)).trans (trB _ _)
 have e2:d2 jt (d2 zo (d2 zn (za 68) (dC (.int 1))) (za 94)) (za 95) r W=some (.int (c1 / b % s:Nat)):=
  Zl (Zd (Qf r68).2.1 r94 hb.1 (by lia)) r95 (by lia)
 have e3:zut 0 r W=some (.next,upd r 91 (.str (zw3 o (c1 / b % s))),W):=by
  refine zj ((zp r91 (((zp e1 e2).trans (c:=some (.str [(zj3 o)[c1 / b % s]?.getD 0])) ?_))).trans ?_)
  ·generalize c1 / b % s=j at hj
   refine (zt1 _ _ _).trans ?_
   unfold itL
   rw [zj8 (by lia),yd (Int.natCast_nonneg j),if_pos (by rfl:(true && true)=true),Int.toNat_natCast,List.getElem?_map]
   have:j < (zj3 o).length:=by lia
   simp [this]
  ·show (if ze (o.length + 1)=true then some (PV.str (o ++ _)) else none)=_
   rw [if_pos (zm (by lia))];rfl
 rw [zd e3];rfl
theorem z18 {U:Ren}{W:Sto}{c0 c1 c2:Nat} (h1:U 68=some (.lst [.int c0,.int c1,.int c2])) (h2:U 91=some (.str [])):
  ∃ U' o,L11 0 U W=some (.next,U',W)∧o∈OS 4∧U' 91=some (.str o)∧∀ j,j≠91→j≠94→j≠95→U' j=U j:=by
 refine bc fun J=> ?_
 obtain ⟨o1,e1,m1⟩:=zdr (U:=U) (W:=W) (b:=1) (s:=4) (n:=0) h1 h2 (by decide) (by decide) (by decide) rfl
 refine J ?_
 generalize hU1:upd (upd (upd U 94 (.int (1:Nat))) 95 (.int (4:Nat))) 91 (.str o1)=U1 at e1
 have k1:∀ j,j≠91→j≠94→j≠95→U1 j=U j:=fun j a b c=> by rw [←hU1];unfold upd;rw [if_neg a,if_neg c,if_neg b]
 refine bc fun J=> ?_
 obtain ⟨o2,e2,m2⟩:=zdr (U:=U1) (W:=W) (b:=4) (s:=3) (n:=1) (by rw [←hU1];exact h1) (by rw [←hU1];rfl) (by decide) m1 (by decide) rfl
 refine J ?_
 generalize hU2:upd (upd (upd U1 94 (.int (4:Nat))) 95 (.int (3:Nat))) 91 (.str o2)=U2 at e2
 have k2:∀ j,j≠91→j≠94→j≠95→U2 j=U j:=fun j a b c=> by rw [←hU2];unfold upd;rw [if_neg a,if_neg c,if_neg b,k1 j a b c]
 refine bc fun J=> ?_
 obtain ⟨o3,e3,m3⟩:=zdr (U:=U2) (W:=W) (b:=12) (s:=2) (n:=2) (by rw [k2 68 (by decide) (by decide) (by decide)];exact h1) (by rw [←hU2];rfl) (by decide) m2 (by decide) rfl
 refine J ?_
 generalize hU3:upd (upd (upd U2 94 (.int (12:Nat))) 95 (.int (2:Nat))) 91 (.str o3)=U3 at e3
 have k3:∀ j,j≠91→j≠94→j≠95→U3 j=U j:=fun j a b c=> by rw [←hU3];unfold upd;rw [if_neg a,if_neg c,if_neg b,k2 j a b c]
 refine bc fun J=> ?_
 obtain ⟨o4,e4,m4⟩:=zdr (U:=U3) (W:=W) (b:=24) (s:=1) (n:=3) (by rw [k3 68 (by decide) (by decide) (by decide)];exact h1) (by rw [←hU3];rfl) (by decide) m3 (by decide) rfl
 refine J ?_
 generalize hU4:upd (upd (upd U3 94 (.int (24:Nat))) 95 (.int (1:Nat))) 91 (.str o4)=U4 at e4
 have k4:∀ j,j≠91→j≠94→j≠95→U4 j=U j:=fun j a b c=> by rw [←hU4];unfold upd;rw [if_neg a,if_neg c,if_neg b,k3 j a b c]
 refine ⟨U4,o4, ?_,m4,by rw [←hU4];rfl,k4⟩
 unfold L11 Q8
 have hit:fIt (qy [(qy [(dC (.int 1)),(dC (.int 4))]),(qy [(dC (.int 4)),(dC (.int 3))]),(qy [(dC (.int 12)),(dC (.int 2))]),(qy [(dC (.int 24)),(dC (.int 1))])]) (zdd false 0 W.length) U W=some [.tup [.int (1:Nat),.int (4:Nat)],.tup [.int (4:Nat),.int (3:Nat)],.tup [.int (12:Nat),.int (2:Nat)],.tup [.int (24:Nat),.int (1:Nat)]]:=rfl
 rw [hit]
 have t:∀ (a b:PV) (r:Ren),jn [(tNm 94),(tNm 95)] (.tup [a,b]) r=some (upd (upd r 94 a) 95 b):=fun V V V=> rfl
 show zbz _ _ 0 _ U W=_
 exact (Zi (t _ _ _) e1).trans ((Zi (t _ _ _) e2).trans ((Zi (t _ _ _) e3).trans ((Zi (t _ _ _) e4).trans rfl)))
noncomputable def q0 (two:Bool) (x:Nat):List Nat:=if two then [46,46,x] else [46,x]
def za7 (f:Nat→Bool):PV:= .lst [.str (q0 (f 97) 97),.str (q0 (f 98) 98),.str (q0 (f 99) 99),.str (q0 (f 100) 100)]
theorem zvm (a k:Nat):a / 2 ^ k % 2=if a.testBit k then 1 else 0:=by
 rw [Nat.testBit_eq_decide_div_mod_eq]
 have:a / 2 ^ k % 2 < 2:=Nat.mod_lt _ (by decide)
 generalize a / 2 ^ k % 2=m at this
 have:m=0∨m=1:=by lia
 rcases this with rfl | rfl <;> rfl
def zql:Den:=(d2 zx (d2 j3 (dC (.str [46])) (d2 zx (dC (.int 1)) (d2 jt (d2 zo (d2 zo (d2 zn (za 68) (dC (.int 1))) (dC (.int 24))) (d2 Qc (dC (.int 2)) (za 54))) (dC (.int 2))))) (za 74))
theorem z4c {U:Ren}{W:Sto}{c0 c1 c2 k x:Nat} (h1:U 68=some (.lst [.int c0,.int c1,.int c2])) (h2:U 54=some (.int k)) (h3:U 74=some (.str [x])) (hk:k < 10):zql U W=some (.str (q0 ((c1 / 24).testBit k) x)):=by
 have e:(d2 jt (d2 zo (d2 zo (d2 zn (za 68) (dC (.int 1))) (dC (.int 24))) (d2 Qc (dC (.int 2)) (za 54))) (dC (.int 2))) U W=some (.int (c1 / 24 / 2 ^ k % 2:Nat)):=
  Zl (b:=2) (Zd (Zd (b:=24) (Qf h1).2.1 rfl (by decide) (by decide)) (zf8 (by lia) h2) (Nat.pos_of_ne_zero (by simp)) (zcr hk)) rfl (by decide)
 rw [zvm] at e
 generalize (c1 / 24).testBit k=t at e
 refine (zp (a:= .str (if t then [46,46] else [46])) (b:= .str [x]) ((zp (a:= .str [46]) (b:= .int (if t then 2 else 1)) rfl ((zp (a:= .int 1) rfl e).trans ?_)).trans ?_) h3).trans ?_
 ·cases t <;> rfl
 ·cases t <;> rfl
 ·cases t <;> rfl
theorem z19 {base:Nat}{U:Ren}{W:Sto}{c0 c1 c2:Nat} (h1:U 68=some (.lst [.int c0,.int c1,.int c2])):
  L12 base U W=some (.next,upd U 81 (za7 fun x=> (c1 / 24).testBit (x - 97)),W):=by
 refine zj (qm (its:=[.tup [.int (0:Nat),.str [97]],.tup [.int (1:Nat),.str [98]],.tup [.int (2:Nat),.str [99]],.tup [.int (3:Nat),.str [100]]]) rfl ?_ rfl)
 have t:∀ (a b:PV) (r:Ren),jn [(tNm 54),(tNm 74)] (.tup [a,b]) r=some (upd (upd r 54 a) 74 b):=fun V V V=> rfl
 have e:∀ k x,k < 10→zql (upd (upd (zq [68] U) 54 (.int (k:Nat))) 74 (.str [x])) W=some (.str (q0 ((c1 / 24).testBit k) x)):=fun k x hk=> z4c (c0:=c0) (c2:=c2) h1 rfl rfl hk
 show j6 _ qj (J5 zql) _ W _=_
 simp only [j6,t,qj,J5,e 0 97 (by decide),e 1 98 (by decide),e 2 99 (by decide),e 3 100 (by decide),List.nil_append,List.cons_append,Option.bind_some,Option.map_some,cond_true]
noncomputable def Z1:Nat→List Nat
 | 0=> []
 | 1=> [32]
 | _=> [9]
theorem zuc {U:Ren}{W:Sto}{f:Den}{j:Nat} (h:f U W=some (.int j)) (hj:j < 3):d2 zn (qy [(dC (.str [])),(dC (.str [32])),(dC (.str [9]))]) f U W=some (.str (Z1 j)):=by
 have ht:qy [(dC (.str [])),(dC (.str [32])),(dC (.str [9]))] U W=some (.tup [.str [],.str [32],.str [9]]):=rfl
 rw [zp ht h]
 have:j=0∨j=1∨j=2:=by lia
 rcases this with rfl | rfl | rfl <;> rfl
def zse:Den:=(d2 zn (qy [(dC (.str [])),(dC (.str [32])),(dC (.str [9]))]) (d2 jt (d2 zo (d2 zo (d2 zn (za 68) (dC (.int 1))) (dC (.int 384))) (d2 Qc (dC (.int 3)) (za 54))) (dC (.int 3))))
def zh6 (t:Nat→Nat):PV:= .lst [.str (Z1 (t 0)),.str (Z1 (t 1)),.str (Z1 (t 2)),.str (Z1 (t 3))]
theorem z2a {base:Nat}{U:Ren}{W:Sto}{c0 c1 c2:Nat} (h1:U 68=some (.lst [.int c0,.int c1,.int c2])):
  L13 base U W=some (.next,upd U 69 (zh6 fun k=> c1 / 384 / 3 ^ k % 3),W):=by
 refine zj (qm (its:=[.int (0:Nat),.int (1:Nat),.int (2:Nat),.int (3:Nat)]) rfl ?_ rfl)
 have t:∀ (a:PV) (r:Ren),tNm 54 a r=some (upd r 54 a):=fun V V=> rfl
 have e:∀ k,k < 10→zse (upd (zq [68] U) 54 (.int (k:Nat))) W=some (.str (Z1 (c1 / 384 / 3 ^ k % 3))):=fun k hk=>
  zuc (Zl (b:=3) (Zd (Zd (b:=384) (Qf (c0:=c0) (c2:=c2) h1).2.1 rfl (by decide) (by decide)) (z0t (by lia) rfl) (Nat.pos_of_ne_zero (by simp)) (zqk hk)) rfl (by decide)) (Nat.mod_lt _ (by decide))
 show j6 _ qj (J5 zse) _ W _=_
 simp only [j6,t,qj,J5,e 0 (by decide),e 1 (by decide),e 2 (by decide),e 3 (by decide),List.nil_append,List.cons_append,Option.bind_some,Option.map_some,cond_true]
theorem z2b {base:Nat}{U:Ren}{W:Sto}{c0 c1 c2:Nat} (h1:U 68=some (.lst [.int c0,.int c1,.int c2])):L14 base U W=some (.next,upd U 63 (.str [128 + c2 % 128]),W):=by
 have hlt:c2 % 128 < 128:=Nat.mod_lt _ (by decide)
 refine zj ((qq ((zp (a:= .int 128) rfl (Zl (b:=128) (Qf h1).2.2 rfl (by decide))).trans rfl)).trans ?_)
 generalize c2 % 128=s at hlt
 show (if 0≤(128 + (s:Int))∧(128 + (s:Int))≤1114111 then some (PV.str [(128 + (s:Int)).toNat]) else none)=_
 rw [if_pos ⟨by lia,by lia⟩]
 congr 3
theorem z2c {base:Nat}{U:Ren}{W:Sto}{c0 c1 c2:Nat} (h1:U 68=some (.lst [.int c0,.int c1,.int c2])):L15 base U W=some (.next,upd U 67 (.int (6 + c2 / 128 % 4:Nat)),W):=
 zj ((zp (a:= .int 6) rfl (Zl (b:=4) (Zd (b:=128) (Qf h1).2.2 rfl (by decide) (by decide)) rfl (by decide))).trans rfl)
noncomputable def jr:Nat→List Nat
 | 0=> [10]
 | 1=> [13,10]
 | _=> [13]
theorem zm3 {U:Ren}{W:Sto}{f:Den}{j:Nat} (h:f U W=some (.int j)) (hj:j < 3):d2 zn (qy [(dC (.str [10])),(dC (.str [13,10])),(dC (.str [13]))]) f U W=some (.str (jr j)):=by
 have ht:qy [(dC (.str [10])),(dC (.str [13,10])),(dC (.str [13]))] U W=some (.tup [.str [10],.str [13,10],.str [13]]):=rfl
 rw [zp ht h]
 have:j=0∨j=1∨j=2:=by lia
 rcases this with rfl | rfl | rfl <;> rfl
theorem z2d {base:Nat}{U:Ren}{W:Sto}{c0 c1 c2:Nat} (h1:U 68=some (.lst [.int c0,.int c1,.int c2])):L16 base U W=some (.next,upd U 12 (.str (jr (c2 / 512 % 3))),W):=
 zj (zm3 (Zl (b:=3) (Zd (b:=512) (Qf h1).2.2 rfl (by decide) (by decide)) rfl (by decide)) (Nat.mod_lt _ (by decide)))
theorem z2e {base:Nat}{U:Ren}{W:Sto}{c0 c1 c2:Nat} (h1:U 68=some (.lst [.int c0,.int c1,.int c2])):L17 base U W=some (.next,upd U 64 (.str (jr (c2 / 1536 % 3))),W):=
 zj (zm3 (Zl (b:=3) (Zd (b:=1536) (Qf h1).2.2 rfl (by decide) (by decide)) rfl (by decide)) (Nat.mod_lt _ (by decide)))
theorem z2f {base:Nat}{U:Ren}{W:Sto}{c0 c1 c2:Nat} (h1:U 68=some (.lst [.int c0,.int c1,.int c2])):L18 base U W=some (.next,upd U 44 (.int (c2 / 4608 % 64:Nat)),W):=
 zj (Zl (b:=64) (Zd (b:=4608) (Qf h1).2.2 rfl (by decide) (by decide)) rfl (by decide))
theorem z2g {base:Nat}{U:Ren}{W:Sto}{p:PV} (h:U 81=some p):L19 base U W=some (.next,upd U 70 p,W):=zj h
theorem z2h (base:Nat) (U:Ren) (W:Sto):L21 base U W=some (.next,upd U 82 (.str []),W):=rfl
theorem z2i (base:Nat) (U:Ren) (W:Sto):L22 base U W=some (.next,upd U 60 (.hdr W.length),W ++ [[]]):=rfl
theorem z2j (base:Nat) (U:Ren) (W:Sto):L23 base U W=some (.next,upd U 72 (.mref W.length),W ++ [[]]):=rfl
noncomputable def ltT (p:Nat):Nat×Nat×Nat×Nat:=
 let rise:=6 * p % 64
 let fall:=64 - rise
 match 6 * p / 64 with
 | 0=> (64,rise,0,0)
 | 1=> (fall,64,0,1)
 | 2=> (0,64,rise,1)
 | 3=> (0,fall,64,2)
 | 4=> (rise,0,64,2)
 | _=> (64,0,fall,0)
noncomputable def FLT:List UInt64:=[0,4607182418800017408,4611686018427387904,4613937818241073152,4616189618054758400,4617315517961601024,4618441417868443648,4619567317775286272,4620693217682128896,4621256167635550208,4621819117588971520,4622382067542392832,4622945017495814144,4623507967449235456,4624070917402656768,4624633867356078080,4625196817309499392,4625478292286210048,4625759767262920704,4626041242239631360,4626322717216342016,4626604192193052672,4626885667169763328,4627167142146473984,4627448617123184640,4627730092099895296,4628011567076605952,4628293042053316608,4628574517030027264,4628855992006737920,4629137466983448576,4629418941960159232,4629700416936869888,4629841154425225216,4629981891913580544,4630122629401935872,4630263366890291200,4630404104378646528,4630544841867001856,4630685579355357184,4630826316843712512,4630967054332067840,4631107791820423168,4631248529308778496,4631389266797133824,4631530004285489152,4631670741773844480,4631811479262199808,4631952216750555136,4632092954238910464,4632233691727265792,4632374429215621120,4632515166703976448,4632655904192331776,4632796641680687104,4632937379169042432,4633078116657397760,4633218854145753088,4633359591634108416,4633500329122463744,4633641066610819072,4633781804099174400,4633922541587529728,4634063279075885056,4634204016564240384]
noncomputable def HUE:List UInt64:=[0,4580160821035794432,4584664420663164928,4586916220476850176,4589168020290535424,4590293920197378048,4591419820104220672,4592545720011063296,4593671619917905920,4594234569871327232,4594797519824748544,4595360469778169856,4595923419731591168,4596486369685012480,4597049319638433792,4597612269591855104,4598175219545276416,4598456694521987072,4598738169498697728,4599019644475408384,4599301119452119040,4599582594428829696,4599864069405540352,4600145544382251008,4600427019358961664,4600708494335672320,4600989969312382976,4601271444289093632,4601552919265804288,4601834394242514944,4602115869219225600,4602397344195936256,4602678819172646912,4602819556661002240,4602960294149357568,4603101031637712896,4603241769126068224,4603382506614423552,4603523244102778880,4603663981591134208,4603804719079489536,4603945456567844864,4604086194056200192,4604226931544555520,4604367669032910848,4604508406521266176,4604649144009621504,4604789881497976832,4604930618986332160,4605071356474687488,4605212093963042816,4605352831451398144,4605493568939753472,4605634306428108800,4605775043916464128,4605915781404819456,4606056518893174784,4606197256381530112,4606337993869885440,4606478731358240768,4606619468846596096,4606760206334951424,4606900943823306752,4607041681311662080]
def zio (p:Nat):UInt64:=HUE.getD p 0
def z3y (kd:Nat) (top:Bool) (n:Nat):PV:=if kd=0 then .int n else if kd=1 && top then .int n else .flt (FLT.getD n 0)
def sgA (kd p:Nat):PV:=z3y kd ((ltT p).2.2.2==0) (ltT p).1
def sgB (kd p:Nat):PV:=z3y kd ((ltT p).2.2.2==1) (ltT p).2.1
def sgC (kd p:Nat):PV:=z3y kd ((ltT p).2.2.2==2) (ltT p).2.2.1
def zhv (kd p:Nat):PV:= .tup [sgA kd p,sgB kd p,sgC kd p]
noncomputable def eqN (a b:PV):Bool:=match a with
 | .int a=> match b with
  | .int b=> a==b
  | _=> false
 | .flt a=> match b with
  | .flt b=> a==b
  | _=> false
 | _=> false
theorem zpl {a b:PV} (h:eqN a b=true):a=b:=by
 have no:∀ {C:Prop},false=true→C:=fun e=> nomatch e
 cases a with
 | int a=> cases b with
  | int b=> exact congrArg _ (eq_of_beq h)
  | _=> exact no h
 | flt a=> cases b with
  | flt b=> exact congrArg _ (eq_of_beq h)
  | _=> exact no h
 | _=> exact no h
def is3 (r:Option PV) (a b c:PV):Bool:=match r with
 | some r=> match r with
  | .tup l=> match l with
   | [x,y,z]=> eqN x a && (eqN y b && eqN z c)
   | _=> false
  | _=> false
 | none=> false
theorem zep {r:Option PV}{a b c:PV} (h:is3 r a b c=true):r=some (.tup [a,b,c]):=by
 have no:∀ {C:Prop},false=true→C:=fun e=> nomatch e
 cases r with
 | none=> exact no h
 | some r=> cases r with
  | tup l=> match l,h with
   | [x,y,z],h=>
    obtain ⟨h1,h⟩:=Bool.and_eq_true_iff.mp h
    obtain ⟨h2,h3⟩:=Bool.and_eq_true_iff.mp h
    rw [zpl h1,zpl h2,zpl h3]
   | [],h=> exact no h
   | [_],h=> exact no h
   | [_,_],h=> exact no h
   | _::_::_::_::_,h=> exact no h
  | _=> exact no h
noncomputable def isF (r:Option PV):Bool:=match r with
 | some r=> match r with
  | .bool b=> !b
  | _=> false
 | none=> false
theorem zpw {r:Option PV} (h:isF r=true):r=some (.bool false):=by
 have no:∀ {C:Prop},false=true→C:=fun e=> nomatch e
 cases r with
 | none=> exact no h
 | some r=> cases r with
  | bool b=> cases b;rfl;exact no h
  | _=> exact no h
noncomputable def vOf (kd p:Nat):PV:=if kd=0 || (kd==1 && p !=32) then .int 64 else .flt 4634204016564240384
noncomputable def kdN (kd p:Nat):Nat:=if kd=0 || (kd==1 && p !=32) then 1 else 2
noncomputable def isI (r:Option PV) (n:Nat):Bool:=match r with
 | some r=> match r with
  | .int k=> k==n
  | _=> false
 | none=> false
theorem z3p {r:Option PV}{n:Nat} (h:isI r n=true):r=some (.int n):=by
 have no:∀ {C:Prop},false=true→C:=fun e=> nomatch e
 cases r with
 | none=> exact no h
 | some r=> cases r with
  | int k=> rw [eq_of_beq h]
  | _=> exact no h
noncomputable def zp8:UInt64:=4607182418800017408
def z27 (W:Sto) (kd p:Nat):Bool:=is3 (fnV (bfN 3 []) [1,2,3] zmd W [sgA kd p,sgB kd p,sgC kd p]) (.flt (zio p)) (.flt zp8) (vOf kd p)
def z26 (W:Sto) (kd p:Nat):Bool:=isF (qr W (zhv kd p) (zhv 0 p))
def z6y (W:Sto) (p:Nat):Bool:=is3 (fnV (bfN 1 []) [0] J8 W [.int (p:Nat)]) (sgA 0 p) (sgB 0 p) (sgC 0 p)
def z6z (U:Ren) (W:Sto) (p:Nat):Bool:=isI ((d2 zo (zf ziv [(d2 zx (d2 j3 (dC (.int 128)) (dC (.flt (zio p)))) (dC (.int 1)))]) (dC (.int 2))) U W) p
noncomputable def z6u:List UInt64:=[0,4580160821035794432,4584664420663164928,4586916220476850176,4589168020290535424,4590293920197378048,4591419820104220672,4592545720011063296,4593671619917905920,4594234569871327232,4594797519824748544,4595360469778169856,4595923419731591168,4596486369685012480,4597049319638433792,4597612269591855104,4598175219545276416,4598456694521987072,4598738169498697728,4599019644475408384,4599301119452119040,4599582594428829696,4599864069405540352,4600145544382251008,4600427019358961664,4600708494335672320,4600989969312382976,4601271444289093632,4601552919265804288,4601834394242514944,4602115869219225600,4602397344195936256,4602678819172646912,4602819556661002240,4602960294149357568,4603101031637712896,4603241769126068224,4603382506614423552,4603523244102778880,4603663981591134208,4603804719079489536,4603945456567844864,4604086194056200192,4604226931544555520,4604367669032910848,4604508406521266176,4604649144009621504,4604789881497976832,4604930618986332160,4605071356474687488,4605212093963042816,4605352831451398144,4605493568939753472,4605634306428108800,4605775043916464128,4605915781404819456,4606056518893174784,4606197256381530112,4606337993869885440,4606478731358240768,4606619468846596096,4606760206334951424,4606900943823306752,4607041681311662080,4607182418800017408,4607252787544195072,4607323156288372736,4607393525032550400,4607463893776728064,4607534262520905728,4607604631265083392,4607675000009261056,4607745368753438720,4607815737497616384,4607886106241794048,4607956474985971712,4608026843730149376,4608097212474327040,4608167581218504704,4608237949962682368,4608308318706860032,4608378687451037696,4608449056195215360,4608519424939393024,4608589793683570688,4608660162427748352,4608730531171926016,4608800899916103680,4608871268660281344,4608941637404459008,4609012006148636672,4609082374892814336,4609152743636992000,4609223112381169664,4609293481125347328,4609363849869524992,4609434218613702656,4609504587357880320,4609574956102057984,4609645324846235648,4609715693590413312,4609786062334590976,4609856431078768640,4609926799822946304,4609997168567123968,4610067537311301632,4610137906055479296,4610208274799656960,4610278643543834624,4610349012288012288,4610419381032189952,4610489749776367616]
def hs (n:Nat):UInt64:=z6u.getD n 0
def z6x (w p:Nat):Bool:=Float64.add (zio p) (J1 w)==hs (p + 16 * w)
def z5j (W:Sto) (kd n:Nat):Bool:=is3 (fnV (bfN 3 []) [4,5,6] zq1 W [.flt (hs n),.flt zp8,if kd=1 then .int 64 else .flt 4634204016564240384]) (sgA kd (n % 64)) (sgB kd (n % 64)) (sgC kd (n % 64))
theorem zfl {n:Nat}{f:Nat→Bool} (h:(List.range n).all f=true) {i:Nat} (hi:i < n):f i=true:=xo.mp h i (List.mem_range.mpr hi)
theorem R0 (W:Sto):(List.range 64).all (z27 W 0)=true:=by kernel_rfl
theorem R1 (W:Sto):(List.range 64).all (z27 W 1)=true:=by kernel_rfl
theorem R2 (W:Sto):(List.range 64).all (z27 W 2)=true:=by kernel_rfl
theorem C0 (W:Sto):(List.range 64).all (z26 W 0)=true:=by kernel_rfl
theorem C1' (W:Sto):(List.range 64).all (z26 W 1)=true:=by kernel_rfl
theorem C2' (W:Sto):(List.range 64).all (z26 W 2)=true:=by kernel_rfl
theorem LL (W:Sto):(List.range 64).all (z6y W)=true:=by kernel_rfl
theorem PP (U:Ren) (W:Sto):(List.range 64).all (z6z U W)=true:=by kernel_rfl
theorem AA:(List.range 4).all (fun w=> (List.range 64).all (z6x w))=true:=by kernel_rfl
theorem H1 (W:Sto):(List.range 112).all (z5j W 1)=true:=by kernel_rfl
theorem H2 (W:Sto):(List.range 112).all (z5j W 2)=true:=by kernel_rfl
noncomputable def zr (sep:List Nat) (r:List (List Nat)):List Nat:=(r.map fun y=> sep ++ y).flatten
def zu (sep:List Nat):List (List Nat)→List Nat
 | []=> []
 | y::r=> y ++ zr sep r
theorem ztk (sep:List Nat):∀ l:List (List Nat),(Txt.join (mk sep) (l.map mk)).cps.toList=zu sep l
 | []=> rfl
 | a::l=> by
  have h:∀ (l:List (List Nat)) (acc:Array Nat),((l.map mk).foldl (fun acc p=> acc ++ (mk sep).cps ++ p.cps) acc).toList=acc.toList ++ zr sep l:=by
   intro l
   induction l with
   | nil=> intro acc;simp [zr]
   | cons b l ih=> intro acc;simp only [List.map_cons,List.foldl_cons,ih];simp [zr,mk]
  refine (?_:(Builtin.Str.glued (mk sep) (mk a::l.map mk)).cps.toList=_)
  unfold Builtin.Str.glued
  refine (?_:(((l.map mk).foldl (fun acc p=> acc ++ (mk sep).cps ++ p.cps) (mk a).cps)).toList=_)
  rw [h];simp [zu,mk]
theorem zod:∀ l:List (List Nat),strs? (l.map .str)=some l
 | []=> rfl
 | x::l=> by rw [List.map_cons,strs?,zod l];rfl
theorem zf4 {W:Sto}{sep:List Nat}{l:List (List Nat)} (h:(l.map List.length).sum + l.length * sep.length≤100000):Qn W [.str sep,.lst (l.map .str)]=some (.str (zu sep l)):=by
 show (strs? (l.map .str)).bind (fun ys=> if za4 sep ys=true then some (PV.str (Txt.join (mk sep) (ys.map mk)).cps.toList) else none)=_
 simp only [zod,Option.bind_some]
 rw [if_pos (by unfold za4;exact yd (by lia)),ztk]
theorem zs9 (l:List Nat):zu [] (l.map fun x=> [x])=l:=by
 have h:∀ l:List Nat,zr [] (l.map fun x=> [x])=l:=by
  intro l
  induction l with
  | nil=> rfl
  | cons x l ih=>
   refine (?_:([] ++ [x]) ++ zr [] (l.map fun x=> [x])=_)
   rw [ih];rfl
 cases l with
 | nil=> rfl
 | cons x l=> show [x] ++ zr [] (l.map fun x=> [x])=_;rw [h];rfl
theorem zd1 {W:Sto}{l:List Nat} (h:l.length≤1000):Qn W [.str [],.lst (l.map fun x=> .str [x])]=some (.str l):=by
 have hs:((l.map fun x=> [x]).map List.length).sum=l.length:=by
  rw [xq]
  have:(List.length∘fun x:Nat=> [x])=fun V=> 1:=rfl
  rw [this];clear h this;induction l with
  | nil=> rfl
  | cons x l ih=> simp only [List.map_cons,List.sum_cons,ih,List.length_cons];exact Nat.add_comm _ _
 have:=zf4 (W:=W) (sep:=[]) (l:=l.map fun x=> [x]) (by rw [hs];simp;lia)
 rw [zs9,xq] at this
 exact this
noncomputable def zmr (r:List Nat):Bool:= !r.isEmpty && r.all fun c=> c !=10 && c !=13
theorem zca {t:List Nat}:∀ (r:List Nat),(r.all fun c=> c !=10 && c !=13)=true→jz false (r ++ t)=r ++ jz false t
 | [],_=> rfl
 | c::r,h=> by
  rw [List.all_cons,xi,xi,bne_iff_ne,bne_iff_ne] at h
  have ih:=zca (t:=t) r h.2
  refine (?_:(if (false && c==10)=true then _ else if (c==10 || c==13)=true then _ else c::jz false (r ++ t))=_)
  have h1:(c==10)=false:=beq_eq_false_iff_ne.mpr h.1.1
  have h2:(c==13)=false:=beq_eq_false_iff_ne.mpr h.1.2
  rw [h1,h2,ih];rfl
theorem zw6 {t:List Nat}{e:Nat} (ht:t.head? ≠some 10):jz false (jr e ++ t)=13::10::jz false t:=by
 have h3:jz true t=jz false t:=by
  rw [zdi,if_neg (by simpa using ht)]
 unfold jr
 split
 ·rfl
 ·rfl
 ·show 13::10::jz true t=_;rw [h3]
theorem zb5 {t:List Nat}:∀ (r:List Nat) (b:Bool),(r.all fun c=> c !=10 && c !=13)=true→r≠[]→Qg b (r ++ t)=(if b && r.head? ==some 46 then 46::r else r) ++ Qg false t
 | [],_,_,h=> absurd rfl h
 | c::r,b,h,_=> by
  rw [List.all_cons,xi,xi,bne_iff_ne,bne_iff_ne] at h
  have h1:(c==10)=false:=beq_eq_false_iff_ne.mpr h.1.1
  have hd:Qg false (r ++ t)=r ++ Qg false t:=by
   by_cases hr:r=[]
   ·subst hr;rfl
   ·have:=zb5 (t:=t) r false h.2 hr;simpa using this
  refine (?_:(if (b && c==46)=true then 46::46::Qg false (r ++ t) else c::Qg (c==10) (r ++ t))=_)
  rw [h1,hd]
  by_cases hc:(b && c==46)=true
  ·refine (if_pos hc).trans ?_
   have h2:c=46:=by simp only [xi] at hc;exact eq_of_beq hc.2
   have h3:b=true:=by simp only [xi] at hc;exact hc.1
   subst h2 h3;rfl
  ·refine (if_neg hc).trans ?_
   have h2:(b && (c::r).head? ==some 46)=false:=by
    have:((c::r).head? ==some 46)=(c==46):=by
     by_cases h:c=46 <;> simp [h]
    rw [this];simpa using hc
   rw [h2];rfl
noncomputable def ddR (r:List Nat):List Nat:=if r.head? ==some 46 then 46::r else r
theorem zi4 {r:List Nat} (h:zmr r=true):r≠[]∧(r.all fun c=> c !=10 && c !=13)=true:=by
 unfold zmr at h
 rw [xi] at h
 refine ⟨fun e=> ?_,h.2⟩
 subst e;simp at h
theorem zr6 {e:Nat}:∀ (r:List (List Nat)),(∀ y∈r,zmr y=true)→Qg false (jz false (zr (jr e) r))=zr [13,10] (r.map ddR)
 | [],_=> rfl
 | y::r,h=> by
  obtain ⟨h1,h2⟩:=zi4 (h y xk)
  have ih:=zr6 (e:=e) r fun z hz=> h z (xf _ hz)
  have e1:zr (jr e) (y::r)=jr e ++ (y ++ zr (jr e) r):=by unfold zr;simp
  have hh:(y ++ zr (jr e) r).head? ≠some 10:=by
   cases y with
   | nil=> exact absurd rfl h1
   | cons c y=>
    rw [List.all_cons,xi,xi,bne_iff_ne] at h2
    simpa using h2.1.1
  simp only [e1,zw6 hh,zca y h2]
  show 13::10::Qg true (y ++ jz false (zr (jr e) r))=_
  simp only [zb5 y true h2 h1,ih]
  unfold zr ddR
  simp
theorem z0v {e:Nat}{rs:List (List Nat)} (h:∀ y∈rs,zmr y=true):qd (zu (jr e) rs)=zu [13,10] (rs.map ddR):=by
 cases rs with
 | nil=> rfl
 | cons y r=>
  obtain ⟨h1,h2⟩:=zi4 (h y xk)
  show Qg true (jz false (y ++ zr (jr e) r))=_
  simp only [zca y h2,zb5 y true h2 h1,zr6 r fun z hz=> h z (xf _ hz)]
  rfl
open PySem.Builtin.Str PySem.StrLaws in
theorem zqi {x:List Nat}{sep:List Nat} (hs:sep=[10]∨sep=[13,10]∨sep=[13]):∀ (r:List (List Nat)) (y:List Nat) (a:Nat) (cuts:List Nat) (f:Nat),(∀ z∈y::r,(z.all fun c=> c !=10 && c !=13)=true)→x.drop a=y ++ zr sep r→a≤x.length→
  ChainG (mk x) (mk sep) (mk x).length a cuts f→(∀ k,f≤k→¬At (mk x) (mk sep) (mk x).length k)→partsFrom (mk x) (mk sep).length a cuts=(y::r).map mk:=by
 have hlen:(mk x).length=x.length:=z8 x
 have hsl:(mk sep).length=sep.length:=z8 sep
 have hat:∀ k,At (mk x) (mk sep) (mk x).length k↔k + sep.length≤x.length∧(x.drop k).take sep.length=sep:=by
  intro k
  unfold At subAt
  rw [hlen,hsl]
  have:((mk x).cps.extract k (k + sep.length)==(mk sep).cps)=((x.drop k).take sep.length==sep):=by
   simp [mk,List.extract_eq_take_drop]
  rw [this,beq_iff_eq]
 have hno:∀ (y t:List Nat) (a k:Nat),(y.all fun c=> c !=10 && c !=13)=true→x.drop a=y ++ t→a≤k→k < a + y.length→¬At (mk x) (mk sep) (mk x).length k:=by
  intro y t a k hy e h1 h2 hA
  rw [hat] at hA
  have e2:x.drop k=(y ++ t).drop (k - a):=by simp only [←e,List.drop_drop];congr 1;lia
  have hk:k - a < y.length:=by lia
  have e3:(y ++ t).drop (k - a)=y[k - a]::((y ++ t).drop (k - a + 1)):=by
   rw [List.drop_eq_getElem_cons (by simp;exact Nat.lt_of_lt_of_le ‹_› (Nat.le_add_right _ _)),List.getElem_append_left hk]
  rw [e2,e3] at hA
  have hm:=xo.mp hy _ (List.getElem_mem hk)
  rw [xi,bne_iff_ne,bne_iff_ne] at hm
  rcases hs with rfl | rfl | rfl
  ·have:=hA.2;simp at this;exact hm.1 this
  ·have:=hA.2;simp at this;exact hm.2 this.1
  ·have:=hA.2;simp at this;exact hm.2 this
 intro r
 induction r with
 | nil=>
  intro y a cuts f hc e ha h hf
  have e':x.drop a=y ++ []:=e
  have hend:x.length=a + y.length:=by
   have:=congrArg List.length e'
   simp at this;lia
  have hnone:∀ k,a≤k→¬At (mk x) (mk sep) (mk x).length k:=by
   intro k h1 hA
   by_cases h2:k < a + y.length
   ·exact hno y [] a k (hc y (by simp)) e' h1 h2 hA
   ·rw [hat] at hA
    have:0 < sep.length:=by rcases hs with rfl | rfl | rfl <;> decide
    lia
  cases cuts with
  | nil=>
   unfold partsFrom strSub
   simp [mk,List.extract_eq_take_drop]
   simp at e'
   simp only [e'];exact List.take_of_length_le (by have h9:({cps:=x.toArray}:Str).length=x.length:=hlen;lia)
  | cons c cuts=> exact absurd h.2.1 (hnone c h.1)
 | cons z r ih=>
  intro y a cuts f hc e ha h hf
  have e1:zr sep (z::r)=sep ++ (z ++ zr sep r):=by unfold zr;simp
  rw [e1] at e
  have hlen2:a + y.length + sep.length≤x.length:=by
   have:=congrArg List.length e
   simp at this;lia
  have hA:At (mk x) (mk sep) (mk x).length (a + y.length):=by
   rw [hat]
   refine ⟨hlen2, ?_⟩
   rw [←List.drop_drop,e];simp
  cases cuts with
  | nil=>
   have:f=a:=h
   exact absurd hA (hf _ (by lia))
  | cons c cuts=>
   obtain ⟨h1,h2,h3,h4⟩:=h
   have hceq:c=a + y.length:=by
    by_cases hlt:c < a + y.length
    ·exact absurd h2 (hno y _ a c (hc y (by simp)) e h1 hlt)
    ·by_cases hgt:a + y.length < c
     ·exact absurd hA (h3 _ (by exact Nat.le_add_right _ _) hgt)
     ·lia
   subst hceq
   have e3:x.drop (a + y.length + (mk sep).length)=z ++ zr sep r:=by
    rw [hsl,←List.drop_drop,←List.drop_drop,e];simp
   have:=ih z (a + y.length + (mk sep).length) cuts f (fun w hw=> hc w (xf _ hw)) e3 (by rw [hsl];omega) h4 hf
   refine (?_:strSub (mk x) a (a + y.length)::partsFrom (mk x) (mk sep).length (a + y.length + (mk sep).length) cuts=_)
   rw [this,List.map_cons]
   congr 1
   unfold strSub
   simp [mk,List.extract_eq_take_drop]
   rw [e];simp
open PySem.Builtin.Str PySem.StrLaws in
set_option tactic.hygienic true in
theorem zn8 {W:Sto}{sep:List Nat}{y:List Nat}{r:List (List Nat)} (hs:sep=[10]∨sep=[13,10]∨sep=[13]) (hc:∀ z∈y::r,(z.all fun c=> c !=10 && c !=13)=true) (hy:2≤y.length) (hl:(zu sep (y::r)).length≤10000) (hr:r.length≤1000):
  zey W [.str (zu sep (y::r)),.str sep]=some (.lst ((y::r).map .str)):=by
 generalize hx:zu sep (y::r)=x at hl
 have hx':x=y ++ zr sep r:=hx▸rfl
 have hw:1≤(mk sep).length:=by rw [z8];rcases hs with rfl | rfl | rfl <;> decide
 obtain ⟨f,h1,h2⟩:=occ_tight (mk x) (mk sep) hw
 have key:=zqi hs r y 0 _ f hc (by exact hx') (yc _) h1 h2
 rw [←partsBetween_eq] at key
 have hsl:sep.length≤2:=by rcases hs with rfl | rfl | rfl <;> decide
 have hxl:2≤x.length:=by rw [hx'];simp;exact Nat.lt_of_lt_of_le ‹_› (Nat.le_add_right _ _)
 have hsp:Txt.split (mk x) (mk sep)=(y::r).map mk:=by
  unfold Txt.split
  rw [if_neg,←key]
  ·split
   ·rename_i he
    have:occurrences (mk x) (mk sep) 0 (mk x).length ((mk x).length + 1)=[]:=List.isEmpty_iff.mp he
    simp only [this,parts_nil]
   ·rfl
  ·simp only [Bool.or_eq_true,decide_eq_true_eq,decide_eq_true_eq,z8,z8]
   intro h
   rcases h with h | h
   ·lia
   ·have h3:Builtin.Str.strKind (mk sep)=1:=by rcases hs with rfl | rfl | rfl <;> decide +kernel
    rw [h3] at h
    unfold Builtin.Str.strKind at h
    split at h
    ·exact Nat.lt_irrefl _ ‹_›
    ·split at h <;> lia
 refine (?_:(if ((!sep.isEmpty) && (ze x.length && ze (partsBetween (mk x) (occurrences (mk x) (mk sep) 0 (mk x).length ((mk x).length + 1)) (mk sep).length).length))=true then some (PV.lst (zqr (Txt.split (mk x) (mk sep)))) else none)=_)
 rw [key,hsp,if_pos]
 ·unfold zqr;rw [xq]
  congr 2
 ·rw [zm (by lia),zm (by rw [xc,List.length_cons];lia)]
  rcases hs with rfl | rfl | rfl <;> rfl
theorem zmk:∀ ys:List (List Nat),(ys.map PV.str).all zwn=true
 | []=> rfl
 | _::ys=> zmk ys
theorem zml (x:List Nat):∀ ys:List (List Nat),(ys.map PV.str).any (zv5 x)=ys.any (·==x)
 | []=> rfl
 | y::ys=> congrArg (y==x || ·) (zml x ys)
theorem zrp (W:Sto) (x:List Nat) (ys:List (List Nat)):pIn W (.str x) (.lst (ys.map .str))=some (.bool (ys.any (·==x))):=by
 have h:zxj W (.str x) (.lst (ys.map .str))=some (ys.any (·==x)):=(if_pos (zmk ys)).trans (congrArg some (zml x ys))
 exact congrArg (Option.map PV.bool) h
def tie (l:List (Nat×Nat)) (a x:Nat):Bool:=(zew l a).any (·==x)
theorem zry {U:Ren}{W:Sto}{f g:Den}{l:List (Nat×Nat)}{a x:Nat} (ha:qe a) (h1:f U W=some (.str [x])) (h2:U 86=some (.dct [[97],[98],[99],[100]] [ja l 97,ja l 98,ja l 99,ja l 100])) (h3:g U W=some (.str [a])):
  d2 pIn f (d2 zn (za 86) g) U W=some (.bool (tie l a x)):=by
 have e:d2 zn (za 86) g U W=some (ja l a):=by
  rw [zp h2 h3]
  rcases ha with rfl | rfl | rfl | rfl <;> rfl
 rw [zp h1 e]
 unfold ja
 have:=zrp W [x] ((zew l a).map fun y=> [y])
 rw [xq] at this
 refine this.trans ?_
 congr 2
 rw [List.any_map]
 unfold tie
 congr 1
 funext y
 simp [Function.comp]
def Qu (t b:Bool) (x:Nat):List Nat:=if t then q0 b x else [61,50,69] ++ (q0 b x).drop 1
def Qv (t b:Bool) (x:Nat):List Nat:=if t then 46::q0 b x else [61,50,69] ++ (q0 b x).drop 1
def zag (t b:Bool) (x:Nat):List Nat:=if t then 46::q0 b x else q0 b x
theorem zae {t b:Bool}{x:Nat} (hx:qe x):zmr (Qu t b x)=true:=by
 rcases hx with rfl | rfl | rfl | rfl <;> cases t <;> cases b <;> rfl
theorem zwt {t b:Bool}{x:Nat}:ddR (Qu t b x)=Qv t b x:=by cases t <;> cases b <;> rfl
theorem Qa {t b:Bool}{x:Nat}:(Qu t b x).length≤6:=by cases t <;> cases b <;> simp [Qu,q0]
theorem zcm {t b:Bool}{x:Nat}:2≤(Qv t b x).length∧(Qv t b x).length≤6:=by cases t <;> cases b <;> simp [Qv,q0]
theorem zaf {t b:Bool}{x:Nat} (hx:qe x):((Qv t b x).all fun c=> c !=10 && c !=13)=true:=by
 rcases hx with rfl | rfl | rfl | rfl <;> cases t <;> cases b <;> rfl
noncomputable def a97:qe 97:= .inl rfl
noncomputable def a98:qe 98:= .inr (.inl rfl)
noncomputable def a99:qe 99:= .inr (.inr (.inl rfl))
noncomputable def zkr:qe 100:= .inr (.inr (.inr rfl))
theorem zt3 (W:Sto):fnV (bfN 1 []) [9] Q0 W [.str [46]]=some (.str [61,50,69]):=by kernel_rfl
def zf6:Den:=(dIf (tOf (d2 pIn (za 74) (d2 zn (za 86) (za 83)))) (za 71) (d2 zx (dFn (bfN 1 []) [9] Q0 [(d2 zn (za 71) (dC (.int 0)))]) (qg (za 71) (qv (dC (.int 1))) qn qn)))
theorem ztp {U:Ren}{W:Sto}{l:List (Nat×Nat)}{a x:Nat}{b:Bool} (ha:qe a) (h1:U 74=some (.str [x])) (h2:U 86=some (.dct [[97],[98],[99],[100]] [ja l 97,ja l 98,ja l 99,ja l 100])) (h3:U 83=some (.str [a])) (h4:U 71=some (.str (q0 b x))):
  zf6 U W=some (.str (Qu (tie l a x) b x)):=by
 have ht:tOf (d2 pIn (za 74) (d2 zn (za 86) (za 83))) U W=some (tie l a x):=(qb (zry ha h1 h2 h3)).trans (trB _ _)
 unfold zf6 dIf
 rw [ht]
 cases tie l a x with
 | true=> exact h4
 | false=>
  have e1:d2 zn (za 71) (dC (.int 0)) U W=some (.str [46]):=(zp h4 rfl).trans (by cases b <;> rfl)
  have e2:qg (za 71) (qv (dC (.int 1))) qn qn U W=some (.str ((q0 b x).drop 1)):=by
   unfold qg
   rw [show za 71 U W=some (.str (q0 b x)) from h4]
   cases b <;> rfl
  refine (zp ((Jr e1).trans (zt3 W)) e2).trans ?_
  cases b <;> rfl
theorem zsj {base:Nat}{U:Ren}{W:Sto}{l:List (Nat×Nat)}{a e:Nat}{f:Nat→Bool} (ha:qe a) (h2:U 86=some (.dct [[97],[98],[99],[100]] [ja l 97,ja l 98,ja l 99,ja l 100])) (h3:U 83=some (.str [a])) (h4:U 70=some (za7 f)) (h5:U 12=some (.str (jr e))):
  zov base U W=some (.next,upd U 85 (.str (zu (jr e) [Qu (tie l a 97) (f 97) 97,Qu (tie l a 98) (f 98) 98,Qu (tie l a 99) (f 99) 99,Qu (tie l a 100) (f 100) 100])),W):=by
 have t:∀ (p q:PV) (r:Ren),jn [(tNm 74),(tNm 71)] (.tup [p,q]) r=some (upd (upd r 74 p) 71 q):=fun V V V=> rfl
 have hl:∀ x,zf6 (upd (upd (zq [86,83] U) 74 (.str [x])) 71 (.str (q0 (f x) x))) W=some (.str (Qu (tie l a x) (f x) x)):=fun x=> ztp ha rfl h2 h3 rfl
 have hc:qa [86,83] (jn [(tNm 74),(tNm 71)]) (zik [(dC (.str [97,98,99,100])),(za 70)]) qj zf6 U W=some (.lst ([Qu (tie l a 97) (f 97) 97,Qu (tie l a 98) (f 98) 98,Qu (tie l a 99) (f 99) 99,Qu (tie l a 100) (f 100) 100].map .str)):=by
  refine qm (its:=[.tup [.str [97],.str (q0 (f 97) 97)],.tup [.str [98],.str (q0 (f 98) 98)],.tup [.str [99],.str (q0 (f 99) 99)],.tup [.str [100],.str (q0 (f 100) 100)]]) ?_ ?_ rfl
  ·unfold zik
   rw [zt (p:= .str [97,98,99,100]) rfl (zt h4 rfl)]
   rfl
  ·simp only [Z4,zax,t,qj,J5,hl 97,hl 98,hl 99,hl 100,List.nil_append,List.cons_append,Option.bind_some,Option.map_some,cond_true]
   rfl
 refine zj ((je h5 hc).trans (zf4 ?_))
 have h1:=Qa (t:=tie l a 97) (b:=f 97) (x:=97)
 have h2:=Qa (t:=tie l a 98) (b:=f 98) (x:=98)
 have h3:=Qa (t:=tie l a 99) (b:=f 99) (x:=99)
 have h4:=Qa (t:=tie l a 100) (b:=f 100) (x:=100)
 have h5:(jr e).length≤2:=by unfold jr;split <;> decide
 simp;lia
def zr9:Den:=(dIf (tOf (d2 zv (qg (za 43) qn (qv (dC (.int 3))) qn) (dC (.str [61,50,69])))) (d2 zx (dFn (bfN 1 []) [5] Zt [(qg (za 43) qn (qv (dC (.int 3))) qn)]) (qg (za 43) (qv (dC (.int 3))) qn qn)) (za 43))
theorem zct {U:Ren}{W:Sto}{t b:Bool}{x:Nat} (hx:qe x):zr9 (upd U 43 (.str (Qv t b x))) W=some (.str (zag t b x)):=by
 rcases hx with rfl | rfl | rfl | rfl <;> cases t <;> cases b <;> kernel_rfl
theorem zsk {base:Nat}{U:Ren}{W:Sto}{e:Nat}{t f:Nat→Bool} (h:U 85=some (.str (zu (jr e) [Qu (t 97) (f 97) 97,Qu (t 98) (f 98) 98,Qu (t 99) (f 99) 99,Qu (t 100) (f 100) 100]))):
  zow base U W=some (.next,upd U 84 (.lst ([zag (t 97) (f 97) 97,zag (t 98) (f 98) 98,zag (t 99) (f 99) 99,zag (t 100) (f 100) 100].map .str)),W):=by
 have hq:dFn (bfN 1 []) [8] jo [(za 85)] U W=some (.str (zu [13,10] [Qv (t 97) (f 97) 97,Qv (t 98) (f 98) 98,Qv (t 99) (f 99) 99,Qv (t 100) (f 100) 100])):=by
  rw [Jr (show za 85 U W=_ from h),zbn,z0v]
  ·simp only [List.map_cons,List.map_nil,zwt]
  ·intro y hy
   simp only [List.mem_cons,ya,or_false] at hy
   rcases hy with rfl | rfl | rfl | rfl
   ·exact zae a97
   ·exact zae a98
   ·exact zae a99
   ·exact zae zkr
  ·have h1:=Qa (t:=t 97) (b:=f 97) (x:=97)
   have h2:=Qa (t:=t 98) (b:=f 98) (x:=98)
   have h3:=Qa (t:=t 99) (b:=f 99) (x:=99)
   have h4:=Qa (t:=t 100) (b:=f 100) (x:=100)
   have h5:(jr e).length≤2:=by unfold jr;split <;> decide
   simp [zu,zr];lia
 have hs:fIt (zf zey ((dFn (bfN 1 []) [8] jo [(za 85)])::[(dC (.str [13,10]))])) W.length U W=some ([Qv (t 97) (f 97) 97,Qv (t 98) (f 98) 98,Qv (t 99) (f 99) 99,Qv (t 100) (f 100) 100].map .str):=by
  have h1:=zcm (t:=t 97) (b:=f 97) (x:=97)
  have h2:=zcm (t:=t 98) (b:=f 98) (x:=98)
  have h3:=zcm (t:=t 99) (b:=f 99) (x:=99)
  have h4:=zcm (t:=t 100) (b:=f 100) (x:=100)
  refine Qi ((je hq rfl).trans (zn8 (.inr (.inl rfl)) ?_ h1.1 (by simp [zu,zr];lia) (by simp))) (by simp;exact zm (by lia))
  intro z hz
  simp only [List.mem_cons,ya,or_false] at hz
  rcases hz with rfl | rfl | rfl | rfl
  ·exact zaf a97
  ·exact zaf a98
  ·exact zaf a99
  ·exact zaf zkr
 have tn:∀ (p:PV) (r:Ren),tNm 43 p r=some (upd r 43 p):=fun V V=> rfl
 refine zj (qm hs ?_ rfl)
 show j6 _ qj (J5 zr9) _ W [.str (Qv (t 97) (f 97) 97),.str (Qv (t 98) (f 98) 98),.str (Qv (t 99) (f 99) 99),.str (Qv (t 100) (f 100) 100)]=_
 simp only [Z4,zax,tn,qj,J5,zct a97,zct a98,zct a99,zct zkr,List.nil_append,List.cons_append,Option.bind_some,Option.map_some,cond_true]
 rfl
theorem zcs {U:Ren}{W:Sto}{t b:Bool}{x:Nat} (hx:qe x):Jp (za 43) [46,46,46] [46] (upd U 43 (.str (zag t b x))) W=some (.str (q0 (b ^^ t) x)):=by
 rcases hx with rfl | rfl | rfl | rfl <;> cases t <;> cases b <;> kernel_rfl
theorem zsl {base:Nat}{U:Ren}{W:Sto}{t f:Nat→Bool} (h:U 84=some (.lst ([zag (t 97) (f 97) 97,zag (t 98) (f 98) 98,zag (t 99) (f 99) 99,zag (t 100) (f 100) 100].map .str))):
  zox base U W=some (.next,upd U 70 (za7 fun x=> f x ^^ t x),W):=by
 have tn:∀ (p:PV) (r:Ren),tNm 43 p r=some (upd r 43 p):=fun V V=> rfl
 refine zj (qm (Qi h rfl) ?_ rfl)
 show j6 _ qj (J5 (Jp (za 43) [46,46,46] [46])) _ W [.str (zag (t 97) (f 97) 97),.str (zag (t 98) (f 98) 98),.str (zag (t 99) (f 99) 99),.str (zag (t 100) (f 100) 100)]=_
 simp only [Z4,zax,tn,qj,J5,zcs a97,zcs a98,zcs a99,zcs zkr,List.nil_append,List.cons_append,Option.bind_some,Option.map_some,cond_true]
theorem zd6 {l:List (Nat×Nat)}{a x:Nat}:tie l a x=true↔(a,x)∈l∨(x,a)∈l:=by
 unfold tie zew zjv
 rw [List.any_eq_true]
 constructor
 ·rintro ⟨y,hy,e⟩
  have:=eq_of_beq e;subst this
  obtain ⟨p,hp',rfl⟩:=xr.mp hy
  obtain ⟨hm,he⟩:=List.mem_filter.mp hp'
  have he:=eq_of_beq he
  obtain ⟨q,hq,hpq⟩:=List.mem_flatMap.mp hm
  rcases List.mem_cons.mp hpq with rfl | h
  ·left;subst he;exact hq
  ·split at h
   ·cases h
   ·simp at h;subst h;right;subst he;exact hq
 ·intro h
  refine ⟨x,xr.mpr ⟨(a,x),List.mem_filter.mpr ⟨List.mem_flatMap.mpr ?_,beq_self_eq_true a⟩,rfl⟩,beq_self_eq_true x⟩
  rcases h with h | h
  ·exact ⟨(a,x),h,xk⟩
  ·by_cases hax:a=x
   ·subst hax;exact ⟨(a,a),h,xk⟩
   ·refine ⟨(x,a),h,xf _ ?_⟩
    rw [if_neg (fun e=> hax e.symm)];simp
theorem zoh (l:List (Nat×Nat)) (a x:Nat):tie l a x=tie l x a:=by
 rw [Bool.eq_iff_iff,zd6,zd6,or_comm]
noncomputable def z4j (l:List (Nat×Nat)):List (List Nat):=l.map (fun p=> [p.1,p.2]) ++ (l.filter fun p=> !([p.1]==[p.2])).map fun p=> [p.2,p.1]
theorem z05 (l:List (Nat×Nat)):ze3 l=(z4j l).map .str:=by
 unfold ze3 z4j;rw [List.map_append,xq,xq];rfl
theorem zqw {U:Ren}{W:Sto}{f g:Den}{l:List (Nat×Nat)}{a x:Nat} (h1:f U W=some (.str [a])) (h2:g U W=some (.str [x])) (h3:U 73=some (.lst (ze3 l))):d2 pIn (d2 zx f g) (za 73) U W=some (.bool (tie l a x)):=by
 rw [zp ((zp h1 h2).trans (rfl:_=some (PV.str [a,x]))) h3,z05,zrp]
 congr 2
 rw [Bool.eq_iff_iff,zd6,List.any_eq_true]
 unfold z4j
 constructor
 ·rintro ⟨y,hy,e⟩
  have:=eq_of_beq e;subst this
  rcases List.mem_append.mp hy with h | h
  ·obtain ⟨p,hp',e⟩:=xr.mp h
   injection e with e1 e2;injection e2 with e2 _;subst e1 e2;exact .inl hp'
  ·obtain ⟨p,hp',e⟩:=xr.mp h
   injection e with e1 e2;injection e2 with e2 _;subst e1 e2;exact .inr (List.mem_filter.mp hp').1
 ·intro h
  refine ⟨[a,x], ?_,beq_self_eq_true _⟩
  rcases h with h | h
  ·exact List.mem_append_left _ (xr.mpr ⟨_,h,rfl⟩)
  ·by_cases hax:x=a
   ·subst hax;exact List.mem_append_left _ (xr.mpr ⟨_,h,rfl⟩)
   ·exact xu _ (xr.mpr ⟨(x,a),List.mem_filter.mpr ⟨h,by simpa using hax⟩,rfl⟩)
def par (l:List (Nat×Nat)) (pr:Nat→Bool) (x:Nat):Bool:=((jh.filter pr).filter (tie l x)).length % 2==1
def cnt (l:List (Nat×Nat)) (pr:Nat→Bool):Nat:=((jh.filter pr).flatMap fun x=> (jh.filter pr).filter (tie l x)).length
noncomputable def j2 (pr:Nat→Bool) (a:Nat):Nat→Bool:=fun x=> pr x !=(x==a)
noncomputable def q1 (p:Bool) (n:Nat):Nat:=if p then n else 0
theorem zg8 {α:Type} (p:α→Bool):∀ l:List α,(l.filter p).length=(l.map fun x=> q1 (p x) 1).sum
 | []=> rfl
 | x::l=> by
  rw [List.filter_cons,List.map_cons,List.sum_cons,←zg8 p l]
  cases p x with
  | true=> rw [if_pos rfl,List.length_cons];unfold q1;rw [if_pos rfl];lia
  | false=> rw [if_neg (by decide)];unfold q1;rw [if_neg (by decide)];lia
theorem zdo {α:Type} (p:α→Bool) (f:α→Nat):∀ l:List α,((l.filter p).map f).sum=(l.map fun x=> q1 (p x) (f x)).sum
 | []=> rfl
 | x::l=> by
  rw [List.filter_cons,List.map_cons,List.sum_cons,←zdo p f l]
  cases p x with
  | true=> rw [if_pos rfl,List.map_cons,List.sum_cons];unfold q1;rw [if_pos rfl]
  | false=> rw [if_neg (by decide)];unfold q1;rw [if_neg (by decide)];lia
noncomputable def sm (L:List Nat) (f:Nat→Nat):Nat:=(L.map f).sum
def tn (l:List (Nat×Nat)) (x y:Nat):Nat:=q1 (tie l x y) 1
theorem zgd (x:Nat) (L:List Nat) (f:Nat→Nat):sm (x::L) f=f x + sm L f:=rfl
theorem za8 {f g:Nat→Nat}{L:List Nat} (h:∀ x∈L,f x=g x):sm L f=sm L g:=congrArg List.sum (List.map_congr_left h)
theorem zsa {f:Nat→Nat}{n:Nat} (h:∀ x,f x≤n):∀ L:List Nat,sm L f≤L.length * n
 | []=> yc _
 | x::L=> by rw [zgd,List.length_cons,Nat.succ_mul,Nat.add_comm];exact Nat.add_le_add (zsa h L) (h x)
theorem zx2 (f g:Nat→Nat):∀ L:List Nat,sm L (fun x=> f x + g x)=sm L f + sm L g
 | []=> rfl
 | x::L=> by rw [zgd,zgd,zgd,zx2 f g L,Nat.add_add_add_comm]
theorem z6r (b:Bool) (f:Nat→Nat) (L:List Nat):sm L (fun x=> q1 b (f x))=q1 b (sm L f):=by
 cases b with
 | true=> rfl
 | false=> exact Nat.eq_zero_of_le_zero (zsa (n:=0) (fun V=> x9 _) L)
theorem z4a (b:Bool) (m n:Nat):q1 b (m + n)=q1 b m + q1 b n:=by cases b <;> rfl
theorem z0u (a b:Bool) (n:Nat):q1 a (q1 b n)=q1 b (q1 a n):=by cases a <;> cases b <;> rfl
theorem zxu (b:Bool) (n:Nat):q1 b n≤n:=by cases b;exact yc _;exact x9 _
theorem zr8 (l:List (Nat×Nat)) (pr:Nat→Bool) (x:Nat):((jh.filter pr).filter (tie l x)).length=sm jh fun y=> q1 (pr y) (tn l x y):=by rw [zg8,zdo];rfl
theorem zqh (l:List (Nat×Nat)) (pr:Nat→Bool) (x:Nat):par l pr x=(sm jh (fun y=> q1 (pr y) (tn l x y)) % 2==1):=by unfold par;rw [zr8]
theorem zpb (l:List (Nat×Nat)) (pr:Nat→Bool):cnt l pr=sm jh fun x=> q1 (pr x) (sm jh fun y=> q1 (pr y) (tn l x y)):=by
 unfold cnt
 rw [List.length_flatMap,zdo]
 exact za8 fun x V=> by rw [zr8]
theorem z28 (l:List (Nat×Nat)) (pr:Nat→Bool):cnt l pr≤16:=by
 rw [zpb]
 exact zsa (n:=4) (fun x=> x8 (zxu _ _) (zsa (n:=1) (fun y=> x8 (zxu _ _) (zxu _ _)) jh)) jh
theorem zf2 {pr:Nat→Bool}{a:Nat}:∀ y∈jh.erase a,j2 pr a y=pr y:=fun y hy=> by
 have h:(y==a)=false:=beq_eq_false_iff_ne.mpr fun e=> absurd (e▸hy) (List.Nodup.not_mem_erase (by decide))
 unfold j2;rw [h];cases pr y <;> rfl
theorem zri (pr:Nat→Bool) (a:Nat):j2 pr a a= !pr a:=by unfold j2;rw [beq_self_eq_true];cases pr a <;> rfl
theorem z0r {a:Nat} (ha:qe a):jh.Perm (a::jh.erase a):=List.perm_cons_erase (by rcases ha with rfl | rfl | rfl | rfl <;> decide)
theorem zj7 {a:Nat} (ha:qe a) (f:Nat→Nat):sm jh f=f a + sm (jh.erase a) f:=((z0r ha).map f).sum_nat
theorem zw8 (S:Nat):((1 + S) % 2==1)= !((0 + S) % 2==1):=by
 rw [Nat.zero_add]
 rcases Nat.mod_two_eq_zero_or_one S with h | h <;> rw [Nat.add_mod,h] <;> rfl
theorem znu {l:List (Nat×Nat)}{pr:Nat→Bool}{a:Nat} (ha:qe a) (x:Nat):par l (j2 pr a) x=(par l pr x ^^ tie l x a):=by
 rw [zqh,zqh,zj7 ha,zj7 ha,zri,za8 (f:=fun y=> q1 (j2 pr a y) _) fun y hy=> by rw [zf2 y hy]]
 generalize sm (jh.erase a) _=S
 unfold tn
 have h:=zw8 S
 cases pr a <;> cases tie l x a
 ·exact (Bool.xor_false _).symm
 ·exact h.trans (Bool.xor_true _).symm
 ·exact (Bool.xor_false _).symm
 ·refine Eq.trans ?_ (Bool.xor_true _).symm
  exact (Bool.not_not _).symm.trans (congrArg (!·) h.symm)
theorem z1f {pr:Nat→Bool}{m:Nat→Nat→Nat}{a:Nat} (ha:qe a) (hs:∀ x,m x a=m a x):(sm jh fun x=> q1 (pr x) (sm jh fun y=> q1 (pr y) (m x y)))=
  q1 (pr a) (q1 (pr a) (m a a) + sm (jh.erase a) fun y=> q1 (pr y) (m a y)) + (q1 (pr a) (sm (jh.erase a) fun y=> q1 (pr y) (m a y)) + sm (jh.erase a) fun x=> q1 (pr x) (sm (jh.erase a) fun y=> q1 (pr y) (m x y))):=by
 rw [zj7 ha,zj7 ha,←z6r (pr a) (fun y=> q1 (pr y) (m a y)),←zx2]
 exact congrArg (_ + ·) (za8 fun x V=> by rw [zj7 ha,z4a,hs,z0u])
theorem zug (p:Bool) (m S R:Nat):(q1 (!p) (q1 (!p) m + S) + (q1 (!p) S + R)) % 4=(q1 p (q1 p m + S) + (q1 p S + R) + (m + 2 * ((q1 p m + S) % 2))) % 4:=by
 cases p
 ·show (m + S + (S + R)) % 4=(0 + (0 + R) + (m + 2 * ((0 + S) % 2))) % 4;lia
 ·show (0 + (0 + R)) % 4=(m + S + (S + R) + (m + 2 * ((m + S) % 2))) % 4;lia
theorem zmu {l:List (Nat×Nat)}{pr:Nat→Bool}{a:Nat} (ha:qe a):cnt l (j2 pr a) % 4=(cnt l pr + (q1 (tie l a a) 1 + 2 * q1 (par l pr a) 1)) % 4:=by
 have hp':q1 (par l pr a) 1=(sm jh fun y=> q1 (pr y) (tn l a y)) % 2:=by
  rw [zqh]
  rcases Nat.mod_two_eq_zero_or_one (sm jh fun y=> q1 (pr y) (tn l a y)) with h | h <;> rw [h] <;> rfl
 have hs:∀ x,tn l x a=tn l a x:=fun x=> by unfold tn;rw [zoh]
 rw [hp',zpb,zpb,z1f ha hs,z1f ha hs,zri,zj7 ha,
  za8 (f:=fun y=> q1 (j2 pr a y) (tn l a y)) (g:=fun y=> q1 (pr y) (tn l a y)) fun y hy=> by rw [zf2 y hy],
  za8 (f:=fun x=> q1 (j2 pr a x) _) (g:=fun x=> q1 (pr x) (sm (jh.erase a) fun y=> q1 (pr y) (tn l x y))) fun x hx=> by
   rw [zf2 x hx,za8 (f:=fun y=> q1 (j2 pr a y) (tn l x y)) fun y hy=> by rw [zf2 y hy]]]
 exact zug _ _ _ _
theorem Jm {tg:Tg}{bod:Ren→Sto→Option (List PV)}{U U':Ren}{W:Sto}{p:PV}{ps q qs:List PV} (e1:tg p U=some U') (e2:bod U' W=some q) (e3:j6 tg qj bod U W ps=some qs):j6 tg qj bod U W (p::ps)=some (q ++ qs):=by
 rw [Z4,e1,Option.bind_some,e3]
 show (bod U' W).bind _=_
 rw [e2];rfl
theorem zgn {α:Type}{k:α→PV}{tg:Tg}{bod:Ren→Sto→Option (List PV)}{U:Ren}{W:Sto} (q:α→List PV):∀ (l:List α),(∀ x∈l,∃ U',tg (k x) U=some U'∧bod U' W=some (q x))→j6 tg qj bod U W (l.map k)=some (l.flatMap q)
 | [],_=> rfl
 | x::l,h=> by
  refine bc fun J=> ?_
  obtain ⟨U',e1,e2⟩:=h x xk
  refine J ?_
  exact Jm e1 e2 (zgn q l fun y hy=> h y (xf _ hy))
def qo (pr:Nat→Bool):List Nat:=jh.filter pr
theorem znf {pr:Nat→Bool}{x:Nat} (h:x∈qo pr):qe x:=by
 have:=(List.mem_filter.mp h).1
 unfold jh at this;simp at this;unfold qe;lia
theorem q4 (pr:Nat→Bool):(qo pr).length≤4:=yb _ _
theorem zf1 {f:Den}{base:Nat}{U:Ren}{W:Sto}{l:List Nat} (h:f U W=some (.str l)) (hl:l.length≤1000) (ha:l.all (· < 128)=true):fIt f base U W=some (zdu l):=by
 unfold fIt;rw [h];show (if Q5 base (.str l)=true then pIt W (.str l) else none)=_
 rw [if_pos (by rfl:Q5 base (.str l)=true)];show (if ((l.all (· < 128)) && ze l.length)=true then some (zdu l) else none)=_
 rw [ha,zm (by lia)];rfl
theorem zbj (pr:Nat→Bool):(qo pr).all (· < 128)=true:=by
 rw [xo];intro x hx
 rcases znf hx with rfl | rfl | rfl | rfl <;> rfl
theorem z4d {b d:Bool}{x:Nat}:(!(q0 (b ^^ d) x==q0 b x))=d:=by
 cases b <;> cases d <;> simp [q0]
theorem zu3 {base:Nat}{U:Ren}{W:Sto}{f d:Nat→Bool} (h1:U 70=some (za7 fun x=> f x ^^ d x)) (h2:U 81=some (za7 f)):zu2 base U W=some (.next,upd U 89 (.str (qo d)),W):=by
 have hc:qa [] (jn [(tNm 74),(tNm 71),(tNm 78)]) (zik [(dC (.str [97,98,99,100])),(za 70),(za 81)]) (tOf (d2 qr (za 71) (za 78))) (za 74) U W=some (.lst ((qo d).map fun x=> .str [x])):=by
  refine qm (its:=jh.map fun x=> .tup [.str [x],.str (q0 (f x ^^ d x) x),.str (q0 (f x) x)]) ?_ (jx _ d (fun x=> .str [x]) _ fun x V=> ?_) ?_
  ·unfold zik
   rw [zt (p:= .str [97,98,99,100]) rfl (zt h1 (zt h2 rfl))]
   rfl
  ·refine ⟨_,rfl, ?_,fun V=> rfl⟩
   exact (qb ((zp (a:= .str (q0 (f x ^^ d x) x)) (b:= .str (q0 (f x) x)) rfl rfl).trans (zhg _ _ _))).trans ((trB _ _).trans (congrArg some z4d))
  ·rw [xc];exact zm (by have:=q4 d;lia)
 exact zj ((je rfl hc).trans (zd1 (by have:=q4 d;lia)))
theorem zx5 {U:Ren}{W:Sto}{f:Den}{q:Nat} (hq:q < 4) (hf:f U W=some (.int (16 * q:Nat))):zf zqf [f] U W=some (.str ((toString (16 * q)).toList.map Char.toNat)):=by
 rw [qq hf]
 have:q=0∨q=1∨q=2∨q=3:=by lia
 rcases this with rfl | rfl | rfl | rfl <;> kernel_rfl
noncomputable def Jt (q:Nat):List Nat:=(toString (16 * q)).toList.map Char.toNat
def hdE (l:List (Nat×Nat)) (pr:Nat→Bool):List Nat×List Nat:=(120::qo (par l pr),qo pr ++ Jt (cnt l pr % 4))
theorem Ju:∀ q,q < 4→((Jt q).all jw=true∧(Jt q).length≤2):=by decide +kernel
theorem zg9 (pr:Nat→Bool):(qo pr).all jw=true:=by
 rw [xo];intro x hx
 rcases znf hx with rfl | rfl | rfl | rfl <;> rfl
theorem zte (l:List (Nat×Nat)) (pr:Nat→Bool):Qo (hdE l pr).1=true∧Qo (hdE l pr).2=true:=by
 have hq:cnt l pr % 4 < 4:=Nat.mod_lt _ (by decide)
 obtain ⟨n1,n2⟩:=Ju _ hq
 have l1:=q4 (par l pr)
 have l2:=q4 pr
 unfold hdE Qo
 constructor
 ·show ((120::qo (par l pr)).all jw && decide ((qo (par l pr)).length + 1≤100))=true
  rw [List.all_cons,zg9,yd (by lia)];rfl
 ·show ((qo pr ++ Jt (cnt l pr % 4)).all jw && decide ((qo pr ++ Jt (cnt l pr % 4)).length≤100))=true
  rw [List.all_append,zg9,n1,xz,yd (by lia)];rfl
theorem zqj {st q:Nat} (h1:st < 64) (h2:q < 4):(((((st + 16 * q) % 64:Nat):Int) - (st:Int)).fmod 64)=((16 * q:Nat):Int):=by
 rw [Int.fmod_eq_emod_of_nonneg _ (by decide)]
 lia
theorem zu5 {U:Ren}{W:Sto}{l:List (Nat×Nat)}{pr:Nat→Bool}{st ti:Nat}{L:List (List Nat×List Nat)} (h1:U 89=some (.str (qo (par l pr)))) (h2:U 82=some (.str (qo pr))) (h3:U 0=some (.int ((st + 16 * cnt l pr) % 64:Nat))) (h4:U 44=some (.int st)) (h5:U 60=some (.hdr ti)) (hst:st < 64)
  (hi:W[ti]? =some (L.map hp)) (hL:L.length≤100):zu4 0 U W=some (.next,U,W.set ti ((L ++ [hdE l pr]).map hp) ++ [[.str (hdE l pr).2]]):=by
 have hq:cnt l pr % 4 < 4:=Nat.mod_lt _ (by decide)
 have e0:(st + 16 * cnt l pr) % 64=(st + 16 * (cnt l pr % 4)) % 64:=by lia
 obtain ⟨p1,p2⟩:=zte l pr
 have e1:d2 zx (dC (.str [120])) (za 89) U W=some (.str (hdE l pr).1):=by
  rw [zp (a:= .str [120]) rfl h1]
  show (if ze (1 + (qo (par l pr)).length)=true then some (PV.str ([120] ++ qo (par l pr))) else none)=_
  rw [if_pos (zm (by have:=q4 (par l pr);lia))];rfl
 have e2:d2 jt (d2 jb (za 0) (za 44)) (dC (.int 64)) U W=some (.int (16 * (cnt l pr % 4):Nat)):=by
  rw [e0] at h3
  refine (zp ((zp h3 h4).trans rfl) (b:= .int 64) rfl).trans ?_
  show (if ((64:Int))=0 then none else some (PV.int (Int.fmod _ 64)))=_
  rw [if_neg (by decide),zqj hst hq]
 have e3:d2 zx (za 82) (zf zqf [(d2 jt (d2 jb (za 0) (za 44)) (dC (.int 64)))]) U W=some (.str (hdE l pr).2):=by
  rw [zp h2 (zx5 hq e2)]
  show (if ze ((qo pr).length + (Jt (cnt l pr % 4)).length)=true then some (PV.str (qo pr ++ Jt (cnt l pr % 4))) else none)=_
  rw [if_pos (zm (by have:=q4 pr;have:=(Ju _ hq).2;lia))];rfl
 have:=zgu (F:=jd) (bf:=bfN 3 [.emp]) (ids:=[14,18,19,20]) (fo:=za 60) (fs:=[(d2 zx (dC (.str [120])) (za 89)),(d2 zx (za 82) (zf zqf [(d2 jt (d2 jb (za 0) (za 44)) (dC (.int 64)))]))]) (base:=0) (i:=ti) (ps:=[.str (hdE l pr).1,.str (hdE l pr).2]) h5 (zt e1 (zt e3 rfl)) (zo2 hi (by simp;lia) p1 p2 0 (yc _))
 rw [List.map_append]
 exact this
theorem zti {U:Ren}{W:Sto}{l:List (Nat×Nat)}{pr:Nat→Bool}{x:Nat} (h1:U 82=some (.str (qo pr))) (h2:U 73=some (.lst (ze3 l))) (h3:U 74=some (.str [x])):
  qa [74,73] (tNm 93) (fIt (za 82)) (tOf (d2 pIn (d2 zx (za 74) (za 93)) (za 73))) (za 93) U W=some (.lst (((qo pr).filter (tie l x)).map fun y=> .str [y])):=by
 have hll:((qo pr).filter (tie l x)).length≤4:=x8 (yb _ _) (q4 pr)
 refine qm (zf1 h1 (by have:=q4 pr;lia) (zbj pr)) (jx _ (tie l x) _ _ fun y V=> ?_) (by rw [xc];exact zm (by lia))
 ·refine ⟨_,rfl, ?_,fun V=> rfl⟩
  have r73:(upd (zq [74,73] U) 93 (.str [y])) 73=some (.lst (ze3 l)):=h2
  exact (qb (zqw (U:=upd (zq [74,73] U) 93 (.str [y])) (a:=x) (x:=y) (f:=za 74) (g:=za 93) h3 rfl r73)).trans (trB _ _)
theorem zu7 {base:Nat}{U:Ren}{W:Sto}{l:List (Nat×Nat)}{pr:Nat→Bool} (h1:U 82=some (.str (qo pr))) (h2:U 73=some (.lst (ze3 l))):zu6 base U W=some (.next,upd U 92 (.str (qo (par l pr))),W):=by
 have hc:qa [82,73] (tNm 74) (fIt (dC (.str [97,98,99,100]))) (tOf (d2 zv (d2 jt (zf Qt [(qa [74,73] (tNm 93) (fIt (za 82)) (tOf (d2 pIn (d2 zx (za 74) (za 93)) (za 73))) (za 93))]) (dC (.int 2))) (dC (.int 1)))) (za 74) U W=some (.lst ((qo (par l pr)).map fun x=> .str [x])):=by
  refine qm (its:=jh.map fun x=> .str [x]) rfl (jx _ (par l pr) _ _ fun x V=> ?_) (by rw [xc];exact zm (by have:=q4 (par l pr);lia))
  ·refine ⟨_,rfl, ?_,fun V=> rfl⟩
   have hi:=zti (U:=upd (zq [82,73] U) 74 (.str [x])) (W:=W) (l:=l) (pr:=pr) (x:=x) h1 h2 rfl
   have hll:((qo pr).filter (tie l x)).length≤4:=x8 (yb _ _) (q4 pr)
   have hlen:zf Qt [(qa [74,73] (tNm 93) (fIt (za 82)) (tOf (d2 pIn (d2 zx (za 74) (za 93)) (za 73))) (za 93))] (upd (zq [82,73] U) 74 (.str [x])) W=some (.int (((qo pr).filter (tie l x)).length:Nat)):=by
    rw [qq hi]
    show (if ze (((qo pr).filter (tie l x)).map fun y=> PV.str [y]).length=true then some (PV.int ((((qo pr).filter (tie l x)).map fun y=> PV.str [y]).length:Nat)) else none)=_
    rw [xc,if_pos (zm (by lia))]
   refine (qb ((zp (Zl (b:=2) hlen rfl (by decide)) (b:= .int 1) rfl).trans (zek _ _ _))).trans ?_
   rw [trB]
   congr 1
   show _=(((qo pr).filter (tie l x)).length % 2==1)
   have:((qo pr).filter (tie l x)).length % 2 < 2:=Nat.mod_lt _ (by decide)
   generalize ((qo pr).filter (tie l x)).length % 2=m at this
   have:m=0∨m=1:=by lia
   rcases this with rfl | rfl <;> rfl
 exact zj ((je rfl hc).trans (zd1 (by have:=q4 (par l pr);lia)))
theorem zu9 {U:Ren}{W:Sto}{l:List (Nat×Nat)}{pr:Nat→Bool}{di:Nat}{L:List (List Nat×List Nat)} (h1:U 82=some (.str (qo pr))) (h2:U 73=some (.lst (ze3 l))) (h3:U 92=some (.str (qo (par l pr)))) (h4:U 72=some (.mref di)) (hi:W[di]? =some (L.map hp)) (hL:L.length≤100):
  zu8 0 U W=some (.next,U,W.set di ((L ++ [hdE l pr]).map hp)):=by
 have hq:cnt l pr % 4 < 4:=Nat.mod_lt _ (by decide)
 have e1:d2 zx (dC (.str [120])) (za 92) U W=some (.str (hdE l pr).1):=by
  rw [zp (a:= .str [120]) rfl h3]
  show (if ze (1 + (qo (par l pr)).length)=true then some (PV.str ([120] ++ qo (par l pr))) else none)=_
  rw [if_pos (zm (by have:=q4 (par l pr);lia))];rfl
 have hcl:cnt l pr≤1000:=x8 (z28 l pr) (by decide)
 have hc:Q9 [82,73] (tNm 74) (fIt (za 82)) qj (tNm 93) (fIt (za 82)) (tOf (d2 pIn (d2 zx (za 74) (za 93)) (za 73))) (za 74) U W=some (.lst ((qo pr).flatMap fun x=> ((qo pr).filter (tie l x)).map fun V=> .str [x])):=by
  have hlen:((qo pr).flatMap fun x=> ((qo pr).filter (tie l x)).map fun V=> PV.str [x]).length=cnt l pr:=by
   unfold cnt qo;rw [List.length_flatMap,List.length_flatMap];simp
  unfold Q9
  rw [zf1 (f:=za 82) h1 (by have:=q4 pr;lia) (zbj pr)]
  dsimp only
  rw [show zdu (qo pr)=(qo pr).map fun x=> .str [x] from rfl,zgn (fun x=> ((qo pr).filter (tie l x)).map fun V=> .str [x]) (qo pr) fun x V=> ?_]
  ·dsimp only
   rw [hlen,if_pos (zm (by lia))]
  ·refine ⟨_,rfl, ?_⟩
   unfold zyz
   rw [zf1 (f:=za 82) (l:=qo pr) (by show zq [82,73] U 82=_;exact h1) (by have:=q4 pr;lia) (zbj pr)]
   dsimp only
   refine jx _ (tie l x) (fun V=> .str [x]) (qo pr) fun y V=> ?_
   ·refine ⟨_,rfl, ?_,fun V=> rfl⟩
    exact (qb (zqw (a:=x) (x:=y) (f:=za 74) (g:=za 93) rfl rfl (by show zq [82,73] U 73=_;exact h2))).trans (trB _ _)
 have hlen:zf Qt [(Q9 [82,73] (tNm 74) (fIt (za 82)) qj (tNm 93) (fIt (za 82)) (tOf (d2 pIn (d2 zx (za 74) (za 93)) (za 73))) (za 74))] U W=some (.int (cnt l pr:Nat)):=by
  rw [qq hc]
  have hl:((qo pr).flatMap fun x=> ((qo pr).filter (tie l x)).map fun V=> PV.str [x]).length=cnt l pr:=by
   unfold cnt qo;rw [List.length_flatMap,List.length_flatMap];simp
  show (if ze ((qo pr).flatMap fun x=> ((qo pr).filter (tie l x)).map fun V=> PV.str [x]).length=true then some (PV.int (((qo pr).flatMap fun x=> ((qo pr).filter (tie l x)).map fun V=> PV.str [x]).length:Nat)) else none)=_
  rw [hl,if_pos (zm (by lia))]
 have e2:d2 j3 (dC (.int 16)) (d2 jt (zf Qt [(Q9 [82,73] (tNm 74) (fIt (za 82)) qj (tNm 93) (fIt (za 82)) (tOf (d2 pIn (d2 zx (za 74) (za 93)) (za 73))) (za 74))]) (dC (.int 4))) U W=some (.int (16 * (cnt l pr % 4):Nat)):=by
  refine (zp (a:= .int 16) rfl (Zl (b:=4) hlen rfl (by decide))).trans ?_
  show (if (qx 16 || qx ((cnt l pr % 4:Nat):Int))=true then some (PV.int (16 * ((cnt l pr % 4:Nat):Int))) else none)=_
  rw [show qx 16=true from by decide,Bool.true_or,if_pos rfl];rfl
 have e3:d2 zx (za 82) (zf zqf [(d2 j3 (dC (.int 16)) (d2 jt (zf Qt [(Q9 [82,73] (tNm 74) (fIt (za 82)) qj (tNm 93) (fIt (za 82)) (tOf (d2 pIn (d2 zx (za 74) (za 93)) (za 73))) (za 74))]) (dC (.int 4))))]) U W=some (.str (hdE l pr).2):=by
  rw [zp h1 (zx5 hq e2)]
  show (if ze ((qo pr).length + (Jt (cnt l pr % 4)).length)=true then some (PV.str (qo pr ++ Jt (cnt l pr % 4))) else none)=_
  rw [if_pos (zm (by have:=q4 pr;have:=(Ju _ hq).2;lia))];rfl
 refine (zej (j:=di) (p:=hp (hdE l pr)) h4 ?_ hi (yc _) (by simp;lia)).trans ?_
 ·unfold qy;rw [zt e1 (zt e3 rfl)];rfl
 ·rw [List.map_append];rfl
theorem zvq {kd p:Nat} (hk:kd < 3) (hp':p < 64) (W:Sto):fnV (bfN 3 []) [1,2,3] zmd W [sgA kd p,sgB kd p,sgC kd p]=some (.tup [.flt (zio p),.flt zp8,vOf kd p]):=by
 have:kd=0∨kd=1∨kd=2:=by lia
 rcases this with rfl | rfl | rfl
 ·exact zep (zfl (R0 W) hp')
 ·exact zep (zfl (R1 W) hp')
 ·exact zep (zfl (R2 W) hp')
theorem zmq {kd p:Nat} (hk:kd < 3) (hp':p < 64) (W:Sto):qr W (zhv kd p) (zhv 0 p)=some (.bool false):=by
 have:kd=0∨kd=1∨kd=2:=by lia
 rcases this with rfl | rfl | rfl
 ·exact zpw (zfl (C0 W) hp')
 ·exact zpw (zfl (C1' W) hp')
 ·exact zpw (zfl (C2' W) hp')
theorem zes {p:Nat} (hp':p < 64) (W:Sto):fnV (bfN 1 []) [0] J8 W [.int (p:Nat)]=some (zhv 0 p):=zep (zfl (LL W) hp')
theorem zvv {op:Sto→PV→PV→Option PV}{f f' g g':Den}{U:Ren}{W:Sto} (h:f U W=f' U W) (h2:g U W=g' U W):d2 op f g U W=d2 op f' g' U W:=by
 delta d2;rw [h,h2]
theorem zvo {op:Sto→List PV→Option PV}{f f':Den}{U:Ren}{W:Sto} (h:f U W=f' U W):zf op [f] U W=zf op [f'] U W:=by
 have:jm [f] U W=jm [f'] U W:=congrArg (fun x:Option PV=> match x,(some []:Option (List PV)) with | some p,some ps=> some (p::ps) | _,_=> none) h
 delta zf;rw [this]
theorem zt2 {p:Nat} (hp':p < 64) {U:Ren} (W:Sto) (h:U 87=some (.flt (zio p))):(d2 zo (zf ziv [(d2 zx (d2 j3 (dC (.int 128)) (za 87)) (dC (.int 1)))]) (dC (.int 2))) U W=some (.int (p:Nat)):=by
 have h1:=z3p (zfl (PP U W) hp')
 exact (zvv (zvo (zvv (zvv rfl h) rfl)) rfl).trans h1
theorem zyv {p w:Nat} (hp':p < 64) (hw:w < 4):Float64.add (zio p) (J1 w)=hs (p + 16 * w):=eq_of_beq (zfl (zfl AA hw) hp')
theorem zzo {kd p w:Nat} (hk:kd < 3) (hp':p < 64) (hw:w < 4) (W:Sto):fnV (bfN 3 []) [4,5,6] zq1 W [.flt (hs (p + 16 * w)),.flt zp8,vOf kd p]=some (zhv (kdN kd p) ((p + 16 * w) % 64)):=by
 have hv:vOf kd p=(if kdN kd p=1 then .int 64 else .flt 4634204016564240384):=by
  unfold vOf kdN
  by_cases h:(decide (kd=0) || kd==1 && p !=32)=true
  ·rw [if_pos h,if_pos h,if_pos rfl]
  ·rw [if_neg h,if_neg h,if_neg (by decide)]
 rw [hv]
 have hk2:kdN kd p=1∨kdN kd p=2:=by unfold kdN;split <;> simp
 rcases hk2 with h | h
 ·rw [h];exact zep (zfl (H1 W) (by lia))
 ·rw [h];exact zep (zfl (H2 W) (by lia))
theorem z3q (kd p:Nat):kdN kd p < 3:=by unfold kdN;split <;> decide
theorem z1c {i j k:Nat}{f:Den}{base:Nat}{U:Ren}{W:Sto}{a b c:PV} (h:f U W=some (.tup [a,b,c])):zc (jn [(tNm i),(tNm j),(tNm k)]) f base U W=some (.next,upd (upd (upd U i a) j b) k c,W):=by
 unfold zc;rw [h];rfl
theorem zuv {base:Nat}{U:Ren}{W:Sto}{kd p:Nat} (h:U 80=some (zhv kd p)):zuu base U W=some (.next,upd (upd (upd U 36 (sgA kd p)) 37 (sgB kd p)) 38 (sgC kd p),W):=z1c h
theorem zux {base:Nat}{U:Ren}{W:Sto}{kd p:Nat} (hk:kd < 3) (hp':p < 64) (h1:U 36=some (sgA kd p)) (h2:U 37=some (sgB kd p)) (h3:U 38=some (sgC kd p)):
  zuw base U W=some (.next,upd (upd (upd U 87 (.flt (zio p))) 90 (.flt zp8)) 15 (vOf kd p),W):=z1c ((zlc h1 h2 h3).trans (zvq hk hp' W))
theorem zuz {base:Nat}{U:Ren}{W:Sto}{p:Nat} (hp':p < 64) (h:U 87=some (.flt (zio p))):zuy base U W=some (.next,upd U 0 (.int (p:Nat)),W):=zj (zt2 hp' W h)
theorem zu1 {base:Nat}{U:Ren}{W:Sto}{kd p:Nat} (hk:kd < 3) (hp':p < 64) (h1:U 80=some (zhv kd p)) (h2:U 0=some (.int (p:Nat))):zu0 base U W=some (.next,U,W):=by
 refine Jd ((qb (zp h1 ((Jr h2).trans (zes hp' W)) |>.trans (zmq hk hp' W))).trans rfl)
theorem zj1 (W:Sto) (l:List Nat) (i:Int):zn W (.str l) (.int i)=itS l i:=rfl
theorem zvb {base:Nat}{U:Ren}{W:Sto}{o:List Nat}{k a:Nat} (h1:U 91=some (.str o)) (h2:U 54=some (.int (k:Nat))) (hk:k < 4) (ho:o.length=4) (ha:o[k]? =some a):zva base U W=some (.next,upd U 83 (.str [a]),W):=by
 refine zj ((zp h1 h2).trans ?_)
 refine (zj1 _ _ _).trans ?_
 unfold itS
 rw [zj8 (by exact Nat.lt_add_left _ ‹_›),if_pos rfl,ho]
 have:k=0∨k=1∨k=2∨k=3:=by lia
 rcases this with rfl | rfl | rfl | rfl
 ·show (o[0]?).map _=_;rw [ha];rfl
 ·show (o[1]?).map _=_;rw [ha];rfl
 ·show (o[2]?).map _=_;rw [ha];rfl
 ·show (o[3]?).map _=_;rw [ha];rfl
theorem zws (pr:Nat→Bool) {x:Nat} (hx:qe x):(qo pr).contains x=pr x:=by
 have hm:x∈jh:=by rcases hx with rfl | rfl | rfl | rfl <;> decide
 rw [Bool.eq_iff_iff,List.contains_iff_mem]
 exact List.mem_filter.trans ⟨fun h=> h.2,fun h=> ⟨hm,h⟩⟩
theorem zro {U:Ren}{W:Sto}{f g:Den}{pr:Nat→Bool}{x:Nat} (hx:qe x) (h1:f U W=some (.str [x])) (h2:g U W=some (.str (qo pr))):d2 pIn f g U W=some (.bool (pr x)):=by
 rw [zp h1 h2,←zws pr hx];rfl
theorem zsi {base:Nat}{U:Ren}{W:Sto}{l:List (Nat×Nat)}{pr:Nat→Bool}{a kd p:Nat} (ha:qe a) (hk:kd < 3) (hp':p < 64) (h1:U 83=some (.str [a])) (h2:U 86=some (.dct [[97],[98],[99],[100]] [ja l 97,ja l 98,ja l 99,ja l 100])) (h3:U 89=some (.str (qo pr)))
  (h4:U 87=some (.flt (zio p))) (h5:U 88=some (.lst [.flt (J1 0),.flt (J1 1),.flt (J1 2),.flt (J1 3)])) (h6:U 90=some (.flt zp8)) (h7:U 15=some (vOf kd p)):
  zou base U W=some (.next,upd U 80 (zhv (kdN kd p) ((p + 16 * (q1 (tie l a a) 1 + 2 * q1 (pr a) 1)) % 64)),W):=by
 have hw:q1 (tie l a a) 1 + 2 * q1 (pr a) 1 < 4:=by unfold q1;split <;> split <;> decide
 have e1:d2 zx (d2 pIn (za 83) (d2 zn (za 86) (za 83))) (d2 j3 (dC (.int 2)) (d2 pIn (za 83) (za 89))) U W=some (.int (q1 (tie l a a) 1 + 2 * q1 (pr a) 1:Nat)):=by
  rw [zp (zry ha h1 h2 h1) (zp (a:= .int 2) rfl (zro ha h1 h3))]
  cases tie l a a <;> cases pr a <;> rfl
 have e2:d2 zn (za 88) (d2 zx (d2 pIn (za 83) (d2 zn (za 86) (za 83))) (d2 j3 (dC (.int 2)) (d2 pIn (za 83) (za 89)))) U W=some (.flt (J1 (q1 (tie l a a) 1 + 2 * q1 (pr a) 1))):=by
  rw [zp h5 e1]
  generalize q1 (tie l a a) 1 + 2 * q1 (pr a) 1=w at hw
  have:w=0∨w=1∨w=2∨w=3:=by lia
  rcases this with rfl | rfl | rfl | rfl <;> rfl
 have e3:d2 zx (za 87) (d2 zn (za 88) (d2 zx (d2 pIn (za 83) (d2 zn (za 86) (za 83))) (d2 j3 (dC (.int 2)) (d2 pIn (za 83) (za 89))))) U W=some (.flt (hs (p + 16 * (q1 (tie l a a) 1 + 2 * q1 (pr a) 1)))):=by
  rw [zp h4 e2,←zyv hp' hw];rfl
 exact zj ((zlc e3 h6 h7).trans (zzo hk hp' hw W))
theorem zsm {base:Nat}{U:Ren}{W:Sto}{pr:Nat→Bool}{a:Nat} (h1:U 82=some (.str (qo pr))) (h2:U 83=some (.str [a])):zoy base U W=some (.next,upd U 82 (.str (qo (j2 pr a))),W):=by
 have hc:qa [82,83] (tNm 74) (fIt (dC (.str [97,98,99,100]))) (tOf (d2 qr (d2 pIn (za 74) (za 82)) (d2 zv (za 74) (za 83)))) (za 74) U W=some (.lst ((qo (j2 pr a)).map fun x=> .str [x])):=by
  refine qm (its:=jh.map fun x=> .str [x]) rfl (jx _ (j2 pr a) _ _ fun x hx=> ?_) (by rw [xc];exact zm (by have:=q4 (j2 pr a);lia))
  ·have hx:qe x:=by unfold jh at hx;simp at hx;unfold qe;omega
   refine ⟨_,rfl, ?_,fun V=> rfl⟩
   have r82:(upd (zq [82,83] U) 74 (.str [x])) 82=some (.str (qo pr)):=h1
   have r83:(upd (zq [82,83] U) 74 (.str [x])) 83=some (.str [a]):=h2
   have e1:=zro (U:=upd (zq [82,83] U) 74 (.str [x])) (W:=W) (f:=za 74) (g:=za 82) hx rfl r82
   have e2:d2 zv (za 74) (za 83) (upd (zq [82,83] U) 74 (.str [x])) W=some (.bool ([x]==[a])):=(zp (a:= .str [x]) rfl r83).trans (zdc _ _ _)
   refine (qb ((zp e1 e2).trans (c:=some (.bool (!(pr x==([x]==[a]))))) rfl)).trans ?_
   simp only [trB]
   congr 1
   have:([x]==[a])=(x==a):=by
    by_cases h:x=a <;> simp [h]
   rw [this];rfl
 exact zj ((je rfl hc).trans (zd1 (by have:=q4 (j2 pr a);lia)))
structure St (U:Ren) (W:Sto) (l:List (Nat×Nat)) (f:Nat→Bool) (st e:Nat) (o:List Nat) (ti di:Nat) (pr:Nat→Bool) (L:List (List Nat×List Nat)) (kd:Nat):Prop where
 r12:U 12=some (.str (jr e))
 r44:U 44=some (.int (st:Nat))
 r60:U 60=some (.hdr ti)
 r72:U 72=some (.mref di)
 r70:U 70=some (za7 fun x=> f x ^^ par l pr x)
 r81:U 81=some (za7 f)
 r73:U 73=some (.lst (ze3 l))
 r86:U 86=some (.dct [[97],[98],[99],[100]] [ja l 97,ja l 98,ja l 99,ja l 100])
 r88:U 88=some (.lst [.flt (J1 0),.flt (J1 1),.flt (J1 2),.flt (J1 3)])
 r91:U 91=some (.str o)
 r80:U 80=some (zhv kd ((st + 16 * cnt l pr) % 64))
 r82:U 82=some (.str (qo pr))
 kd:kd < 3
 t:W[ti]? =some (L.map hp)
 d:W[di]? =some (L.map hp)
def zyd:Stm:=(zb zuu (zb zuw (zb zuy (zb zu0 (zb zu2 (zb zu4 (zb zu6 (zb zu8 (zb zva (zb zou (zb zov (zb zow (zb zox (zb zoy zl))))))))))))))
noncomputable def zrr:List Nat:=[63,64,67,68,69]
theorem z06 {U:Ren}{W:Sto}{l:List (Nat×Nat)}{f:Nat→Bool}{st e:Nat}{o:List Nat}{ti di:Nat}{pr:Nat→Bool}{L:List (List Nat×List Nat)}{kd k a:Nat} (S:St U W l f st e o ti di pr L kd) (hst:st < 64) (hk:k < 4) (ho:o.length=4) (ha:o[k]? =some a) (hla:qe a) (hne:ti≠di) (hL:L.length≤90):
  ∃ U' W' kd',zyd 0 (upd U 54 (.int (k:Nat))) W=some (.next,U',W')∧St U' W' l f st e o ti di (j2 pr a) (L ++ [hdE l pr]) kd'∧∀ j∈zrr,U' j=U j:=by
 have hp64:(st + 16 * cnt l pr) % 64 < 64:=Nat.mod_lt _ (by decide)
 generalize hpp:(st + 16 * cnt l pr) % 64=p at hp64
 have tlt:ti < W.length:=(xe.mp S.t).1
 have dlt:di < W.length:=(xe.mp S.d).1
 have r80:=S.r80
 rw [hpp] at r80
 generalize hU0:upd U 54 (.int (k:Nat))=U0
 have z:∀ j,j≠54→U0 j=U j:=fun j h=> by rw [←hU0];unfold upd;rw [if_neg h]
 have z54:U0 54=some (.int (k:Nat)):=by rw [←hU0];rfl
 have e1:=zuv (base:=0) (U:=U0) (W:=W) (kd:=kd) (p:=p) (by simp only [z 80 (by decide)];exact r80)
 generalize hU1:upd (upd (upd U0 36 (sgA kd p)) 37 (sgB kd p)) 38 (sgC kd p)=U1 at e1
 have z1:∀ j,j≠36→j≠37→j≠38→U1 j=U0 j:=fun j a b c=> by rw [←hU1];unfold upd;rw [if_neg c,if_neg b,if_neg a]
 have e2:=zux (base:=0) (U:=U1) (W:=W) S.kd hp64 (by rw [←hU1];rfl) (by rw [←hU1];rfl) (by rw [←hU1];rfl)
 generalize hU2:upd (upd (upd U1 87 (.flt (zio p))) 90 (.flt zp8)) 15 (vOf kd p)=U2 at e2
 have z2:∀ j,j≠87→j≠90→j≠15→U2 j=U1 j:=fun j a b c=> by rw [←hU2];unfold upd;rw [if_neg c,if_neg b,if_neg a]
 have e3:=zuz (base:=0) (U:=U2) (W:=W) hp64 (by rw [←hU2];rfl)
 generalize hU3:upd U2 0 (.int (p:Nat))=U3 at e3
 have z3:∀ j,j≠0→U3 j=U2 j:=fun j a=> by rw [←hU3];unfold upd;rw [if_neg a]
 have y3:∀ j,j≠54→j≠36→j≠37→j≠38→j≠87→j≠90→j≠15→j≠0→U3 j=U j:=fun j a b c d e f g h=> by simp only [z3 j h,z2 j e f g,z1 j b c d,z j a]
 have e4:=zu1 (base:=0) (U:=U3) (W:=W) S.kd hp64 (by rw [y3 80 (by decide) (by decide) (by decide) (by decide) (by decide) (by decide) (by decide) (by decide)];exact r80) (by rw [←hU3];rfl)
 have e5:=zu3 (base:=0) (U:=U3) (W:=W) (f:=f) (d:=par l pr) (by simp only [y3 70 (by decide) (by decide) (by decide) (by decide) (by decide) (by decide) (by decide) (by decide)];exact S.r70) (by rw [y3 81 (by decide) (by decide) (by decide) (by decide) (by decide) (by decide) (by decide) (by decide)];exact S.r81)
 generalize hU5:upd U3 89 (.str (qo (par l pr)))=U5 at e5
 have z5:∀ j,j≠89→U5 j=U3 j:=fun j a=> by rw [←hU5];unfold upd;rw [if_neg a]
 have y5:∀ j,j≠54→j≠36→j≠37→j≠38→j≠87→j≠90→j≠15→j≠0→j≠89→U5 j=U j:=fun j a b c d e f g h i=> by simp only [z5 j i,y3 j a b c d e f g h]
 have e6:=zu5 (U:=U5) (W:=W) (l:=l) (pr:=pr) (st:=st) (ti:=ti) (L:=L) (by rw [←hU5];rfl) (by rw [y5 82 (by decide) (by decide) (by decide) (by decide) (by decide) (by decide) (by decide) (by decide) (by decide)];exact S.r82) (by rw [z5 0 (by decide),←hU3,hpp];rfl) (by rw [y5 44 (by decide) (by decide) (by decide) (by decide) (by decide) (by decide) (by decide) (by decide) (by decide)];exact S.r44) (by rw [y5 60 (by decide) (by decide) (by decide) (by decide) (by decide) (by decide) (by decide) (by decide) (by decide)];exact S.r60) hst S.t (by lia)
 generalize hW6:W.set ti ((L ++ [hdE l pr]).map hp) ++ [[.str (hdE l pr).2]]=W6 at e6
 have d6:W6[di]? =some (L.map hp):=by rw [←hW6,List.getElem?_append_left (by simpa using dlt),List.getElem?_set_ne hne];exact S.d
 have t6:W6[ti]? =some ((L ++ [hdE l pr]).map hp):=by rw [←hW6,List.getElem?_append_left (by simpa using tlt),List.getElem?_set_self tlt]
 have e7:=zu7 (base:=0) (U:=U5) (W:=W6) (l:=l) (pr:=pr) (by rw [y5 82 (by decide) (by decide) (by decide) (by decide) (by decide) (by decide) (by decide) (by decide) (by decide)];exact S.r82) (by rw [y5 73 (by decide) (by decide) (by decide) (by decide) (by decide) (by decide) (by decide) (by decide) (by decide)];exact S.r73)
 generalize hU7:upd U5 92 (.str (qo (par l pr)))=U7 at e7
 have z7:∀ j,j≠92→U7 j=U5 j:=fun j a=> by rw [←hU7];unfold upd;rw [if_neg a]
 have y7:∀ j,j≠54→j≠36→j≠37→j≠38→j≠87→j≠90→j≠15→j≠0→j≠89→j≠92→U7 j=U j:=fun j a b c d e f g h i k=> by simp only [z7 j k,y5 j a b c d e f g h i]
 have e8:=zu9 (U:=U7) (W:=W6) (l:=l) (pr:=pr) (di:=di) (L:=L) (by rw [y7 82 (by decide) (by decide) (by decide) (by decide) (by decide) (by decide) (by decide) (by decide) (by decide) (by decide)];exact S.r82) (by rw [y7 73 (by decide) (by decide) (by decide) (by decide) (by decide) (by decide) (by decide) (by decide) (by decide) (by decide)];exact S.r73) (by rw [←hU7];rfl) (by rw [y7 72 (by decide) (by decide) (by decide) (by decide) (by decide) (by decide) (by decide) (by decide) (by decide) (by decide)];exact S.r72) d6 (by lia)
 generalize hW8:W6.set di ((L ++ [hdE l pr]).map hp)=W8 at e8
 have dlt6:di < W6.length:=(xe.mp d6).1
 have d8:W8[di]? =some ((L ++ [hdE l pr]).map hp):=by rw [←hW8,List.getElem?_set_self dlt6]
 have t8:W8[ti]? =some ((L ++ [hdE l pr]).map hp):=by rw [←hW8,List.getElem?_set_ne (fun e=> hne e.symm)];exact t6
 have e9:=zvb (base:=0) (U:=U7) (W:=W8) (o:=o) (k:=k) (a:=a) (by rw [y7 91 (by decide) (by decide) (by decide) (by decide) (by decide) (by decide) (by decide) (by decide) (by decide) (by decide)];exact S.r91) (by simp only [z7 54 (by decide),z5 54 (by decide),z3 54 (by decide),z2 54 (by decide) (by decide) (by decide),z1 54 (by decide) (by decide) (by decide)];exact z54) hk ho ha
 generalize hU9:upd U7 83 (.str [a])=U9 at e9
 have z9:∀ j,j≠83→U9 j=U7 j:=fun j a=> by rw [←hU9];unfold upd;rw [if_neg a]
 have y9:∀ j,j≠54→j≠36→j≠37→j≠38→j≠87→j≠90→j≠15→j≠0→j≠89→j≠92→j≠83→U9 j=U j:=fun j a b c d e f g h i k m=> by simp only [z9 j m,y7 j a b c d e f g h i k]
 have e10:=zsi (base:=0) (U:=U9) (W:=W8) (l:=l) (pr:=par l pr) (a:=a) (kd:=kd) (p:=p) hla S.kd hp64 (by rw [←hU9];rfl) (by simp only [y9 86 (by decide) (by decide) (by decide) (by decide) (by decide) (by decide) (by decide) (by decide) (by decide) (by decide) (by decide)];exact S.r86) (by simp only [z9 89 (by decide),z7 89 (by decide),←hU5];rfl)
  (by simp only [z9 87 (by decide),z7 87 (by decide),z5 87 (by decide),z3 87 (by decide),←hU2];rfl) (by rw [y9 88 (by decide) (by decide) (by decide) (by decide) (by decide) (by decide) (by decide) (by decide) (by decide) (by decide) (by decide)];exact S.r88) (by simp only [z9 90 (by decide),z7 90 (by decide),z5 90 (by decide),z3 90 (by decide),←hU2];rfl) (by simp only [z9 15 (by decide),z7 15 (by decide),z5 15 (by decide),z3 15 (by decide),←hU2];rfl)
 have hsig:(p + 16 * (q1 (tie l a a) 1 + 2 * q1 (par l pr a) 1)) % 64=(st + 16 * cnt l (j2 pr a)) % 64:=by
  have:=zmu (l:=l) (pr:=pr) hla
  rw [←hpp];lia
 rw [hsig] at e10
 generalize hU10:upd U9 80 (zhv (kdN kd p) ((st + 16 * cnt l (j2 pr a)) % 64))=U10 at e10
 have z10:∀ j,j≠80→U10 j=U9 j:=fun j a=> by rw [←hU10];unfold upd;rw [if_neg a]
 have e11:=zsj (base:=0) (U:=U10) (W:=W8) (l:=l) (a:=a) (e:=e) (f:=fun x=> f x ^^ par l pr x) hla (by simp only [z10 86 (by decide),y9 86 (by decide) (by decide) (by decide) (by decide) (by decide) (by decide) (by decide) (by decide) (by decide) (by decide) (by decide)];exact S.r86) (by simp only [z10 83 (by decide),←hU9];rfl) (by simp only [z10 70 (by decide),y9 70 (by decide) (by decide) (by decide) (by decide) (by decide) (by decide) (by decide) (by decide) (by decide) (by decide) (by decide)];exact S.r70) (by simp only [z10 12 (by decide),y9 12 (by decide) (by decide) (by decide) (by decide) (by decide) (by decide) (by decide) (by decide) (by decide) (by decide) (by decide)];exact S.r12)
 generalize hU11:upd U10 85 _=U11 at e11
 have z11:∀ j,j≠85→U11 j=U10 j:=fun j a=> by rw [←hU11];unfold upd;rw [if_neg a]
 have e12:=zsk (base:=0) (U:=U11) (W:=W8) (e:=e) (t:=tie l a) (f:=fun x=> f x ^^ par l pr x) (by rw [←hU11];rfl)
 generalize hU12:upd U11 84 _=U12 at e12
 have z12:∀ j,j≠84→U12 j=U11 j:=fun j a=> by rw [←hU12];unfold upd;rw [if_neg a]
 have e13:=zsl (base:=0) (U:=U12) (W:=W8) (t:=tie l a) (f:=fun x=> f x ^^ par l pr x) (by rw [←hU12];rfl)
 generalize hU13:upd U12 70 _=U13 at e13
 have z13:∀ j,j≠70→U13 j=U12 j:=fun j a=> by rw [←hU13];unfold upd;rw [if_neg a]
 have e14:=zsm (base:=0) (U:=U13) (W:=W8) (pr:=pr) (a:=a) (by simp only [z13 82 (by decide),z12 82 (by decide),z11 82 (by decide),z10 82 (by decide),y9 82 (by decide) (by decide) (by decide) (by decide) (by decide) (by decide) (by decide) (by decide) (by decide) (by decide) (by decide)];exact S.r82) (by simp only [z13 83 (by decide),z12 83 (by decide),z11 83 (by decide),z10 83 (by decide),←hU9];rfl)
 generalize hU14:upd U13 82 (.str (qo (j2 pr a)))=U14 at e14
 have z14:∀ j,j≠82→U14 j=U13 j:=fun j a=> by rw [←hU14];unfold upd;rw [if_neg a]
 have y14:∀ j,j≠54→j≠36→j≠37→j≠38→j≠87→j≠90→j≠15→j≠0→j≠89→j≠92→j≠83→j≠80→j≠85→j≠84→j≠70→j≠82→U14 j=U j:=fun j a b c d e f g h i k m n o p q r=> by simp only [z14 j r,z13 j q,z12 j p,z11 j o,z10 j n,y9 j a b c d e f g h i k m]
 have yy:∀ j,(decide (j∈[54,36,37,38,87,90,15,0,89,92,83,80,85,84,70,82]))=false→U14 j=U j:=fun j h=> by
  have h:=of_decide_eq_false h
  simp only [List.mem_cons,ya,or_false,not_or] at h
  refine bc fun J=> ?_
  obtain ⟨a,b,c,d,e,f,g,h,i,k,m,n,o,p,q,r⟩:=h
  refine J ?_
  exact y14 j a b c d e f g h i k m n o p q r
 refine ⟨U14,W8,kdN kd p, ?_,⟨?_, ?_, ?_, ?_, ?_, ?_, ?_, ?_, ?_, ?_, ?_, ?_,z3q _ _,t8,d8⟩, ?_⟩
 ·unfold zyd
  simp only [zd e1,zd e2,zd e3,zd e4,zd e5,zd e6,zd e7,zd e8,zd e9,zd e10,zd e11,zd e12,zd e13,zd e14];rfl
 ·rw [yy 12 (rfl)];exact S.r12
 ·rw [yy 44 (rfl)];exact S.r44
 ·rw [yy 60 (rfl)];exact S.r60
 ·rw [yy 72 (rfl)];exact S.r72
 ·simp only [z14 70 (by decide),←hU13]
  show some (za7 _)=_
  congr 1
  skip
  simp only [znu hla,zoh l a,Bool.xor_assoc]
 ·rw [yy 81 (rfl)];exact S.r81
 ·rw [yy 73 (rfl)];exact S.r73
 ·simp only [yy 86 (by decide)];exact S.r86
 ·rw [yy 88 (rfl)];exact S.r88
 ·rw [yy 91 (rfl)];exact S.r91
 ·simp only [z14 80 (by decide),z13 80 (by decide),z12 80 (by decide),z11 80 (by decide),←hU10];rfl
 ·rw [←hU14];rfl
 ·intro j hj
  refine yy j ?_
  unfold zrr at hj
  simp only [List.mem_cons,ya,or_false] at hj
  rcases hj with rfl | rfl | rfl | rfl | rfl <;> rfl
noncomputable def prs (o:List Nat):List Nat→(Nat→Bool)→List (Nat→Bool)
 | [],_=> []
 | k::ks,pr=> pr::prs o ks (j2 pr (o.getD k 0))
noncomputable def znx (o:List Nat):List Nat→(Nat→Bool)→(Nat→Bool)
 | [],pr=> pr
 | k::ks,pr=> znx o ks (j2 pr (o.getD k 0))
noncomputable def GR:List Nat:=[0,1,0,2,0,1,0,3,0,1,0,2,0,1,0,3]
theorem OS4:∀ o∈OS 4,o.length=4∧∀ k,k < 4→(o.getD k 0=97∨o.getD k 0=98∨o.getD k 0=99∨o.getD k 0=100):=by decide +kernel
theorem zzx {l:List (Nat×Nat)}{f:Nat→Bool}{st e:Nat}{o:List Nat}{ti di:Nat} (hst:st < 64) (ho:o∈OS 4) (hne:ti≠di):∀ (ks:List Nat) (U:Ren) (W:Sto) (pr:Nat→Bool) (L:List (List Nat×List Nat)) (kd:Nat),St U W l f st e o ti di pr L kd→(∀ k∈ks,k < 4)→L.length + ks.length≤90→
  ∃ U' W' kd',zbz (tNm 54) zyd 0 (ks.map fun (k:Nat)=> .int (k:Int)) U W=some (.next,U',W')∧St U' W' l f st e o ti di (znx o ks pr) (L ++ (prs o ks pr).map (hdE l)) kd'∧∀ j∈zrr,U' j=U j:=by
 obtain ⟨ho4,hol⟩:=OS4 o ho
 intro ks
 induction ks with
 | nil=> intro U W pr L kd S _ _;exact ⟨U,W,kd,rfl,by rw [show L ++ (prs o [] pr).map (hdE l)=L from List.append_nil L];exact S,fun V V=> rfl⟩
 | cons k ks ih=>
  intro U W pr L kd S hks hL
  have hk:=hks k xk
  simp only [List.length_cons] at hL
  have hget:o[k]? =some (o.getD k 0):=by
   rw [List.getD_eq_getElem?_getD,xt (by lia)];rfl
  refine bc fun J=> ?_
  obtain ⟨U1,W1,kd1,e1,S1,k1⟩:=z06 S hst hk ho4 hget (hol k hk) hne (by exact x8 (Nat.le_add_right _ _) ‹_›)
  obtain ⟨U2,W2,kd2,e2,S2,k2⟩:=ih U1 W1 (j2 pr (o.getD k 0)) (L ++ [hdE l pr]) kd1 S1 (fun k' h=> hks k' (xf _ h)) (by simp;lia)
  refine J ?_
  refine ⟨U2,W2,kd2, ?_, ?_,fun j hj=> (k2 j hj).trans (k1 j hj)⟩
  ·rw [List.map_cons]
   exact (Zi rfl e1).trans e2
  ·show St U2 W2 l f st e o ti di (znx o ks (j2 pr (o.getD k 0))) (L ++ ((prs o (k::ks) pr).map (hdE l))) kd2
   have:L ++ ((prs o (k::ks) pr).map (hdE l))=L ++ [hdE l pr] ++ (prs o ks (j2 pr (o.getD k 0))).map (hdE l):=List.append_cons _ _ _
   simp only [this];exact S2
theorem zny {o:List Nat} (pr:Nat→Bool) (x:Nat):znx o GR pr x=pr x:=by
 show j2 (j2 (j2 (j2 (j2 (j2 (j2 (j2 (j2 (j2 (j2 (j2 (j2 (j2 (j2 (j2 pr (o.getD 0 0)) (o.getD 1 0)) (o.getD 0 0)) (o.getD 2 0)) (o.getD 0 0)) (o.getD 1 0)) (o.getD 0 0)) (o.getD 3 0)) (o.getD 0 0)) (o.getD 1 0)) (o.getD 0 0)) (o.getD 2 0)) (o.getD 0 0)) (o.getD 1 0)) (o.getD 0 0)) (o.getD 3 0) x=pr x
 unfold j2
 generalize pr x=p
 generalize (x==o.getD 0 0)=a
 generalize (x==o.getD 1 0)=b
 generalize (x==o.getD 2 0)=c
 generalize (x==o.getD 3 0)=d
 revert p a b c d;decide
noncomputable def pr0:Nat→Bool:=fun V=> false
theorem zxs (o:List Nat):znx o GR pr0=pr0:=funext fun x=> zny pr0 x
theorem z0q (l:List (Nat×Nat)) (x:Nat):par l pr0 x=false:=rfl
theorem z5l (l:List (Nat×Nat)):cnt l pr0=0:=rfl
theorem z2k {U:Ren}{W:Sto}{l:List (Nat×Nat)}{f:Nat→Bool}{st e:Nat}{o:List Nat}{ti di:Nat} (hst:st < 64) (ho:o∈OS 4) (hne:ti≠di) (S:St U W l f st e o ti di pr0 [] 0):
  ∃ U' W' kd',L24 0 U W=some (.next,U',W')∧St U' W' l f st e o ti di pr0 ((prs o GR pr0).map (hdE l)) kd'∧∀ j∈zrr,U' j=U j:=by
 refine bc fun J=> ?_
 obtain ⟨U',W',kd',e1,S1,k1⟩:=zzx hst ho hne GR U W pr0 [] 0 S (by decide) (by decide)
 refine J ?_
 rw [zxs,List.nil_append] at S1
 refine ⟨U',W',kd', ?_,S1,k1⟩
 unfold L24 Q8
 have hit:fIt (qy [(dC (.int 0)),(dC (.int 1)),(dC (.int 0)),(dC (.int 2)),(dC (.int 0)),(dC (.int 1)),(dC (.int 0)),(dC (.int 3)),(dC (.int 0)),(dC (.int 1)),(dC (.int 0)),(dC (.int 2)),(dC (.int 0)),(dC (.int 1)),(dC (.int 0)),(dC (.int 3))]) (zdd false 0 W.length) U W=some (GR.map fun (k:Nat)=> .int (k:Int)):=rfl
 rw [hit]
 exact e1
theorem zqe (x y:PV) (a b:List PV):Jh (x::a) (y::b)=(match pEq x y,Jh a b with
  | some x,some y=> some (x && y)
  | _,_=> none):=rfl
theorem zjz {x y:PV}{a b:List PV}{i j:Bool} (h:pEq x y=some i) (h2:Jh a b=some j):Jh (x::a) (y::b)=some (i && j):=
 (zqe x y a b).trans (h.symm▸h2.symm▸rfl)
theorem zr3:∀ L:List (List Nat×List Nat),Jh (L.map hp) (L.map hp)=some true
 | []=> rfl
 | p::L=> by
  have h:pEq (hp p) (hp p)=some (p.1==p.1 && (p.2==p.2 && true)):=rfl
  rw [beq_self_eq_true,beq_self_eq_true] at h
  exact zjz h (zr3 L)
theorem zjc:∀ L:List (List Nat×List Nat),j0 (L.map hp)≤1
 | []=> by decide
 | p::L=> by
  exact Nat.max_le.mpr ⟨x9 1,zjc L⟩
theorem zw2 {W:Sto}{di:Nat}{L:List (List Nat×List Nat)} (h:W[di]? =some (L.map hp)):qr W (.lst (L.map hp)) (.mref di)=some (.bool false):=by
 have e:zxi W (.lst (L.map hp)) (.mref di)=some true:=by
  show (if (noM (.lst (L.map hp)) && noM (dr W (.mref di)) && decide (js (.lst (L.map hp))≤100))=true then pEq (.lst (L.map hp)) (dr W (.mref di)) else none)=_
  rw [zrc h]
  have h1:noM (.lst (L.map hp))=true:=zw4 L
  have h2:js (.lst (L.map hp))≤100:=by have:=zjc L;show j0 (L.map hp) + 1≤100;lia
  rw [h1,yd h2,if_pos (by rfl)]
  exact zr3 L
 unfold qr;rw [e];rfl
theorem zj0:∀ (a b:List (List Nat)),Jh (a.map .str) (b.map .str)=some (a==b)
 | [],[]=> rfl
 | [],_::_=> rfl
 | _::_,[]=> rfl
 | x::a,y::b=> zjz (i:=x==y) rfl (zj0 a b)
theorem zgq:∀ a:List (List Nat),j0 (a.map .str)=0
 | []=> rfl
 | x::a=> by show max 0 (j0 (a.map .str))=0;rw [zgq a];rfl
theorem zlt (W:Sto) (a b:List (List Nat)):qr W (.lst (a.map .str)) (.lst (b.map .str))=some (.bool (!(a==b))):=by
 have e:zxi W (.lst (a.map .str)) (.lst (b.map .str))=some (a==b):=by
  show (if (noM (.lst (a.map .str)) && noM (.lst (b.map .str)) && decide (js (.lst (a.map .str))≤100))=true then pEq (.lst (a.map .str)) (.lst (b.map .str)) else none)=_
  have h1:∀ a:List (List Nat),noM (.lst (a.map .str))=true:=zcn
  have h2:js (.lst (a.map .str))≤100:=by show j0 _ + 1≤100;rw [zgq];decide
  rw [h1,h1,yd h2,if_pos (by rfl)]
  exact zj0 a b
 unfold qr;rw [e];rfl
theorem zr5 (o:List Nat):∀ (ks:List Nat) (pr:Nat→Bool),(prs o ks pr).length=ks.length
 | [],_=> rfl
 | k::ks,pr=> congrArg Nat.succ (zr5 o ks _)
theorem zxh {t t':q7}{U:Ren}{W:Sto}{b:Bool} (h:t U W=some false) (h':t' U W=some b):tOr t t' U W=some b:=by unfold tOr;rw [h];exact h'
theorem z2l {base:Nat}{U:Ren}{W:Sto}{l:List (Nat×Nat)}{f:Nat→Bool}{st e:Nat}{o:List Nat}{ti di kd:Nat}{L:List (List Nat×List Nat)} (hst:st < 64) (S:St U W l f st e o ti di pr0 L kd) (hL:L.length=16):L25 base U W=some (.next,U,W):=by
 have e1:tOf (d2 qr (q5 (bfN 1 []) [14] zfu (za 60) []) (za 72)) U W=some false:=
  (qb ((zp ((zi8 S.r60).trans (ztf S.t hL)) S.r72).trans (zw2 S.d))).trans (trB _ _)
 have e2:tOf (d2 qr (za 70) (za 81)) U W=some false:=by
  have h1:U 70=some (za7 f):=by simp only [S.r70];unfold za7;simp only [z0q,Bool.xor_false]
  refine (qb ((zp h1 S.r81).trans (zlt W [q0 (f 97) 97,q0 (f 98) 98,q0 (f 99) 99,q0 (f 100) 100] [q0 (f 97) 97,q0 (f 98) 98,q0 (f 99) 99,q0 (f 100) 100]))).trans ?_
  simp only [trB,beq_self_eq_true];rfl
 have e3:tOf (d2 qr (za 80) (dFn (bfN 1 []) [0] J8 [(za 44)])) U W=some false:=by
  have h80:=S.r80
  rw [z5l,Nat.mul_zero,Nat.add_zero,Nat.mod_eq_of_lt hst] at h80
  exact (qb ((zp h80 ((Jr S.r44).trans (zes hst W))).trans (zmq S.kd hst W))).trans (trB _ _)
 exact Jd (zxh e1 (zxh e2 (zxh e3 rfl)))
noncomputable def prM (m:Nat):Nat→Bool:=fun x=> m.testBit (x - 97)
def zp2 (pr:Nat→Bool):Nat:=q1 (pr 97) 1 + q1 (pr 98) 2 + q1 (pr 99) 4 + q1 (pr 100) 8
def zw (m:Nat):List Nat:=qo (prM m)
theorem Qy {pr pr':Nat→Bool} (h:∀ x,qe x→pr x=pr' x):qo pr=qo pr':=by
 unfold qo
 refine List.filter_congr fun x hx=> h x ?_
 unfold jh at hx;simp at hx;unfold qe;lia
theorem zp3 (pr:Nat→Bool):∀ x,qe x→prM (zp2 pr) x=pr x:=by
 intro x hx
 unfold prM zp2
 rcases hx with rfl | rfl | rfl | rfl <;> cases pr 97 <;> cases pr 98 <;> cases pr 99 <;> cases pr 100 <;> rfl
theorem zj2 {l:List (Nat×Nat)}{pr pr':Nat→Bool} (h:∀ x,qe x→pr x=pr' x) (x:Nat):par l pr x=par l pr' x:=by
 have:=Qy h
 unfold qo at this
 unfold par;rw [this]
theorem zi6 {l:List (Nat×Nat)}{pr pr':Nat→Bool} (h:∀ x,qe x→pr x=pr' x):cnt l pr=cnt l pr':=by
 have:=Qy h
 unfold qo at this
 unfold cnt;rw [this]
theorem ztd {l:List (Nat×Nat)}{pr pr':Nat→Bool} (h:∀ x,qe x→pr x=pr' x):hdE l pr=hdE l pr':=by
 unfold hdE
 rw [Qy h,zi6 h,Qy (pr:=par l pr) (pr':=par l pr') fun x V=> zj2 h x]
def zap (o:List Nat):List Nat:=(prs o GR pr0).map zp2
theorem zpj (l:List (Nat×Nat)) (o:List Nat):(prs o GR pr0).map (hdE l)=(zap o).map fun m=> hdE l (prM m):=by
 unfold zap
 rw [xq]
 exact List.map_congr_left fun pr V=> ztd fun x hx=> (zp3 pr x hx).symm
theorem zlr:∀ o∈OS 4,(zap o).isPerm (List.range 16)=true:=by decide +kernel
theorem zhe {o:List Nat} (ho:o∈OS 4):(zap o).Perm (List.range 16):=List.isPerm_iff.mp (zlr o ho)
theorem zwx {o:List Nat} (ho:o∈OS 4) {m:Nat} (h:m∈zap o):m < 16:=List.mem_range.mp ((zhe ho).mem_iff.mp h)
structure OkP (l:List (Nat×Nat)) (pr:Nat→Bool) (oq:Nat×Nat):Prop where
 bit:∀ i,i < 4→oq.1.testBit i=par l pr (97 + i)
 lt:oq.1 < 16
 q:oq.2=cnt l pr % 4
def zoc (R i:Nat) (oq:Nat×Nat):Nat×Nat:=(oq.1 ^^^ R,(oq.2 + (q1 (R.testBit i) 1 + 2 * q1 (oq.1.testBit i) 1)) % 4)
theorem OkP.step {l:List (Nat×Nat)}{pr:Nat→Bool}{oq:Nat×Nat}{R i:Nat} (h:OkP l pr oq) (hi:i < 4) (hR:R < 16) (hb:∀ j,j < 4→R.testBit j=tie l (97 + j) (97 + i)):OkP l (j2 pr (97 + i)) (zoc R i oq):=by
 have hl:qe (97 + i):=by unfold qe;lia
 refine ⟨fun j hj=> ?_, ?_, ?_⟩
 ·unfold zoc
  rw [Nat.testBit_xor,h.bit j hj,hb j hj,znu hl]
 ·exact Nat.xor_lt_two_pow (n:=4) h.lt hR
 ·unfold zoc
  dsimp only
  rw [zmu hl,h.q,h.bit i hi,hb i hi]
  lia
theorem OkP.congr {l:List (Nat×Nat)}{pr pr':Nat→Bool}{oq:Nat×Nat} (h:OkP l pr oq) (e:∀ x,qe x→pr x=pr' x):OkP l pr' oq:=
 ⟨fun i hi=> (h.bit i hi).trans (zj2 e _),h.lt,h.q.trans (by rw [zi6 e])⟩
def dbl (R i:Nat) (t:List (Nat×Nat)):List (Nat×Nat):=t ++ t.map (zoc R i)
def z7v (R0 R1 R2 R3:Nat):List (Nat×Nat):=dbl R3 3 (dbl R2 2 (dbl R1 1 (dbl R0 0 [(0,0)])))
noncomputable def zgi (l:List (Nat×Nat)) (n:Nat) (t:List (Nat×Nat)):Prop:=t.length=2 ^ n∧∀ m,m < 2 ^ n→OkP l (prM m) (t.getD m (0,0))
theorem zgi.dbl {l:List (Nat×Nat)}{R i:Nat}{t:List (Nat×Nat)} (h:zgi l i t) (hi:i < 4) (hR:R < 16) (hb:∀ j,j < 4→R.testBit j=tie l (97 + j) (97 + i)):zgi l (i + 1) (dbl R i t):=by
 obtain ⟨h1,h2⟩:=h
 refine ⟨by unfold Mine.dbl;rw [xz,xc,h1,Nat.pow_succ];lia,fun m hm=> ?_⟩
 unfold Mine.dbl
 by_cases hlt:m < 2 ^ i
 ·rw [List.getD_eq_getElem?_getD,List.getElem?_append_left (by lia),←List.getD_eq_getElem?_getD]
  exact h2 m hlt
 ·have hm':m - 2 ^ i < 2 ^ i:=by rw [Nat.pow_succ] at hm;lia
  rw [List.getD_eq_getElem?_getD,List.getElem?_append_right (by lia),List.getElem?_map,h1]
  have hget:t[m - 2 ^ i]? =some (t.getD (m - 2 ^ i) (0,0)):=by
   rw [List.getD_eq_getElem?_getD,xt (by lia)];rfl
  rw [hget]
  show OkP l (prM m) (zoc R i (t.getD (m - 2 ^ i) (0,0)))
  refine ((h2 _ hm').step hi hR hb).congr fun x hx=> ?_
  unfold j2 prM
  have hx97:∃ j,j < 4∧x=97 + j:=by
   rcases hx with rfl | rfl | rfl | rfl
   ·exact ⟨0,by decide,rfl⟩
   ·exact ⟨1,by decide,rfl⟩
   ·exact ⟨2,by decide,rfl⟩
   ·exact ⟨3,by decide,rfl⟩
  obtain ⟨j,hj,rfl⟩:=hx97
  rw [show 97 + j - 97=j by lia]
  have hij:i=0∨i=1∨i=2∨i=3:=by lia
  have:∀ i,i < 4→∀ j,j < 4→∀ m,m < 2 ^ (i + 1)→2 ^ i≤m→((m - 2 ^ i).testBit j !=(97 + j==97 + i))=m.testBit j:=by decide +kernel
  exact this i hi j hj m hm (by lia)
noncomputable def ixL:List Nat:=[0,1,3,6,1,2,4,7,3,4,5,8,6,7,8,9]
def ix (a b:Nat):Nat:=ixL.getD (4 * a + b) 9
theorem z5z (a b:Nat):ix a b < 10:=by
 have h:∀ k,k < 16→ixL.getD k 9 < 10:=by decide
 by_cases hk:4 * a + b < 16
 ·exact h _ hk
 ·show (ixL[4 * a + b]?).getD 9 < 10
  rw [List.getElem?_eq_none (Nat.le_of_not_lt hk)];decide
theorem znj {T:Nat}{p:Nat×Nat}:p∈qf T↔∃ i,(p,i)∈zgg.zipIdx∧T.testBit i=true:=by
 unfold qf
 rw [xr]
 constructor
 ·rintro ⟨⟨q,i⟩,h,rfl⟩
  obtain ⟨h1,h2⟩:=List.mem_filter.mp h
  exact ⟨i,h1,h2⟩
 ·rintro ⟨i,h1,h2⟩
  exact ⟨(p,i),List.mem_filter.mpr ⟨h1,h2⟩,rfl⟩
theorem z4k:∀ i,i < 4→∀ j,j < 4→zgg.zipIdx[ix i j]? =some ((97 + min i j,97 + max i j),ix i j):=by decide
theorem zwq:∀ i,i < 4→∀ j,j < 4→∀ q∈zgg.zipIdx,q.1=(97 + i,97 + j)∨q.1=(97 + j,97 + i)→q.2=ix i j:=by decide
theorem zeg (T:Nat) {i j:Nat} (hi:i < 4) (hj:j < 4):tie (qf T) (97 + i) (97 + j)=T.testBit (ix i j):=by
 rw [Bool.eq_iff_iff,zd6,znj,znj]
 constructor
 ·rintro (⟨k,h,e⟩ | ⟨k,h,e⟩)
  ·rw [←zwq i hi j hj _ h (.inl rfl)];exact e
  ·rw [←zwq i hi j hj _ h (.inr rfl)];exact e
 ·intro e
  have t:=xw (z4k i hi j hj)
  rcases Nat.le_total i j with h | h
  ·rw [Nat.min_eq_left h,Nat.max_eq_right h] at t;exact .inl ⟨_,t,e⟩
  ·rw [Nat.min_eq_right h,Nat.max_eq_left h] at t;exact .inr ⟨_,t,e⟩
def zht (T i:Nat):Nat:=q1 (T.testBit (ix 0 i)) 1 + q1 (T.testBit (ix 1 i)) 2 + q1 (T.testBit (ix 2 i)) 4 + q1 (T.testBit (ix 3 i)) 8
theorem zku:∀ a b c d:Bool,(q1 a 1 + q1 b 2 + q1 c 4 + q1 d 8).testBit 0=a∧(q1 a 1 + q1 b 2 + q1 c 4 + q1 d 8).testBit 1=b∧(q1 a 1 + q1 b 2 + q1 c 4 + q1 d 8).testBit 2=c∧(q1 a 1 + q1 b 2 + q1 c 4 + q1 d 8).testBit 3=d∧q1 a 1 + q1 b 2 + q1 c 4 + q1 d 8 < 16:=by decide +kernel
theorem zxy (T:Nat) {i j:Nat} (hj:j < 4):(zht T i).testBit j=T.testBit (ix j i):=by
 obtain ⟨h0,h1,h2,h3,_⟩:=zku (T.testBit (ix 0 i)) (T.testBit (ix 1 i)) (T.testBit (ix 2 i)) (T.testBit (ix 3 i))
 unfold zht
 have hj':j=0∨j=1∨j=2∨j=3:=by lia
 rcases hj' with rfl | rfl | rfl | rfl
 ·exact h0
 ·exact h1
 ·exact h2
 ·exact h3
theorem zga (T i:Nat):zht T i < 16:=(zku _ _ _ _).2.2.2.2
def zz (T:Nat):List (Nat×Nat):=z7v (zht T 0) (zht T 1) (zht T 2) (zht T 3)
theorem zge (T:Nat):zgi (qf T) 4 (zz T):=by
 have h0:zgi (qf T) 0 [(0,0)]:=by
  refine ⟨rfl,fun m hm=> ?_⟩
  have:m=0:=by simpa using hm
  subst this
  have e:∀ x,qe x→pr0 x=prM 0 x:=fun x V=> by unfold pr0 prM;simp
  refine OkP.congr ⟨fun i hi=> ?_,by decide, ?_⟩ e
  ·show (0:Nat).testBit i=par (qf T) pr0 (97 + i);rw [z0q];simp
  ·rfl
 have hb:∀ i,i < 4→∀ j,j < 4→(zht T i).testBit j=tie (qf T) (97 + j) (97 + i):=fun i hi j hj=> by rw [zxy T hj,zeg T hj hi]
 exact (((h0.dbl (by decide) (zga T 0) (hb 0 (by decide))).dbl (by decide) (zga T 1) (hb 1 (by decide))).dbl (by decide) (zga T 2) (hb 2 (by decide))).dbl (by decide) (zga T 3) (hb 3 (by decide))
theorem zee (T i:Nat):zht (T % 1024) i=zht T i:=by
 have h:∀ k,k < 10→(T % 1024).testBit k=T.testBit k:=fun k hk=> by
  rw [show (1024:Nat)=2 ^ 10 from rfl,Nat.testBit_mod_two_pow,yd hk,Bool.true_and]
 have hix:=z5z
 unfold zht
 rw [h _ (hix 0 i),h _ (hix 1 i),h _ (hix 2 i),h _ (hix 3 i)]
theorem zyb (T:Nat):zz (T % 1024)=zz T:=by unfold zz;rw [zee,zee,zee,zee]
def zez (x:Nat):Nat:=q1 (x.testBit 0) 1 + q1 (x.testBit 1) 1 + q1 (x.testBit 2) 1 + q1 (x.testBit 3) 1
theorem zxq:∀ m,m < 16→∀ n,n < 16→((zw m).filter (prM n)).length=zez (m &&& n):=by decide +kernel
noncomputable def od (t:List (Nat×Nat)) (m:Nat):Nat:=(t.getD m (0,0)).1
noncomputable def qt (t:List (Nat×Nat)) (m:Nat):Nat:=(t.getD m (0,0)).2
def Z8 (t:List (Nat×Nat)) (Ms:List Nat):List Nat:=Ms.filter fun m=> od t m==0
def zab (t:List (Nat×Nat)) (Ms:List Nat) (n:Nat):Bool:=(Z8 t Ms).all fun m=> zez (m &&& n) % 2==0
def zk0 (t:List (Nat×Nat)) (Ms:List Nat) (n:Nat):Bool:=(Ms.filter fun m=> od t m==n).length==(Z8 t Ms).length * (if zab t Ms n then 1 else 0)
noncomputable def Ja (qs:List Nat):Int×Int:=((qs.count 0:Int) - qs.count 2,(qs.count 1:Int) - qs.count 3)
def Ze (T:Nat):Nat:=q1 (T.testBit 0) 1 + q1 (T.testBit 2) 2 + q1 (T.testBit 5) 4 + q1 (T.testBit 9) 8
def zbw (t:List (Nat×Nat)) (Ms:List Nat) (k:Nat):Int×Int:=Ja ((Ms.filter fun m=> od t m==k).map (qt t))
noncomputable def zgy {α:Type} (n:Nat) (k:Nat→α):α:=Nat.rec (motive:=fun V=> α) (k 0) (fun n V=> k (Nat.succ n)) n
theorem zen {α:Type} (n:Nat) (k:Nat→α):zgy n k=k n:=by cases n <;> rfl
def zem {α:Type} (l:List Nat) (k:List Nat→α):α:=List.rec (motive:=fun V=> (List Nat→α)→α) (fun k=> k []) (fun x V ih k=> zgy x fun a=> ih fun r=> k (a::r)) l k
theorem za2 {α:Type}:∀ (l:List Nat) (k:List Nat→α),zem l k=k l
 | [],_=> rfl
 | z::r,k=> by
  show zgy z (fun a=> zem r fun r=> k (a::r))=_
  rw [zen,za2 r]
theorem z5d (x n:Nat):Nat.beq x n=(x==n):=by
 rw [Bool.eq_iff_iff,beq_iff_eq,Nat.beq_eq]
noncomputable def zms (n:Nat) (l:List Nat):Nat:=List.rec (motive:=fun V=> Nat) 0 (fun x V ih=> Nat.add (cond (Nat.beq x n) 1 0) ih) l
theorem zbg (n:Nat):∀ l:List Nat,zms n l=l.count n
 | []=> rfl
 | x::l=> by
  show Nat.add (cond (Nat.beq x n) 1 0) (zms n l)=_
  rw [zbg n l,List.count_cons]
  have:Nat.beq x n=(x==n):=z5d x n
  rw [this]
  cases x==n <;> simp [Nat.add_comm]
noncomputable def evR (n:Nat) (l:List Nat):Bool:=List.rec (motive:=fun V=> Bool) true (fun m V ih=> cond (Nat.beq (Nat.land (Nat.shiftRight 27030 (Nat.land m n)) 1) 0) ih false) l
theorem z3e:∀ x,x < 16→Nat.beq (Nat.land (Nat.shiftRight 27030 x) 1) 0=(zez x % 2==0):=by decide +kernel
theorem zv6 {n:Nat} (hn:n < 16):∀ l:List Nat,evR n l=l.all fun m=> zez (m &&& n) % 2==0
 | []=> rfl
 | x::l=> by
  show cond (Nat.beq (Nat.land (Nat.shiftRight 27030 (x &&& n)) 1) 0) (evR n l) false=_
  rw [z3e _ (Nat.lt_of_le_of_lt Nat.and_le_right hn),zv6 hn l,List.all_cons]
  cases (zez (x &&& n) % 2==0) <;> rfl
noncomputable def zqo (k:Nat) (l:List Nat) (m:List Nat):List Nat:=List.rec (motive:=fun V=> List Nat→List Nat) (fun V=> []) (fun x V ih m=> List.rec (motive:=fun V=> List Nat) [] (fun y r V=> cond (Nat.beq x k) (y::ih r) (ih r)) m) l m
theorem zgc {α:Type} (k:Nat) (f g:α→Nat):∀ l:List α,zqo k (l.map f) (l.map g)=(l.filter fun x=> f x==k).map g
 | []=> rfl
 | x::l=> by
  show cond (Nat.beq (f x) k) (g x::zqo k (l.map f) (l.map g)) (zqo k (l.map f) (l.map g))=_
  rw [zgc k f g l,List.filter_cons]
  have:Nat.beq (f x) k=(f x==k):=z5d _ _
  rw [this]
  cases f x==k <;> rfl
def zw0 (l:List Nat):Int×Int:=(Int.sub (zms 0 l) (zms 2 l),Int.sub (zms 1 l) (zms 3 l))
theorem zls (l:List Nat):zw0 l=Ja l:=by unfold zw0 Ja;rw [zbg,zbg,zbg,zbg];rfl
noncomputable def znl (g a b:Int×Int):Bool:=g.1 ^ 2 + g.2 ^ 2==16 * a.1 && 16 * a.2==0 && g.1 ^ 2 - g.2 ^ 2==16 * b.1 && 2 * g.1 * g.2==16 * b.2
noncomputable def R16:List Nat:=List.range 16
noncomputable def z21 (p:Nat→Bool) (l:List Nat):Bool:=List.rec (motive:=fun V=> Bool) true (fun x V ih=> cond (p x) ih false) l
theorem zq6 (p:Nat→Bool):∀ l:List Nat,z21 p l=l.all p
 | []=> rfl
 | x::l=> by
  show cond (p x) (z21 p l) false=_
  rw [zq6 p l,List.all_cons];cases p x <;> rfl
def zrk (s:Nat) (I O Q:List Nat):Bool:=
 zem (zqo 0 O I) fun K=> zgy (List.length K) fun k=>
 cond (z21 (fun n=> Nat.beq (zms n O) (cond (evR n K) k 0)) I) (cond (Nat.beq (zms s O) 0) false (znl (zw0 Q) (zw0 (zqo 0 O Q)) (zw0 (zqo s O Q)))) false
theorem ztc {T:Nat}{t:List (Nat×Nat)} (h:zrk (Ze T) R16 (R16.map (od t)) (R16.map (qt t))=true):
  (∀ n,n < 16→zk0 t R16 n=true)∧(R16.any fun m=> od t m==Ze T)=true∧znl (Ja (R16.map (qt t))) (zbw t R16 0) (zbw t R16 (Ze T))=true:=by
 unfold zrk at h
 rw [za2,zen] at h
 have hK:zqo 0 (R16.map (od t)) R16=Z8 t R16:=by
  have:=zgc 0 (od t) id R16
  rw [List.map_id,List.map_id] at this
  exact this
 rw [hK,zq6] at h
 have cond_and:∀ a b:Bool,cond a b false=(a && b):=by decide
 have cond_not:∀ a b:Bool,cond a false b=(!a && b):=by decide
 rw [cond_and,cond_not,xi,xi] at h
 obtain ⟨h1,h2,h3⟩:=h
 refine ⟨fun n hn=> ?_, ?_, ?_⟩
 ·have:=xo.mp h1 n (List.mem_range.mpr hn)
  rw [zbg,zv6 hn] at this
  have e1:(R16.map (od t)).count n=(R16.filter fun m=> od t m==n).length:=by
   rw [List.count_eq_countP,List.countP_map,List.countP_eq_length_filter];rfl
  rw [e1] at this
  unfold zk0 zab
  have:=Nat.eq_of_beq_eq_true this
  rw [this]
  cases ((Z8 t R16).all fun m=> zez (m &&& n) % 2==0) <;> simp
 ·rw [zbg] at h2
  have:(R16.map (od t)).count (Ze T)≠0:=by
   intro e;rw [e] at h2;cases h2
  have:=List.count_pos_iff.mp (Nat.pos_of_ne_zero this)
  obtain ⟨m,hm,e⟩:=xr.mp this
  exact List.any_eq_true.mpr ⟨m,hm,beq_iff_eq.mpr e⟩
 ·rw [zls,zls,zls,zgc,zgc] at h3
  exact h3
def zg2 (T:Nat):Bool:=zem ((zz T).map (·.1)) fun O=> zem ((zz T).map (·.2)) fun Q=> zgy (Ze T) fun s=> zem R16 fun I=> zrk s I O Q
theorem zsd (T:Nat):(zz T).length=16:=(zge T).1
theorem zjr {α β:Type} (d:α) (f:α→β) (t:List α) (n:Nat) (h:t.length=n):(List.range n).map (fun m=> f (t.getD m d))=t.map f:=by
 subst h
 apply List.ext_getElem
 ·simp
 ·intro i h1 h2
  simp at h1 h2⊢
  rw [xt h2];rfl
theorem ztb {T:Nat} (h:zg2 T=true):zrk (Ze T) R16 (R16.map (od (zz T))) (R16.map (qt (zz T)))=true:=by
 unfold zg2 at h
 rw [za2,za2,zen,za2] at h
 have e1:R16.map (od (zz T))=(zz T).map (·.1):=zjr (0,0) (·.1) (zz T) 16 (zsd T)
 have e2:R16.map (qt (zz T))=(zz T).map (·.2):=zjr (0,0) (·.2) (zz T) 16 (zsd T)
 rw [e1,e2];exact h
theorem gf0:((List.range 256).all zg2)=true:=by kernel_rfl
theorem gf1:((List.range 256).all fun T=> zg2 (T + 256))=true:=by kernel_rfl
theorem gf2:((List.range 256).all fun T=> zg2 (T + 512))=true:=by kernel_rfl
theorem gf3:((List.range 256).all fun T=> zg2 (T + 768))=true:=by kernel_rfl
theorem zta {T:Nat} (h:T < 1024):zg2 T=true:=by
 by_cases h0:T < 256
 ·exact xo.mp gf0 T (List.mem_range.mpr h0)
 by_cases h1:T < 512
 ·have:=xo.mp gf1 (T - 256) (List.mem_range.mpr (by lia))
  rwa [Nat.sub_add_cancel (by lia)] at this
 by_cases h2:T < 768
 ·have:=xo.mp gf2 (T - 512) (List.mem_range.mpr (by lia))
  rwa [Nat.sub_add_cancel (by lia)] at this
 ·have:=xo.mp gf3 (T - 768) (List.mem_range.mpr (by lia))
  rwa [Nat.sub_add_cancel (by lia)] at this
theorem zfw (T k:Nat) (hk:k < 10):(T % 1024).testBit k=T.testBit k:=by
 rw [show (1024:Nat)=2 ^ 10 from rfl,Nat.testBit_mod_two_pow,yd hk,Bool.true_and]
theorem zxz (T:Nat):Ze (T % 1024)=Ze T:=by
 unfold Ze
 rw [zfw T 0 (by decide),zfw T 2 (by decide),zfw T 5 (by decide),zfw T 9 (by decide)]
theorem zd0 (T:Nat):(∀ n,n < 16→zk0 (zz T) R16 n=true)∧(R16.any fun m=> od (zz T) m==Ze T)=true∧znl (Ja (R16.map (qt (zz T)))) (zbw (zz T) R16 0) (zbw (zz T) R16 (Ze T))=true:=by
 have:=ztc (ztb (zta (Nat.mod_lt T (show 0 < 1024 by decide))))
 rwa [zyb,zxz] at this
def ent (t:List (Nat×Nat)) (m:Nat):List Nat×List Nat:=(120::zw (od t m),zw m ++ Jt (qt t m))
theorem zr0 (T:Nat) {m:Nat} (hm:m < 16):od (zz T) m < 16:=((zge T).2 m hm).lt
theorem zxv (T:Nat) {m:Nat} (hm:m < 16):qt (zz T) m < 4:=by
 have:=((zge T).2 m hm).q
 unfold qt;rw [this];exact Nat.mod_lt _ (by decide)
theorem zzl (T:Nat) {m:Nat} (hm:m < 16):hdE (qf T) (prM m)=ent (zz T) m:=by
 have K:=(zge T).2 m hm
 have e1:qo (par (qf T) (prM m))=zw (od (zz T) m):=by
  unfold zw
  refine Qy fun x hx=> ?_
  rcases hx with rfl | rfl | rfl | rfl
  ·exact (K.bit 0 (by decide)).symm
  ·exact (K.bit 1 (by decide)).symm
  ·exact (K.bit 2 (by decide)).symm
  ·exact (K.bit 3 (by decide)).symm
 unfold hdE ent
 rw [e1]
 have e2:cnt (qf T) (prM m) % 4=qt (zz T) m:=K.q.symm
 rw [e2];rfl
theorem zp4:∀ a,a < 16→qi (120::zw a)=120::zw a∧jk (120::zw a)=true:=by decide +kernel
theorem zno:∀ k,k < 16→qi (88::zcd (zw k))=120::zw k∧jk (88::zcd (zw k))=true∧Qo (120::zw k)=true∧(Builtin.Str.tooLong (Txt.upper (mk (zw k))).length=false∧(zcd (zw k)).length≤4):=by decide +kernel
theorem zzw:∀ a,a < 16→∀ b,b < 16→((120::zw a)==(120::zw b))=(a==b):=by decide +kernel
theorem zcl (m:Nat):(zw m).length≤4:=q4 _
theorem z4h:∀ m,m < 16→∀ q,q < 4→(Txt.stripChars (mk (zw m ++ Jt q)) (mk [48,49,50,51,52,53,54,55,56,57])).cps.toList=zw m:=by decide +kernel
theorem z4g:∀ m,m < 16→∀ q,q < 4→(Txt.stripChars (mk (zw m ++ Jt q)) (mk [97,98,99,100])).cps.toList=Jt q:=by decide +kernel
theorem zz3:∀ q,q < 4→PySem.intText? (mk (Jt q))=some ((16 * q:Nat):Int):=by decide +kernel
def zdb (t:List (Nat×Nat)) (m:Nat):PV:= .str (zw m ++ Jt (qt t m))
theorem zre {T:Nat}{m:Nat} (hm:m < 16):jk (ent (zz T) m).1=true:=(zp4 _ (zr0 T hm)).2
theorem zsp (T k:Nat) {Ms:List Nat} (hM:∀ m∈Ms,m < 16) (hk:k < 16) {n:List Nat} (hn:qi n=120::zw k):(ze7 (Ms.map (ent (zz T))) n).map PV.str=(Ms.filter fun m=> od (zz T) m==k).map (zdb (zz T)):=by
 unfold ze7
 rw [List.filter_map,xq,xq,hn]
 have:Ms.filter ((fun p=> qi p.1==120::zw k)∘ent (zz T))=Ms.filter fun m=> od (zz T) m==k:=List.filter_congr fun m hm=> by
  show (qi (120::zw (od (zz T) m))==120::zw k)=_
  rw [(zp4 _ (zr0 T (hM m hm))).1,zzw _ (zr0 T (hM m hm)) _ hk]
 rw [this];rfl
structure Tb (U:Ren) (W:Sto) (T:Nat) (Ms:List Nat) (ti di:Nat):Prop where
 r60:U 60=some (.hdr ti)
 r72:U 72=some (.mref di)
 r73:U 73=some (.lst (ze3 (qf T)))
 t:W[ti]? =some ((Ms.map (ent (zz T))).map hp)
 d:W[di]? =some ((Ms.map (ent (zz T))).map hp)
 pm:Ms.Perm R16
theorem Tb.upd {U:Ren}{W:Sto}{T:Nat}{Ms:List Nat}{ti di:Nat} (B:Tb U W T Ms ti di) {i:Nat}{p:PV} (h:i≠60∧i≠72∧i≠73):Tb (upd U i p) W T Ms ti di:=
 ⟨by unfold Mine.upd;rw [if_neg (Ne.symm h.1)];exact B.r60,by unfold Mine.upd;rw [if_neg (Ne.symm h.2.1)];exact B.r72,by unfold Mine.upd;rw [if_neg (Ne.symm h.2.2)];exact B.r73,B.t,B.d,B.pm⟩
theorem Tb.lt {U:Ren}{W:Sto}{T:Nat}{Ms:List Nat}{ti di:Nat} (B:Tb U W T Ms ti di):∀ m∈Ms,m < 16:=fun m h=> List.mem_range.mp (B.pm.mem_iff.mp h)
theorem Tb.len {U:Ren}{W:Sto}{T:Nat}{Ms:List Nat}{ti di:Nat} (B:Tb U W T Ms ti di):Ms.length=16:=B.pm.length_eq
theorem Tb.all {U:Ren}{W:Sto}{T:Nat}{Ms:List Nat}{ti di:Nat} (B:Tb U W T Ms ti di) {fd:Den}{n:List Nat}{k:Nat} (hk:k < 16) (hf:fd U W=some (.str n)) (h1:qi n=120::zw k) (h2:jk n=true):
  q5 (bfN 2 []) [14,16] jp (za 60) [fd] U W=some (.lst ((Ms.filter fun m=> od (zz T) m==k).map (zdb (zz T)))):=by
 refine ((Qx B.r60 hf).trans (zg1 B.t (by rw [xc,B.len];decide) h2 (by rw [h1];exact (zno k hk).2.2.1) ?_)).trans ?_
 ·intro p hp'
  obtain ⟨m,hm,rfl⟩:=xr.mp hp'
  exact zre (B.lt m hm)
 ·rw [zsp T k B.lt hk h1]
theorem z24 {U:Ren}{W:Sto}{j k:Nat} (hk:k < 16) (h:U j=some (.str (zw k))):d2 zx (dC (.str [88])) (zf Zx ((za j)::[])) U W=some (.str (88::zcd (zw k))):=by
 refine bc fun J=> ?_
 obtain ⟨_,_,_,h1,h2⟩:=zno k hk
 refine J ?_
 have e:zf Zx ((za j)::[]) U W=some (.str (zcd (zw k))):=by
  rw [qq (f:=za j) h]
  show (if Builtin.Str.tooLong (Txt.upper (mk (zw k))).length=false then some (PV.str (Txt.upper (mk (zw k))).cps.toList) else none)=_
  rw [if_pos h1];rfl
 rw [zp (a:= .str [88]) rfl e]
 show (if ze (1 + (zcd (zw k)).length)=true then some (PV.str ([88] ++ zcd (zw k))) else none)=_
 rw [if_pos (zm (by lia))];rfl
theorem x0:qi [88]=120::zw 0∧jk [88]=true:=by decide +kernel
theorem zm1 {T m:Nat} (hm:m < 16):(zw m ++ Jt (qt (zz T) m)).length≤10:=by
 rw [xz]
 have:=zcl m
 have:=(Ju _ (zxv T hm)).2
 lia
def J3 (T:Nat) (Ms:List Nat):List (List Nat):=(Z8 (zz T) Ms).map zw
theorem z2m {base:Nat}{U:Ren}{W:Sto}{T:Nat}{Ms:List Nat}{ti di:Nat} (B:Tb U W T Ms ti di):L26 base U W=some (.next,upd U 77 (.lst ((J3 T Ms).map .str)),W):=by
 have hl:(Ms.filter fun m=> od (zz T) m==0).length≤16:=x8 (yb _ _) (Nat.le_of_eq B.len)
 refine zj (qm (Qi (B.all (k:=0) (by decide) rfl x0.1 x0.2) (by rw [xc];exact zm (by lia))) ((Za _ (fun m=> .str (Txt.stripChars (mk (zw m ++ Jt (qt (zz T) m))) (mk [48,49,50,51,52,53,54,55,56,57])).cps.toList) _ fun m hm=> ?_).trans ?_) ?_)
 ·have hm':=B.lt m (List.mem_filter.mp hm).1
  refine ⟨_,rfl, ?_⟩
  refine (je rfl rfl).trans ?_
  show (if ze (zw m ++ Jt (qt (zz T) m)).length=true then some (PV.str _) else none)=_
  rw [if_pos (zm (by have:=zm1 (T:=T) hm';lia))]
 ·congr 1
  unfold J3 Z8
  rw [xq]
  refine List.map_congr_left fun m hm=> ?_
  have hm':=B.lt m (List.mem_filter.mp hm).1
  show PV.str (Txt.stripChars (mk (zw m ++ Jt (qt (zz T) m))) (mk [48,49,50,51,52,53,54,55,56,57])).cps.toList=PV.str (zw m)
  rw [z4h m hm' _ (zxv T hm')]
 ·unfold J3 Z8;rw [xc,xc];exact zm (by lia)
theorem zw9 {α:Type}{f g:Nat→α}{N:Nat} (h:(List.range N).map f=(List.range N).map g) {n:Nat} (hn:n < N):f n=g n:=by
 have h:=congrArg (·[n]?) h
 simp only [List.getElem?_map,List.getElem?_range hn,Option.map_some] at h
 exact Option.some.inj h
theorem zvc {base:Nat}{U:Ren}{W:Sto}{n:Nat} (hn:n < 16):zmg base (upd U 75 (.int (n:Nat))) W=some (.next,upd (upd U 75 (.int (n:Nat))) 78 (.str (zw n)),W):=
 zw9 (N:=16) (f:=fun n=> zmg base (upd U 75 (.int (n:Nat))) W) (g:=fun n=> some (.next,upd (upd U 75 (.int (n:Nat))) 78 (.str (zw n)),W)) (by kernel_rfl) hn
theorem zzq:∀ n,n < 16→∀ x,x∈jh→(zw n).contains x=prM n x:=by decide +kernel
theorem zi2:∀ l:List Bool,bools? (l.map .bool)=some l
 | []=> rfl
 | b::l=> by show (bools? (l.map .bool)).map (b::·)=_;rw [zi2 l];rfl
theorem zzi {U:Ren}{W:Sto}{m n:Nat} (hm:m < 16) (hn:n < 16) (h1:U 79=some (.str (zw m))) (h2:U 78=some (.str (zw n))):
  d2 zv (d2 jt (zf Qt [(qa [78] (tNm 74) (fIt (za 79)) (tOf (d2 pIn (za 74) (za 78))) (za 74))]) (dC (.int 2))) (dC (.int 0)) U W=some (.bool (zez (m &&& n) % 2==0)):=by
 have hll:((zw m).filter (prM n)).length≤4:=x8 (yb _ _) (zcl m)
 have hc:qa [78] (tNm 74) (fIt (za 79)) (tOf (d2 pIn (za 74) (za 78))) (za 74) U W=some (.lst (((zw m).filter (prM n)).map fun y=> .str [y])):=by
  refine qm (zf1 h1 (by have:=zcl m;lia) (zbj _)) (jx _ (prM n) _ _ fun y hy=> ?_) (by rw [xc];exact zm (by lia))
  ·refine ⟨_,rfl, ?_,fun V=> rfl⟩
   have r78:(upd (zq [78] U) 74 (.str [y])) 78=some (.str (zw n)):=h2
   refine (qb ((zp (a:= .str [y]) rfl r78).trans ?_)).trans (trB _ _)
   show some (PV.bool ((zw n).contains y))=_
   rw [zzq n hn y (List.mem_filter.mp hy).1]
 have hlen:zf Qt [(qa [78] (tNm 74) (fIt (za 79)) (tOf (d2 pIn (za 74) (za 78))) (za 74))] U W=some (.int (zez (m &&& n):Nat)):=by
  rw [qq hc]
  show (if ze (((zw m).filter (prM n)).map fun y=> PV.str [y]).length=true then some (PV.int ((((zw m).filter (prM n)).map fun y=> PV.str [y]).length:Nat)) else none)=_
  rw [xc,if_pos (zm (by lia)),zxq m hm n hn]
 refine (zp (Zl (b:=2) hlen rfl (by decide)) (b:= .int 0) rfl).trans ((zek _ _ _).trans ?_)
 have:zez (m &&& n) % 2 < 2:=Nat.mod_lt _ (by decide)
 generalize zez (m &&& n) % 2=q at this
 have:q=0∨q=1:=by lia
 rcases this with rfl | rfl <;> rfl
theorem z3w (W:Sto) (a b:Int):qr W (.int a) (.int b)=some (.bool (!(a==b))):=rfl
theorem zxl {α:Type}{l m:List α} (h:l.Perm m) (p:α→Bool):l.all p=m.all p:=by
 rw [Bool.eq_iff_iff,xo,xo]
 exact ⟨fun k x hx=> k x (h.mem_iff.mpr hx),fun k x hx=> k x (h.mem_iff.mp hx)⟩
theorem Tb.cnt {U:Ren}{W:Sto}{T:Nat}{Ms:List Nat}{ti di:Nat} (B:Tb U W T Ms ti di) {n:Nat} (hn:n < 16):(Ms.filter fun m=> od (zz T) m==n).length=(Z8 (zz T) Ms).length * (if zab (zz T) Ms n then 1 else 0):=by
 have h:=(zd0 T).1 n hn
 unfold zk0 at h
 have h:=beq_iff_eq.mp h
 have p:∀ q:Nat→Bool,(Ms.filter q).Perm (R16.filter q):=fun q=> B.pm.filter q
 rw [(p fun m=> od (zz T) m==n).length_eq,h]
 unfold zab Z8
 rw [(p fun m=> od (zz T) m==0).length_eq,zxl (p fun m=> od (zz T) m==0)]
theorem z4m {base:Nat}{U:Ren}{W:Sto}{T:Nat}{Ms:List Nat}{ti di n:Nat} (B:Tb U W T Ms ti di) (h77:U 77=some (.lst ((J3 T Ms).map .str))) (hn:n < 16):
  ∃ p,(zb zmg (zb zq3 (zb zq4 zl))) base (Mine.upd U 75 (.int (n:Nat))) W=some (.next,Mine.upd (Mine.upd (Mine.upd U 75 (.int (n:Nat))) 78 (.str (zw n))) 76 p,W):=by
 have hl:(Ms.filter fun m=> od (zz T) m==n).length≤16:=x8 (yb _ _) (Nat.le_of_eq B.len)
 have hq:(Z8 (zz T) Ms).length≤16:=x8 (yb _ _) (Nat.le_of_eq B.len)
 refine ⟨.int ((Ms.filter fun m=> od (zz T) m==n).length:Nat), ?_⟩
 refine (zd (zvc hn)).trans ?_
 generalize hU1:Mine.upd (Mine.upd U 75 (.int (n:Nat))) 78 (.str (zw n))=U1
 have B1:Tb U1 W T Ms ti di:=by rw [←hU1];exact (B.upd (by decide)).upd (by decide)
 have r78:U1 78=some (.str (zw n)):=by rw [←hU1];rfl
 have r77:U1 77=some (.lst ((J3 T Ms).map .str)):=by rw [←hU1];exact h77
 refine bc fun J=> ?_
 obtain ⟨u1,u2,_⟩:=zno n hn
 refine J ?_
 have e2:zq3 base U1 W=some (.next,Mine.upd U1 76 (.int ((Ms.filter fun m=> od (zz T) m==n).length:Nat)),W):=by
  refine zj ((qq (B1.all hn (z24 hn r78) u1 u2)).trans ?_)
  show (if ze ((Ms.filter fun m=> od (zz T) m==n).map (zdb (zz T))).length=true then some (PV.int (((Ms.filter fun m=> od (zz T) m==n).map (zdb (zz T))).length:Nat)) else none)=_
  rw [xc,if_pos (zm (by lia))]
 refine (zd e2).trans ?_
 generalize hU2:Mine.upd U1 76 (.int ((Ms.filter fun m=> od (zz T) m==n).length:Nat))=U2
 have s78:U2 78=some (.str (zw n)):=by rw [←hU2];exact r78
 have s77:U2 77=some (.lst ((J3 T Ms).map .str)):=by rw [←hU2];exact r77
 have s76:U2 76=some (.int ((Ms.filter fun m=> od (zz T) m==n).length:Nat)):=by rw [←hU2];rfl
 have hlen:zf Qt [(za 77)] U2 W=some (.int ((Z8 (zz T) Ms).length:Nat)):=by
  rw [qq (f:=za 77) s77]
  show (if ze ((J3 T Ms).map PV.str).length=true then some (PV.int (((J3 T Ms).map PV.str).length:Nat)) else none)=_
  unfold J3
  rw [xc,xc,if_pos (zm (by lia))]
 have hall:zf z0n [(qa [78] (tNm 79) (fIt (za 77)) qj (d2 zv (d2 jt (zf Qt [(qa [78] (tNm 74) (fIt (za 79)) (tOf (d2 pIn (za 74) (za 78))) (za 74))]) (dC (.int 2))) (dC (.int 0))))] U2 W=some (.bool (zab (zz T) Ms n)):=by
  have hc:qa [78] (tNm 79) (fIt (za 77)) qj (d2 zv (d2 jt (zf Qt [(qa [78] (tNm 74) (fIt (za 79)) (tOf (d2 pIn (za 74) (za 78))) (za 74))]) (dC (.int 2))) (dC (.int 0))) U2 W=some (.lst (((Z8 (zz T) Ms).map fun m=> zez (m &&& n) % 2==0).map .bool)):=by
   refine qm (Qi s77 (by unfold J3;rw [xc,xc];exact zm (by lia))) ?_ (by rw [xc,xc];exact zm (by lia))
   rw [show (J3 T Ms).map PV.str=(Z8 (zz T) Ms).map fun m=> .str (zw m) by unfold J3;rw [xq];rfl,xq]
   refine Za _ (fun m=> .bool (zez (m &&& n) % 2==0)) _ fun m hm=> ?_
   ·have hm':=B.lt m (List.mem_filter.mp hm).1
    refine ⟨_,rfl,(zzi (U:=Mine.upd (zq [78] U2) 79 (.str (zw m))) (W:=W) (m:=m) (n:=n) hm' hn rfl s78)⟩
  rw [qq hc]
  show (bools? (((Z8 (zz T) Ms).map fun m=> zez (m &&& n) % 2==0).map .bool)).map (fun ns=> PV.bool (ns.all id))=_
  rw [zi2]
  unfold zab
  show some (PV.bool _)=_
  rw [List.all_map];rfl
 have e3:zq4 base U2 W=some (.next,U2,W):=by
  refine Jd ?_
  have hm:d2 j3 (zf Qt [(za 77)]) (zf z0n [(qa [78] (tNm 79) (fIt (za 77)) qj (d2 zv (d2 jt (zf Qt [(qa [78] (tNm 74) (fIt (za 79)) (tOf (d2 pIn (za 74) (za 78))) (za 74))]) (dC (.int 2))) (dC (.int 0))))]) U2 W=some (.int ((Ms.filter fun m=> od (zz T) m==n).length:Nat)):=by
   rw [zp hlen hall,B.cnt hn]
   show some (PV.int (((Z8 (zz T) Ms).length:Int) * if zab (zz T) Ms n=true then (1:Int) else 0))=_
   cases zab (zz T) Ms n <;> simp
  refine (qb ((zp (f:=za 76) s76 hm).trans (z3w _ _ _))).trans ?_
  rw [trB,beq_self_eq_true];rfl
 exact (zd e3).trans rfl
theorem z3t {base:Nat}{W:Sto}{T:Nat}{Ms:List Nat}{ti di:Nat}:∀ (ns:List Nat) (U:Ren),Tb U W T Ms ti di→U 77=some (.lst ((J3 T Ms).map .str))→(∀ n∈ns,n < 16)→
  ∃ U',zbz (tNm 75) (zb zmg (zb zq3 (zb zq4 zl))) base (ns.map fun (n:Nat)=> .int (n:Int)) U W=some (.next,U',W)∧∀ j,j≠75→j≠76→j≠78→U' j=U j:=by
 intro ns
 induction ns with
 | nil=> intro U _ _ _;exact ⟨U,rfl,fun V V V V=> rfl⟩
 | cons n ns ih=>
  intro U B h77 hns
  refine bc fun J=> ?_
  obtain ⟨p,e⟩:=z4m (base:=base) B h77 (hns n xk)
  obtain ⟨U',e',k'⟩:=ih (Mine.upd (Mine.upd (Mine.upd U 75 (.int (n:Nat))) 78 (.str (zw n))) 76 p) (((B.upd (by decide)).upd (by decide)).upd (by decide)) h77 fun m h=> hns m (xf _ h)
  refine J ?_
  refine ⟨U', ?_,fun j h1 h2 h3=> (k' j h1 h2 h3).trans ?_⟩
  ·rw [List.map_cons]
   exact (Zi rfl e).trans e'
  ·unfold Mine.upd;rw [if_neg h2,if_neg h3,if_neg h1]
theorem z2n {base:Nat}{U:Ren}{W:Sto}{T:Nat}{Ms:List Nat}{ti di:Nat} (B:Tb U W T Ms ti di) (h77:U 77=some (.lst ((J3 T Ms).map .str))):
  ∃ U',L27 base U W=some (.next,U',W)∧∀ j,j≠75→j≠76→j≠78→U' j=U j:=by
 refine bc fun J=> ?_
 obtain ⟨U',e,k⟩:=z3t (base:=base) (List.range 16) U B h77 fun n h=> List.mem_range.mp h
 refine J ?_
 exact ⟨U',e,k⟩
end
section
variable {base:Nat}{U:Ren}{W:Sto}{T:Nat}{Ms:List Nat}{ti di:Nat}
theorem zgb (T:Nat):Ze T < 16:=(zku _ _ _ _).2.2.2.2
theorem zx0 (T:Nat):qo (fun x=> tie (qf T) x x)=zw (Ze T):=by
 obtain ⟨h0,h1,h2,h3,_⟩:=zku (T.testBit 0) (T.testBit 2) (T.testBit 5) (T.testBit 9)
 refine Qy fun x hx=> ?_
 rcases hx with rfl | rfl | rfl | rfl
 ·exact (zeg T (i:=0) (j:=0) (by decide) (by decide)).trans h0.symm
 ·exact (zeg T (i:=1) (j:=1) (by decide) (by decide)).trans h1.symm
 ·exact (zeg T (i:=2) (j:=2) (by decide) (by decide)).trans h2.symm
 ·exact (zeg T (i:=3) (j:=3) (by decide) (by decide)).trans h3.symm
theorem z2o (B:Tb U W T Ms ti di):L28 base U W=some (.next,upd U 61 (.str (zw (Ze T))),W):=by
 rw [←zx0]
 have hl:=q4 (fun x=> tie (qf T) x x)
 have hc:qa [73] (tNm 74) (fIt (dC (.str [97,98,99,100]))) (tOf (d2 pIn (d2 zx (za 74) (za 74)) (za 73))) (za 74) U W=some (.lst ((qo (fun x=> tie (qf T) x x)).map fun x=> .str [x])):=by
  refine qm (its:=jh.map fun x=> .str [x]) rfl (jx _ (fun x=> tie (qf T) x x) _ _ fun x V=> ?_) (by rw [xc];exact zm (by lia))
  ·refine ⟨_,rfl, ?_,fun V=> rfl⟩
   exact (qb (zqw (U:=upd (zq [73] U) 74 (.str [x])) (a:=x) (x:=x) (f:=za 74) (g:=za 74) rfl rfl B.r73)).trans (trB _ _)
 exact zj ((je rfl hc).trans (zd1 (by lia)))
theorem z4f:∀ n,n≤16→0 < n→sliceRange (sliceBounds none (some 1) none n).1 (sliceBounds none (some 1) none n).2.1 (sliceBounds none (some 1) none n).2.2=[0]:=by decide +kernel
theorem z2p (B:Tb U W T Ms ti di) (h61:U 61=some (.str (zw (Ze T)))):L29 base U W=some (.next,U,W):=by
 have hs:=zgb T
 obtain ⟨u1,u2,u3,u4,u5⟩:=zno _ hs
 have dlt:di < W.length:=(xe.mp B.d).1
 generalize hL:Ms.map (ent (zz T))=L at *
 have hLlen:L.length=16:=by rw [←hL,xc,B.len]
 have hLow:∀ p∈L,jk p.1=true∧qi p.1=p.1:=by
  intro p hp'
  rw [←hL] at hp'
  obtain ⟨m,hm,rfl⟩:=xr.mp hp'
  exact ⟨zre (B.lt m hm),(zp4 _ (zr0 T (B.lt m hm))).1⟩
 have hne:∃ p r,L.filter (fun p=> p.1==120::zw (Ze T))=p::r:=by
  obtain ⟨m,hm,e⟩:=List.any_eq_true.mp (zd0 T).2.1
  have hm2:m∈Ms:=B.pm.mem_iff.mpr hm
  have:ent (zz T) m∈L.filter (fun p=> p.1==120::zw (Ze T)):=by
   refine List.mem_filter.mpr ⟨by rw [←hL];exact xr.mpr ⟨m,hm2,rfl⟩, ?_⟩
   show (120::zw (od (zz T) m)==120::zw (Ze T))=true
   rw [beq_iff_eq.mp e,beq_self_eq_true]
  cases hf:L.filter (fun p=> p.1==120::zw (Ze T)) with
  | nil=> rw [hf] at this;cases this
  | cons p r=> exact ⟨p,r,rfl⟩
 obtain ⟨p,r,hf⟩:=hne
 have e1:q5 (bfN 2 [.none]) [14,16,17] zmc (za 60) [(d2 zx (dC (.str [88])) (zf Zx ((za 61)::[])))] U W=some (.str p.2):=by
  have t:=B.t
  rw [hL] at t
  refine ((Qx B.r60 (z24 hs h61)).trans (z3j t (by lia) u2 (by rw [u1];exact u3) fun p hp=> (hLow p hp).1)).trans ?_
  unfold zrj
  have:L.find? (fun q=> qi q.1==qi (88::zcd (zw (Ze T))))=some p:=by
   rw [←List.head?_filter,u1]
   have:L.filter (fun q=> qi q.1==120::zw (Ze T))=L.filter (fun p=> p.1==120::zw (Ze T)):=List.filter_congr fun q hq=> by rw [(hLow q hq).2]
   rw [this,hf];rfl
  rw [this]
 have e1':zpd [(q5 (bfN 2 [.none]) [14,16,17] zmc (za 60) [(d2 zx (dC (.str [88])) (zf Zx ((za 61)::[])))])] U W=some (.lst [.str p.2]):=by
  unfold zpd;rw [zt e1 rfl];rfl
 have hflen:(p::r).length≤16:=by rw [←hf];exact x8 (yb _ _) (Nat.le_of_eq hLlen)
 have e2:qa [61] (jn [(tNm 16),(tNm 40)]) (fIt (za 72)) (tOf (d2 zv (za 16) (d2 zx (dC (.str [120])) (za 61)))) (za 40) U W=some (.lst (((p::r).map (·.2)).map .str)):=by
  have d:=B.d
  rw [hL] at d
  refine qm (zf0 B.r72 d dlt (by rw [xc];lia)) ((jx hp (fun q=> q.1==120::zw (Ze T)) (fun q=> .str q.2) L fun q hq=> ?_).trans ?_) (by rw [xc,xc];exact zm (by lia))
  ·refine ⟨_,rfl, ?_,fun V=> rfl⟩
   have r61:(upd (upd (zq [61] U) 16 (.str q.1)) 40 (.str q.2)) 61=some (.str (zw (Ze T))):=h61
   have ea:d2 zx (dC (.str [120])) (za 61) (upd (upd (zq [61] U) 16 (.str q.1)) 40 (.str q.2)) W=some (.str (120::zw (Ze T))):=by
    rw [zp (a:= .str [120]) rfl r61]
    show (if ze (1 + (zw (Ze T)).length)=true then some (PV.str ([120] ++ zw (Ze T))) else none)=_
    rw [if_pos (zm (by have:=zcl (Ze T);lia))];rfl
   exact (qb ((zp (a:= .str q.1) rfl ea).trans (zdc _ _ _))).trans (trB _ _)
  ·congr 1
   rw [←hf,xq]
   rfl
 have e3:qg (qa [61] (jn [(tNm 16),(tNm 40)]) (fIt (za 72)) (tOf (d2 zv (za 16) (d2 zx (dC (.str [120])) (za 61)))) (za 40)) qn (qv (dC (.int 1))) qn U W=some (.lst [.str p.2]):=by
  unfold qg
  rw [e2]
  show zcb W (.lst (((p::r).map (·.2)).map .str)) none (some 1) none=_
  unfold zcb
  show (if none=some (0:Int)∨¬ze (((p::r).map (·.2)).map PV.str).length=true then none else some (PV.lst ((sliceRange (sliceBounds none (some 1) none (((p::r).map (·.2)).map PV.str).length).1 (sliceBounds none (some 1) none (((p::r).map (·.2)).map PV.str).length).2.1 (sliceBounds none (some 1) none (((p::r).map (·.2)).map PV.str).length).2.2).filterMap ((((p::r).map (·.2)).map PV.str)[·]?))))=_
  rw [xc,xc,zm (by lia),if_neg (by simp),z4f _ hflen (by simp)]
  rfl
 exact Jd ((qb ((zp e1' e3).trans (zlt W [p.2] [p.2]))).trans ((trB _ _).trans (by rw [beq_self_eq_true];rfl)))
theorem zmt (k:Nat):∀ l:List Nat,(l.map fun (q:Nat)=> (q:Int)).count (k:Int)=l.count k
 | []=> rfl
 | x::l=> by
  rw [List.map_cons,List.count_cons,List.count_cons,zmt k l]
  have:((x:Int)==(k:Int))=(x==k):=by
   rw [Bool.eq_iff_iff,beq_iff_eq,beq_iff_eq];lia
  rw [this]
noncomputable def z3v (p:Int×Int):PV:= .tup [.int p.1,.int p.2]
theorem znn {Ns:List Nat} (h:∀ m∈Ns,m < 16) (hl:Ns.length≤16):fnV (bfN 1 []) [7] Je W [.lst (Ns.map (zdb (zz T)))]=some (z3v (Ja (Ns.map (qt (zz T))))):=by
 refine zao (bps:=[.lst (Ns.map (zdb (zz T)))]) rfl ?_ rfl
 have hc:qa [] (tNm 40) (fIt (za 7)) qj (d2 zo (zf ziv [(zf Zs ((za 40)::[(dC (.str [97,98,99,100]))]))]) (dC (.int 16))) (qw [7] [.lst (Ns.map (zdb (zz T)))] Zy) W=some (.lst (((Ns.map (qt (zz T))).map fun (q:Nat)=> (q:Int)).map .int)):=by
  refine qm (Qi (l:=Ns.map (zdb (zz T))) rfl (by rw [xc];exact zm (by lia))) ?_ (by rw [xc,xc,xc];exact zm (by lia))
  rw [xq,xq]
  refine Za (zdb (zz T)) _ Ns fun m hm=> ?_
  ·have hm':=h m hm
   have hq:=zxv T hm'
   refine ⟨_,rfl, ?_⟩
   have s1:zf Zs ((za 40)::[(dC (.str [97,98,99,100]))]) (upd (zq [] (qw [7] [.lst (Ns.map (zdb (zz T)))] Zy)) 40 (zdb (zz T) m)) W=some (.str (Jt (qt (zz T) m))):=by
    refine (je rfl rfl).trans ?_
    show (if ze (zw m ++ Jt (qt (zz T) m)).length=true then some (PV.str _) else none)=_
    rw [if_pos (zm (by have:=zm1 (T:=T) hm';lia)),z4g m hm' _ hq]
   have s2:zf ziv [(zf Zs ((za 40)::[(dC (.str [97,98,99,100]))]))] (upd (zq [] (qw [7] [.lst (Ns.map (zdb (zz T)))] Zy)) 40 (zdb (zz T) m)) W=some (.int (16 * qt (zz T) m:Nat)):=by
    rw [qq s1]
    show (if (Jt (qt (zz T) m)).length≤640 then (PySem.intText? (mk (Jt (qt (zz T) m)))).map PV.int else none)=_
    rw [if_pos (by have:=(Ju _ hq).2;lia),zz3 _ hq];rfl
   rw [Zd (b:=16) s2 rfl (by decide) (by decide)]
   show some (PV.int _)=some (PV.int (qt (zz T) m:Nat))
   congr 2;lia
 refine Ret.next (zj hc) (Ret.seq (Ret.ret ?_))
 have cn:∀ k:Nat,∀ U',U' 39=some (.lst (((Ns.map (qt (zz T))).map fun (q:Nat)=> (q:Int)).map .int))→zf Jv ((za 39)::[(dC (.int (k:Int)))]) U' W=some (.int ((Ns.map (qt (zz T))).count k:Nat)):=by
  intro k U' hr
  refine (je (f:=za 39) hr rfl).trans ?_
  show (ints? (((Ns.map (qt (zz T))).map fun (q:Nat)=> (q:Int)).map .int)).map (fun ns=> PV.int (ns.count (k:Int):Nat))=_
  rw [zg4]
  show some (PV.int _)=_
  rw [zmt]
 generalize hU':upd (qw [7] [.lst (Ns.map (zdb (zz T)))] Zy) 39 (.lst (((Ns.map (qt (zz T))).map fun (q:Nat)=> (q:Int)).map .int))=U'
 have r39:U' 39=some (.lst (((Ns.map (qt (zz T))).map fun (q:Nat)=> (q:Int)).map .int)):=by rw [←hU'];rfl
 have a:=zp (op:=jb) (cn 0 U' r39) (cn 2 U' r39)
 have b:=zp (op:=jb) (cn 1 U' r39) (cn 3 U' r39)
 show qy [(d2 jb (zf Jv ((za 39)::[(dC (.int ((0:Nat):Int)))])) (zf Jv ((za 39)::[(dC (.int ((2:Nat):Int)))]))),(d2 jb (zf Jv ((za 39)::[(dC (.int ((1:Nat):Int)))])) (zf Jv ((za 39)::[(dC (.int ((3:Nat):Int)))])))] U' W=_
 unfold qy;rw [zt a (zt b rfl)];rfl
theorem znm {l m:List Nat} (h:l.Perm m):Ja l=Ja m:=by unfold Ja;rw [h.count_eq,h.count_eq,h.count_eq,h.count_eq]
theorem zrw (l:List Nat) (h:l.length≤16): -16≤(Ja l).1∧(Ja l).1≤16∧-16≤(Ja l).2∧(Ja l).2≤16:=by
 have c:∀ k,l.count k≤16:=fun k=> x8 List.count_le_length h
 have:=c 0;have:=c 1;have:=c 2;have:=c 3
 unfold Ja;dsimp only;lia
theorem Tb.mix0 (B:Tb U W T Ms ti di):dFn (bfN 1 []) [7] Je [(q5 (bfN 1 []) [14] zb1 (za 60) [])] U W=some (z3v (Ja (R16.map (qt (zz T))))):=by
 have e:q5 (bfN 1 []) [14] zb1 (za 60) [] U W=some (.lst (Ms.map (zdb (zz T)))):=by
  refine ((zi8 B.r60).trans (zuh B.t (by rw [xc,B.len];decide))).trans ?_
  rw [xq,xq];rfl
 rw [Jr e,znn B.lt (Nat.le_of_eq B.len),znm (B.pm.map _)]
theorem Tb.mixK (B:Tb U W T Ms ti di) {fd:Den}{n:List Nat}{k:Nat} (hk:k < 16) (hf:fd U W=some (.str n)) (h1:qi n=120::zw k) (h2:jk n=true):
  dFn (bfN 1 []) [7] Je [(q5 (bfN 2 []) [14,16] jp (za 60) [fd])] U W=some (z3v (zbw (zz T) R16 k)):=by
 rw [Jr (B.all hk hf h1 h2),znn (fun m hm=> B.lt m (List.mem_filter.mp hm).1) (x8 (yb _ _) (Nat.le_of_eq B.len))]
 unfold zbw
 rw [znm ((B.pm.filter _).map _)]
theorem z2u (B:Tb U W T Ms ti di):L34 base U W=some (.next,upd (upd U 56 (.int (Ja (R16.map (qt (zz T)))).1)) 57 (.int (Ja (R16.map (qt (zz T)))).2),W):=by
 unfold L34 zc;rw [B.mix0];rfl
theorem z2w (B:Tb U W T Ms ti di) (h61:U 61=some (.str (zw (Ze T)))):L36 base U W=some (.next,upd (upd U 58 (.int (zbw (zz T) R16 (Ze T)).1)) 59 (.int (zbw (zz T) R16 (Ze T)).2),W):=by
 refine bc fun J=> ?_
 obtain ⟨u1,u2,_⟩:=zno _ (zgb T)
 refine J ?_
 unfold L36 zc;rw [B.mixK (zgb T) (z24 (zgb T) h61) u1 u2];rfl
theorem zsb {j:Nat}{a:Int} (h:U j=some (.int a)) (h1: -16≤a) (h2:a≤16):d2 Qc (za j) (dC (.int 2)) U W=some (.int (a ^ 2)):=by
 rw [zp (f:=za j) h (b:= .int 2) rfl]
 show (if (0:Int)≤2∧(Builtin.Int.intBits a:Int) * 2≤2 ^ 27 then some (PV.int (a ^ (2:Int).toNat)) else none)=_
 have:(Builtin.Int.intBits a:Int) * 2≤2 ^ 27:=by
  have key:∀ k:Nat,k < 33→(Builtin.Int.intBits ((k:Int) - 16):Int) * 2≤2 ^ 27:=by decide +kernel
  have:=key (a + 16).toNat (by lia)
  rwa [show (((a + 16).toNat:Int) - 16)=a by lia] at this
 rw [if_pos ⟨by decide,this⟩];rfl
theorem zw1 {f:Den}{a:Int} (h:f U W=some (.int a)):d2 j3 (dC (.int 16)) f U W=some (.int (16 * a)):=by
 rw [zp (a:= .int 16) rfl h]
 show (if (qx 16 || qx a)=true then some (PV.int (16 * a)) else none)=_
 rw [show qx 16=true from by decide,Bool.true_or,if_pos rfl]
theorem z3d (W:Sto) (a b c d:Int):zv W (.tup [.int a,.int b]) (.tup [.int c,.int d])=some (.bool ((a==c) && ((b==d) && true))):=rfl
theorem z3x (W:Sto) (a b c d:Int):qr W (.tup [.int a,.int b]) (.tup [.int c,.int d])=some (.bool (!((a==c) && ((b==d) && true)))):=rfl
theorem zjt {g a b:Int×Int} (h:znl g a b=true):((g.1 ^ 2 + g.2 ^ 2==16 * a.1)=true∧(16 * a.2==0)=true)∧(g.1 ^ 2 - g.2 ^ 2==16 * b.1)=true∧(2 * g.1 * g.2==16 * b.2)=true:=by
 unfold znl at h
 rw [xi,xi,xi] at h
 exact ⟨h.1.1,h.1.2,h.2⟩
theorem z2v (B:Tb U W T Ms ti di) (h56:U 56=some (.int (Ja (R16.map (qt (zz T)))).1)) (h57:U 57=some (.int (Ja (R16.map (qt (zz T)))).2)):L35 base U W=some (.next,U,W):=by
 obtain ⟨b1,b2,b3,b4⟩:=zrw (R16.map (qt (zz T))) (Nat.le_of_eq (by rw [xc];rfl))
 obtain ⟨⟨k1,k2⟩,_⟩:=zjt (zd0 T).2.2
 generalize Ja (R16.map (qt (zz T)))=g at *
 have eM:=B.mixK (k:=0) (fd:=dC (.str [88])) (by decide) rfl x0.1 x0.2
 generalize zbw (zz T) R16 0=a at *
 have e1:qy [(d2 zx (d2 Qc (za 56) (dC (.int 2))) (d2 Qc (za 57) (dC (.int 2)))),(dC (.int 0))] U W=some (.tup [.int (g.1 ^ 2 + g.2 ^ 2),.int 0]):=by
  have:=zp (op:=zx) (zsb (W:=W) h56 b1 b2) (zsb (W:=W) h57 b3 b4)
  unfold qy;rw [zt this rfl];rfl
 have e2:zf zqg [(qa [] (tNm 62) (fIt (dFn (bfN 1 []) [7] Je [(q5 (bfN 2 []) [14,16] jp (za 60) [(dC (.str [88]))])])) qj (d2 j3 (dC (.int 16)) (za 62)))] U W=some (.tup [.int (16 * a.1),.int (16 * a.2)]):=by
  have hc:qa [] (tNm 62) (fIt (dFn (bfN 1 []) [7] Je [(q5 (bfN 2 []) [14,16] jp (za 60) [(dC (.str [88]))])])) qj (d2 j3 (dC (.int 16)) (za 62)) U W=some (.lst [.int (16 * a.1),.int (16 * a.2)]):=by
   refine qm (its:=[.int a.1,.int a.2]) ?_ (Za PV.int (fun i=> .int (16 * i)) [a.1,a.2] fun i V=> ⟨_,rfl,zw1 rfl⟩) rfl
   unfold fIt;rw [eM];rfl
  rw [qq hc];rfl
 refine Jd ((qb ((zp e1 e2).trans (z3x _ _ _ _ _))).trans ((trB _ _).trans ?_))
 have k2':((0:Int)==16 * a.2)=true:=by rw [beq_iff_eq] at k2⊢;exact k2.symm
 rw [k1,k2'];rfl
theorem z2x (h56:U 56=some (.int (Ja (R16.map (qt (zz T)))).1)) (h57:U 57=some (.int (Ja (R16.map (qt (zz T)))).2)) (h58:U 58=some (.int (zbw (zz T) R16 (Ze T)).1)) (h59:U 59=some (.int (zbw (zz T) R16 (Ze T)).2)):L37 base U W=some (.ret (.bool true),U,W):=by
 refine bc fun J=> ?_
 obtain ⟨b1,b2,b3,b4⟩:=zrw (R16.map (qt (zz T))) (Nat.le_of_eq (by rw [xc];rfl))
 obtain ⟨_,k1,k2⟩:=zjt (zd0 T).2.2
 refine J ?_
 generalize Ja (R16.map (qt (zz T)))=g at *
 generalize zbw (zz T) R16 (Ze T)=b at *
 have e1:qy [(d2 jb (d2 Qc (za 56) (dC (.int 2))) (d2 Qc (za 57) (dC (.int 2)))),(d2 j3 (d2 j3 (dC (.int 2)) (za 56)) (za 57))] U W=some (.tup [.int (g.1 ^ 2 - g.2 ^ 2),.int (2 * g.1 * g.2)]):=by
  have m:=zp (op:=jb) (zsb (W:=W) h56 b1 b2) (zsb (W:=W) h57 b3 b4)
  have n1:d2 j3 (dC (.int 2)) (za 56) U W=some (.int (2 * g.1)):=by
   rw [zp (a:= .int 2) rfl (f':=za 56) h56]
   show (if (qx 2 || qx g.1)=true then some (PV.int (2 * g.1)) else none)=_
   rw [show qx 2=true from by decide,Bool.true_or,if_pos rfl]
  have n2:d2 j3 (d2 j3 (dC (.int 2)) (za 56)) (za 57) U W=some (.int (2 * g.1 * g.2)):=by
   rw [zp n1 (f':=za 57) h57]
   show (if (qx (2 * g.1) || qx g.2)=true then some (PV.int (2 * g.1 * g.2)) else none)=_
   have:qx g.2=true:=yd (by lia)
   rw [this,Bool.or_true,if_pos rfl]
  unfold qy;rw [zt m (zt n2 rfl)];rfl
 have e2:qy [(d2 j3 (dC (.int 16)) (za 58)),(d2 j3 (dC (.int 16)) (za 59))] U W=some (.tup [.int (16 * b.1),.int (16 * b.2)]):=by
  unfold qy;rw [zt (zw1 (f:=za 58) h58) (zt (zw1 (f:=za 59) h59) rfl)];rfl
 unfold L37 j8
 rw [zp e1 e2,z3d,k1,k2];rfl
end
section
open PySem.StrLaws PySem.Builtin.Str
noncomputable def nbr (c:Nat):Bool:= !Unicode.isLineBreak c
noncomputable def Qb:List (List Nat)→List (List Nat)
 | []=> []
 | [y]=> if y.isEmpty then [] else [y]
 | y::z::r=> y::Qb (z::r)
theorem zhb (y z:List Nat) (r:List (List Nat)):Qb (y::z::r)=y::Qb (z::r):=rfl
theorem zck (x:List Nat) (i:Nat):(mk x).cps.getD i 0=x.getD i 0:=by
 show x.toArray.getD i 0=_
 simp [List.getD_eq_getElem?_getD]
theorem zlp (s:Str):∀ (m k cur:Nat) (st:LsSt),(∀ i,cur≤i→i < cur + m→Unicode.isLineBreak (s.cps.getD i 0)=false)→Id.run (forIn (m:=Id) (List.range' cur (m + k)) st (lsBody s))=Id.run (forIn (m:=Id) (List.range' (cur + m) k) st (lsBody s))
 | 0,k,cur,st,_=> by rw [Nat.zero_add,Nat.add_zero]
 | m + 1,k,cur,st,h=> by
  have e:m + 1 + k=(m + k) + 1:=by lia
  rw [e,List.range'_succ,List.forIn_cons]
  have h0:=h cur (x9 _) (by lia)
  have hb:lsBody s cur st=pure (ForInStep.yield (st.fst,st.snd)):=by
   unfold lsBody;rw [h0,Bool.and_false];rfl
  rw [hb]
  have ih:=zlp s m k (cur + 1) st fun i h1 h2=> h i (by lia) (by lia)
  have e2:cur + 1 + m=cur + (m + 1):=by lia
  rw [e2] at ih
  exact ih
theorem zwv (s:Str) (k cur:Nat) (acc:Array (Nat×Nat×Nat)) (a:Nat) (ha:a≤cur) (hb:Unicode.isLineBreak (s.cps.getD cur 0)=true):
  Id.run (forIn (m:=Id) (List.range' cur (k + 1)) ((acc,a):LsSt) (lsBody s))=Id.run (forIn (m:=Id) (List.range' (cur + 1) k) ((acc.push (a,cur,lsNext s cur),lsNext s cur):LsSt) (lsBody s)):=by
 rw [List.range'_succ,List.forIn_cons]
 have:lsBody s cur (acc,a)=pure (ForInStep.yield (acc.push (a,cur,lsNext s cur),lsNext s cur)):=by
  unfold lsBody
  rw [if_pos (by rw [hb];simpa using ha)]
 rw [this];rfl
theorem zzz (s:Str) (k cur:Nat) (acc:Array (Nat×Nat×Nat)) (a:Nat) (ha:cur < a):
  Id.run (forIn (m:=Id) (List.range' cur (k + 1)) ((acc,a):LsSt) (lsBody s))=Id.run (forIn (m:=Id) (List.range' (cur + 1) k) ((acc,a):LsSt) (lsBody s)):=by
 rw [List.range'_succ,List.forIn_cons]
 have:lsBody s cur (acc,a)=pure (ForInStep.yield (acc,a)):=by
  unfold lsBody
  rw [if_neg]
  rw [xi,decide_eq_true_eq];rintro ⟨h,_⟩;exact absurd h (by show ¬a≤cur;lia)
 rw [this];rfl
theorem zk5 (x:List Nat) (a b:Nat):(strSub (mk x) a b).cps.toList=(x.drop a).take (b - a):=by
 unfold strSub;simp [mk,List.extract_eq_take_drop]
theorem zzy {x:List Nat}{sep:List Nat} (hs:sep=[10]∨sep=[13,10]):∀ (r:List (List Nat)) (y:List Nat) (a:Nat) (acc:Array (Nat×Nat×Nat)),(∀ z∈y::r,z.all nbr=true)→x.drop a=y ++ zr sep r→a≤x.length→
  ∃ l,lsEnd (mk x) (Id.run (forIn (m:=Id) (List.range' a (x.length - a)) ((acc,a):LsSt) (lsBody (mk x))))=acc.toList ++ l∧(l.map fun (p:Nat×Nat×Nat)=> (strSub (mk x) p.1 p.2.1).cps.toList)=Qb (y::r):=by
 intro r
 induction r with
 | nil=>
  intro y a acc hc e ha
  have e':x.drop a=y:=by rw [e];simp [zr]
  have hl:x.length - a=y.length:=by rw [←e',List.length_drop]
  have hskip:∀ i,a≤i→i < a + y.length→Unicode.isLineBreak ((mk x).cps.getD i 0)=false:=by
   intro i h1 h2
   rw [zck]
   have:x.getD i 0∈y:=by
    rw [←e',List.getD_eq_getElem?_getD,xt (by lia),Option.getD_some,List.mem_iff_getElem]
    exact ⟨i - a,by rw [List.length_drop];lia,by rw [List.getElem_drop];congr 1;lia⟩
   have:=xo.mp (hc y (by simp)) _ this
   unfold nbr at this;simpa using this
  have hk:=zlp (mk x) y.length 0 a (acc,a) hskip
  rw [hl]
  rw [Nat.add_zero] at hk
  rw [hk]
  show ∃ l,lsEnd (mk x) (acc,a)=acc.toList ++ l∧_
  unfold lsEnd
  have hlen:(mk x).length=x.length:=z8 x
  rw [hlen]
  by_cases hy:y=[]
  ·subst hy
   refine ⟨[], ?_,rfl⟩
   rw [if_neg (by show ¬a < x.length;simp at hl;lia)];simp
  ·have:0 < y.length:=List.length_pos_iff.mpr hy
   refine ⟨[(a,x.length,x.length)], ?_, ?_⟩
   ·rw [if_pos (by show a < x.length;lia),Array.toList_push]
   ·show [(strSub (mk x) a x.length).cps.toList]=Qb [y]
    rw [zk5,e',List.take_of_length_le (by lia)]
    exact (if_neg (by simpa using hy)).symm
 | cons z r ih=>
  intro y a acc hc e ha
  have e1:zr sep (z::r)=sep ++ (z ++ zr sep r):=by unfold zr;simp
  rw [e1] at e
  have hl:x.length - a=y.length + (sep.length + (z ++ zr sep r).length):=by
   rw [←List.length_drop,e];simp
  have hskip:∀ i,a≤i→i < a + y.length→Unicode.isLineBreak ((mk x).cps.getD i 0)=false:=by
   intro i h1 h2
   rw [zck]
   have:x.getD i 0∈y:=by
    rw [List.getD_eq_getElem?_getD,xt (by lia),Option.getD_some]
    have h3:x[i]'(by lia)=(x.drop a)[i - a]'(by rw [List.length_drop];lia):=by rw [List.getElem_drop];congr 1;lia
    rw [h3]
    simp only [e]
    rw [List.getElem_append_left (by lia)]
    exact List.getElem_mem _
   have:=xo.mp (hc y (by simp)) _ this
   unfold nbr at this;simpa using this
  rw [hl,zlp (mk x) y.length _ a (acc,a) hskip]
  have eD:x.drop (a + y.length)=sep ++ (z ++ zr sep r):=by rw [←List.drop_drop,e];simp
  have hget:∀ j (hj:j < sep.length),x.getD (a + y.length + j) 0=sep[j]:=by
   intro j hj
   have:(x.drop (a + y.length))[j]? =some sep[j]:=by rw [eD,List.getElem?_append_left hj,xt hj]
   rw [List.getElem?_drop] at this
   rw [List.getD_eq_getElem?_getD,this];rfl
  have hN:∀ j,(mk x).cps[a + y.length + j]? =(sep ++ (z ++ zr sep r))[j]? :=by
   intro j
   show x.toArray[a + y.length + j]? =_
   rw [←eD,List.getElem?_drop];simp
  have eD2:x.drop (a + y.length + sep.length)=z ++ zr sep r:=by rw [←List.drop_drop,eD];simp
  have hl2:x.length - (a + y.length + sep.length)=(z ++ zr sep r).length:=by rw [←eD2,List.length_drop]
  have fin:∀ (st:LsSt),st=(acc.push (a,a + y.length,a + y.length + sep.length),a + y.length + sep.length)→∃ l,lsEnd (mk x) (Id.run (forIn (m:=Id) (List.range' (a + y.length + sep.length) ((z ++ zr sep r).length)) st (lsBody (mk x))))=acc.toList ++ l∧(l.map fun (p:Nat×Nat×Nat)=> (strSub (mk x) p.1 p.2.1).cps.toList)=Qb (y::z::r):=by
   intro st hst
   subst hst
   obtain ⟨l,g1,g2⟩:=ih z (a + y.length + sep.length) (acc.push (a,a + y.length,a + y.length + sep.length)) (fun w hw=> hc w (xf _ hw)) eD2 (by lia)
   rw [hl2] at g1
   refine ⟨(a,a + y.length,a + y.length + sep.length)::l, ?_, ?_⟩
   ·rw [g1,Array.toList_push];simp
   ·show (strSub (mk x) a (a + y.length)).cps.toList::_=y::Qb (z::r)
    rw [g2,zk5,e,Nat.add_sub_cancel_left];simp
  rcases hs with rfl | rfl
  ·have b0:Unicode.isLineBreak ((mk x).cps.getD (a + y.length) 0)=true:=by
    rw [zck,show x.getD (a + y.length) 0=10 from hget 0 (by decide)];decide
   have n0:lsNext (mk x) (a + y.length)=a + y.length + 1:=by
    unfold lsNext
    rw [if_neg]
    rw [zck,show x.getD (a + y.length) 0=10 from hget 0 (by decide)];simp
   have e3:([10]:List Nat).length + (z ++ zr [10] r).length=(z ++ zr [10] r).length + 1:=by simp;lia
   rw [e3,zwv (mk x) _ _ acc a (by lia) b0,n0]
   exact fin _ rfl
  ·have b0:Unicode.isLineBreak ((mk x).cps.getD (a + y.length) 0)=true:=by
    rw [zck,show x.getD (a + y.length) 0=13 from hget 0 (by decide)];decide
   have n0:lsNext (mk x) (a + y.length)=a + y.length + 2:=by
    unfold lsNext
    rw [if_pos]
    rw [zck,show x.getD (a + y.length) 0=13 from hget 0 (by decide),hN 1];rfl
   have e3:([13,10]:List Nat).length + (z ++ zr [13,10] r).length=((z ++ zr [13,10] r).length + 1) + 1:=by simp;lia
   rw [e3,zwv (mk x) _ _ acc a (by lia) b0,n0,zzz (mk x) _ _ _ _ (by lia)]
   exact fin _ rfl
set_option tactic.hygienic true in
theorem zng {W:Sto}{sep:List Nat}{y:List Nat}{r:List (List Nat)} (hs:sep=[10]∨sep=[13,10]) (hc:∀ z∈y::r,z.all nbr=true) (hl:(zu sep (y::r)).length≤10000):
  j1 W [.str (zu sep (y::r))]=some (.lst ((Qb (y::r)).map .str)):=by
 generalize hx:zu sep (y::r)=x at hl
 refine bc fun J=> ?_
 obtain ⟨l,g1,g2⟩:=zzy (x:=x) hs r y 0 #[] hc (by rw [List.drop_zero,←hx];rfl) (yc _)
 refine J ?_
 have hlen:(mk x).length=x.length:=z8 x
 have g3:lineSpans (mk x)=l:=by
  rw [ls_eq,hlen]
  have:=g1
  rw [Nat.sub_zero] at this
  rw [this];simp
 have hcut:lineCuts (mk x)=l.map fun p=> (p.1,p.2.1):=by
  unfold lineCuts;rw [g3];rfl
 have hcl:(lineCuts (mk x)).length≤x.length + 1:=by have:=lineCuts_le (mk x);lia
 show (if (ze x.length && ze (lineCuts (mk x)).length)=true then some (PV.lst (zqr (Txt.lines (mk x)))) else none)=_
 rw [zm (by lia),zm (by lia),if_pos (by rfl)]
 congr 2
 have e1:(linesOf (mk x)).map (·.cps.toList)=Qb (y::r):=by
  unfold linesOf
  rw [hcut,xq,xq,←g2];rfl
 have e2:(Txt.lines (mk x)).map (·.cps.toList)=Qb (y::r):=by
  unfold Txt.lines
  split
  ·rename_i h
   have h:=beq_iff_eq.mp h
   rw [←e1]
   unfold linesOf
   rw [h]
   show [x]=[(strSub (mk x) 0 (mk x).length).cps.toList]
   rw [zk5,List.drop_zero,hlen,Nat.sub_zero,List.take_of_length_le (x9 _)]
  ·exact e1
 unfold zqr
 rw [←e2,xq];rfl
end
section
variable {base:Nat}{U:Ren}{W:Sto}
def jy (l:List Nat) (k:Int):Option Nat:=if qx k then (seqIndex? k l.length).bind (l[·]?) else none
set_option tactic.hygienic true in
theorem Q3 {f g:Den}{l:List Nat}{k:Int}{c:Nat} (hf:f U W=some (.str l)) (hg:g U W=some (.int k)) (h:jy l k=some c):d2 zn f g U W=some (.str [c]):=by
 rw [zp hf hg]
 refine (zj1 _ _ _).trans ?_
 unfold itS
 unfold jy at h
 split at h
 ·rename_i hs;rw [if_pos hs,h];rfl
 ·exact nn h
theorem zvs {α:Type} (l u:Option Int) (x:List α):(cut l u x).length≤x.length:=by
 unfold cut;simp only [List.length_take,List.length_drop];lia
theorem J0 {f:Den}{L Uu:zo0}{l u:Option Int}{x:List Nat} (hf:f U W=some (.str x)) (hx:x.length≤1000) (hL:L U W=some l) (hU:Uu U W=some u):qg f L Uu qn U W=some (.str (cut l u x)):=by
 unfold qg
 simp only [hf,hL,hU]
 show zcb W (.str x) l u none=_
 unfold zcb
 refine (?_:(if ((none:Option Int).isSome || !ze x.length)=true then none else some (PV.str (cut l u x)))=_)
 rw [zm (by lia),if_neg (by decide)]
theorem Z3 {f:Den}{i:Int} (hf:f U W=some (.int i)):qv f U W=some (some i):=by unfold qv;rw [hf];rfl
theorem Qd {f g:Den}{a b:List Nat} (hf:f U W=some (.str a)) (hg:g U W=some (.str b)) (h:a.length + b.length≤100000):d2 zx f g U W=some (.str (a ++ b)):=by
 rw [zp hf hg]
 show (if ze (a.length + b.length)=true then some (PV.str (a ++ b)) else none)=_
 rw [if_pos (zm (by omega))]
theorem zgj {fe:Den}{j:Nat}{p:PV}{l:List PV} (h1:U 42=some (.app j)) (h2:fe U W=some p) (hj:W[j]? =some l) (hb:base≤j) (hl:l.length≤1000):
  ju (zby (za 42) fe) base U W=some (.next,U,W.set j (l ++ [p])):=by
 unfold ju zby
 rw [show za 42 U W=some (.app j) from h1,h2]
 unfold Qm
 dsimp only
 rw [hj]
 dsimp only
 rw [if_pos (by rw [yd hb,zm (by lia)];rfl)]
 rfl
noncomputable def zb6 (w:Int) (ln:List Nat):Nat→Int→Option (List (List Nat)×Int)
 | 0,_=> none
 | n + 1,st=> if decide (st≤(ln.length:Int) - 1 - w) then
   match jy ln (st + (w - 1) - 2) with
   | none=> none
   | some c=> if [c]==[61] then (zb6 w ln n (st + (w - 1) - 2)).map fun p=> (cut (some st) (some (st + (w - 1) - 1)) ln::p.1,p.2)
    else match jy ln (st + (w - 1) - 1) with
     | none=> none
     | some d=> if [d]==[61] then (zb6 w ln n (st + (w - 1) - 1)).map fun p=> (cut (some st) (some (st + (w - 1))) ln::p.1,p.2)
      else (zb6 w ln n (st + (w - 1))).map fun p=> ((cut (some st) (some (st + (w - 1))) ln ++ [61])::p.1,p.2)
  else some ([],st)
theorem zci (w:Int) (ln:List Nat) (n:Nat) (st:Int):zb6 w ln (n + 1) st=(if decide (st≤(ln.length:Int) - 1 - w) then
   match jy ln (st + (w - 1) - 2) with
   | none=> none
   | some c=> if [c]==[61] then (zb6 w ln n (st + (w - 1) - 2)).map fun p=> (cut (some st) (some (st + (w - 1) - 1)) ln::p.1,p.2)
    else match jy ln (st + (w - 1) - 1) with
     | none=> none
     | some d=> if [d]==[61] then (zb6 w ln n (st + (w - 1) - 1)).map fun p=> (cut (some st) (some (st + (w - 1))) ln::p.1,p.2)
      else (zb6 w ln n (st + (w - 1))).map fun p=> ((cut (some st) (some (st + (w - 1))) ln ++ [61])::p.1,p.2)
  else some ([],st)):=rfl
noncomputable def QM (c:Nat):List Nat:=if c==32 then [61,50,48] else [61,48,57]
def zpi (w:Int) (ln:List Nat) (st:Int):Option (List (List Nat)):=
 match jy ln (-1) with
 | none=> none
 | some c=> if [32,9].contains c then
   if decide ((3:Int)≤st - ((ln.length:Int) - 1 - w)) then some [cut (some st) (some (-1)) ln ++ QM c]
   else if st - ((ln.length:Int) - 1 - w)==2 then some [cut (some st) (some (-1)) ln ++ [c,61],[]]
   else some [cut (some st) (some (-1)) ln ++ [61],QM c]
  else some [cut (some st) none ln]
theorem zb7 {w:Int}{ln:List Nat}:∀ (n:Nat) (st:Int) (ps:List (List Nat)) (st':Int),zb6 w ln n st=some (ps,st')→ps.length≤n
 | 0,_,_,_,h=> by exact nn h
 | n + 1,st,ps,st',h=> by
  rw [zci] at h
  split at h
  ·split at h
   ·exact nn h
   ·split at h
    ·obtain ⟨⟨q,s⟩,h1,h2⟩:=xh.mp h
     have:=zb7 n _ _ _ h1
     cases h2;simp;exact this
    ·split at h
     ·exact nn h
     ·split at h
      ·obtain ⟨⟨q,s⟩,h1,h2⟩:=xh.mp h
       have:=zb7 n _ _ _ h1
       cases h2;simp;exact this
      ·obtain ⟨⟨q,s⟩,h1,h2⟩:=xh.mp h
       have:=zb7 n _ _ _ h1
       cases h2;simp;exact this
  ·cases h;exact yc _
def zsx:q7:=tOf (d2 pLe (za 44) (za 47))
def zsw:Stm:=(zb (zc (tNm 48) (d2 zx (za 44) (za 49)))
 (zb (sIf (tOf (d2 zv (d2 zn (za 43) (d2 jb (za 48) (dC (.int 2)))) (dC (.str [61])))) (zb (ju (zby (za 42) (qg (za 43) (qv (za 44)) (qv (d2 jb (za 48) (dC (.int 1)))) qn)))
 (zb (zc (tNm 44) (d2 jb (za 48) (dC (.int 2))))
 zl)) (zb (sIf (tOf (d2 zv (d2 zn (za 43) (d2 jb (za 48) (dC (.int 1)))) (dC (.str [61])))) (zb (ju (zby (za 42) (qg (za 43) (qv (za 44)) (qv (za 48)) qn)))
 (zb (zc (tNm 44) (d2 jb (za 48) (dC (.int 1))))
 zl)) (zb (ju (zby (za 42) (d2 zx (qg (za 43) (qv (za 44)) (qv (za 48)) qn) (dC (.str [61])))))
 (zb (zc (tNm 44) (za 48))
 zl)))
 zl))
 zl))
theorem qz {U:Ren}{i j:Nat}{p:PV} (h:j≠i):upd U i p j=U j:=by unfold upd;rw [if_neg h]
theorem set_set {W:Sto}{j:Nat}{a b:List PV}:(W.set j a).set j b=W.set j b:=by rw [List.set_set]
theorem zf3 {W:Sto}{j:Nat}{a l:List PV} (h:W[j]? =some l):(W.set j a)[j]? =some a:=by
 have:=(xe.mp h).1
 rw [List.getElem?_set_self this]
theorem zk8 {w:Int}{ln:List Nat}{st:Int}{j:Nat}{l:List PV} (r44:U 44=some (.int st)) (r43:U 43=some (.str ln)) (r49:U 49=some (.int (w - 1))) (r42:U 42=some (.app j)) (hj:W[j]? =some l) (hb:base≤j) (hl:l.length≤1000) (hln:ln.length≤1000) {p:List Nat}{st2:Int}
  (h:∃ c,jy ln (st + (w - 1) - 2)=some c∧((([c]==[61])=true∧st2=st + (w - 1) - 2∧p=cut (some st) (some (st + (w - 1) - 1)) ln)∨(([c]==[61])=false∧∃ d,jy ln (st + (w - 1) - 1)=some d∧((([d]==[61])=true∧st2=st + (w - 1) - 1∧p=cut (some st) (some (st + (w - 1))) ln)∨(([d]==[61])=false∧st2=st + (w - 1)∧p=cut (some st) (some (st + (w - 1))) ln ++ [61]))))):
  zsw base U W=some (.next,upd (upd U 48 (.int (st + (w - 1)))) 44 (.int st2),W.set j (l ++ [.str p])):=by
 have e48:d2 zx (za 44) (za 49) U W=some (.int (st + (w - 1))):=(zp (f:=za 44) r44 (f':=za 49) r49).trans rfl
 refine (zd (zj e48)).trans ?_
 generalize hU1:upd U 48 (.int (st + (w - 1)))=U1
 have s48:za 48 U1 W=some (.int (st + (w - 1))):=by rw [←hU1];rfl
 have s44:za 44 U1 W=some (.int st):=by rw [←hU1];exact r44
 have s43:za 43 U1 W=some (.str ln):=by rw [←hU1];exact r43
 have s42:U1 42=some (.app j):=by rw [←hU1];exact r42
 have m1:∀ W,d2 jb (za 48) (dC (.int 1)) U1 W=some (.int (st + (w - 1) - 1)):=fun W=> (zp (f:=za 48) (by rw [←hU1];rfl) (b:= .int 1) rfl).trans rfl
 have m2:∀ W,d2 jb (za 48) (dC (.int 2)) U1 W=some (.int (st + (w - 1) - 2)):=fun W=> (zp (f:=za 48) (by rw [←hU1];rfl) (b:= .int 2) rfl).trans rfl
 obtain ⟨c,hc,h⟩:=h
 have t1:tOf (d2 zv (d2 zn (za 43) (d2 jb (za 48) (dC (.int 2)))) (dC (.str [61]))) U1 W=some ([c]==[61]):=
  (qb ((zp (Q3 s43 (m2 W) hc) (b:= .str [61]) rfl).trans (zdc _ _ _))).trans (trB _ _)
 rcases h with ⟨hc1,rfl,rfl⟩ | ⟨hc1,d,hd,h⟩
 ·rw [hc1] at t1
  have e1:=zgj (base:=base) s42 (J0 s43 hln (Z3 s44) (Z3 (m1 W))) hj hb hl
  have e2:=(zd e1).trans (zd (f':=zl) (zj (i:=44) (m2 _)))
  exact (zd ((Z6 t1).trans e2)).trans rfl
 ·rw [hc1] at t1
  have t2:tOf (d2 zv (d2 zn (za 43) (d2 jb (za 48) (dC (.int 1)))) (dC (.str [61]))) U1 W=some ([d]==[61]):=
   (qb ((zp (Q3 s43 (m1 W) hd) (b:= .str [61]) rfl).trans (zdc _ _ _))).trans (trB _ _)
  have no1:∀ {f f':Stm}{r:Fl×Ren×Sto},f' base U1 W=some r→sIf (tOf (d2 zv (d2 zn (za 43) (d2 jb (za 48) (dC (.int 2)))) (dC (.str [61])))) f f' base U1 W=some r:=by
   intro f f' r hr;exact (zll t1).trans hr
  rcases h with ⟨hd1,rfl,rfl⟩ | ⟨hd1,rfl,rfl⟩
  ·rw [hd1] at t2
   have e1:=zgj (base:=base) s42 (J0 s43 hln (Z3 s44) (Z3 s48)) hj hb hl
   have e2:=(zd e1).trans (zd (f':=zl) (zj (i:=44) (m1 _)))
   exact (zd (no1 ((zd ((Z6 t2).trans e2)).trans rfl))).trans rfl
  ·rw [hd1] at t2
   have no2:∀ {f f':Stm}{r:Fl×Ren×Sto},f' base U1 W=some r→sIf (tOf (d2 zv (d2 zn (za 43) (d2 jb (za 48) (dC (.int 1)))) (dC (.str [61])))) f f' base U1 W=some r:=by
    intro f f' r hr;exact (zll t2).trans hr
   have e1:=zgj (base:=base) s42 (Qd (J0 s43 hln (Z3 s44) (Z3 s48)) (b:=[61]) (g:=dC (.str [61])) rfl (by have:=zvs (some st) (some (st + (w - 1))) ln;simp;omega)) hj hb hl
   have e2:=(zd e1).trans (zd (f:=zc (tNm 44) (za 48)) (f':=zl) (zj (i:=44) (f:=za 48) (a:= .int (st + (w - 1))) (by rw [←hU1];rfl)))
   exact (zd (no1 ((zd (no2 e2)).trans rfl))).trans rfl
theorem zfi {t:q7}{body:Stm}{n:Nat}{U2:Ren}{W2:Sto} (h:t U W=some true) (e:body base U W=some (.next,U2,W2)):J2 t body base (n + 1) U W=J2 t body base n U2 W2:=by
 show (t U W).bind _=_
 rw [h,Option.bind_some]
 show (body base U W).bind _=_
 rw [e];rfl
theorem zon {t:q7}{body:Stm}{n:Nat}{U2:Ren}{W2:Sto} (h:t U W=some true) (e:body base U W=some (.cont,U2,W2)):J2 t body base (n + 1) U W=J2 t body base n U2 W2:=by
 show (t U W).bind _=_
 rw [h,Option.bind_some]
 show (body base U W).bind _=_
 rw [e];rfl
theorem zfj {t:q7}{body:Stm}{n:Nat} (h:t U W=some false):J2 t body base (n + 1) U W=some (.next,U,W):=by
 show (t U W).bind _=_
 rw [h];rfl
set_option tactic.hygienic true in
theorem zzg {w:Int}{ln:List Nat}{j:Nat} (hb:base≤j) (hln:ln.length≤1000):∀ (n:Nat) (U:Ren) (W:Sto) (st:Int) (l:List PV) (ps:List (List Nat)) (st':Int),zb6 w ln n st=some (ps,st')→U 44=some (.int st)→U 43=some (.str ln)→U 47=some (.int ((ln.length:Int) - 1 - w))→U 49=some (.int (w - 1))→U 42=some (.app j)→W[j]? =some l→l.length + n≤1000→
  ∃ U',J2 zsx zsw base n U W=some (.next,U',W.set j (l ++ ps.map .str))∧U' 44=some (.int st')∧∀ i,i≠44→i≠48→U' i=U i:=by
 intro n
 induction n with
 | zero=> intro U W st l ps st' h;exact nn h
 | succ n ih=>
  intro U W st l ps st' h r44 r43 r47 r49 r42 hj hl
  have t:zsx U W=some (decide (st≤(ln.length:Int) - 1 - w)):=(qb ((zp (f:=za 44) r44 (f':=za 47) r47).trans (rfl:pLe W (.int st) (.int ((ln.length:Int) - 1 - w))=some (.bool (decide (st≤(ln.length:Int) - 1 - w)))))).trans (trB _ _)
  rw [zci] at h
  have step:∀ (p:List Nat) (st2:Int) (q:List (List Nat)),zsx U W=some true→zsw base U W=some (.next,upd (upd U 48 (.int (st + (w - 1)))) 44 (.int st2),W.set j (l ++ [.str p]))→zb6 w ln n st2=some (q,st')→ps=p::q→
    ∃ U',J2 zsx zsw base (n + 1) U W=some (.next,U',W.set j (l ++ ps.map .str))∧U' 44=some (.int st')∧∀ i,i≠44→i≠48→U' i=U i:=by
   intro p st2 q tt eB hq hps
   obtain ⟨U',g1,g2,g3⟩:=ih (upd (upd U 48 (.int (st + (w - 1)))) 44 (.int st2)) (W.set j (l ++ [.str p])) st2 (l ++ [.str p]) q st' hq rfl r43 r47 r49 r42 (zf3 hj) (by simp;lia)
   refine ⟨U',(zfi tt eB).trans ?_,g2,fun i h1 h2=> (g3 i h1 h2).trans ?_⟩
   ·simp only [g1,set_set,hps];simp
   ·rw [qz h1,qz h2]
  split at h
  ·rename_i hcond
   rw [hcond] at t
   split at h
   ·exact nn h
   ·rename_i c hc
    split at h
    ·rename_i hc1
     obtain ⟨⟨q,s⟩,h1,h2⟩:=xh.mp h
     cases h2
     exact step _ _ q t (zk8 r44 r43 r49 r42 hj hb (by lia) hln ⟨c,hc,.inl ⟨hc1,rfl,rfl⟩⟩) h1 rfl
    ·rename_i hc1
     split at h
     ·exact nn h
     ·rename_i d hd
      split at h
      ·rename_i hd1
       obtain ⟨⟨q,s⟩,h1,h2⟩:=xh.mp h
       cases h2
       exact step _ _ q t (zk8 r44 r43 r49 r42 hj hb (by lia) hln ⟨c,hc,.inr ⟨by simpa using hc1,d,hd,.inl ⟨hd1,rfl,rfl⟩⟩⟩) h1 rfl
      ·rename_i hd1
       obtain ⟨⟨q,s⟩,h1,h2⟩:=xh.mp h
       cases h2
       exact step _ _ q t (zk8 r44 r43 r49 r42 hj hb (by lia) hln ⟨c,hc,.inr ⟨by simpa using hc1,d,hd,.inr ⟨by simpa using hd1,rfl,rfl⟩⟩⟩) h1 rfl
  ·rename_i hcond
   rw [show decide (st≤(ln.length:Int) - 1 - w)=false by simpa using hcond] at t
   cases h
   refine ⟨U,(zfj t).trans ?_,r44,fun V V V=> rfl⟩
   have:W.set j (l ++ [].map PV.str)=W:=by
    simp only [List.map_nil,List.append_nil]
    obtain ⟨h1,h2⟩:=xe.mp hj
    simp only [←h2,List.set_getElem_self]
   simp only [this]
def z1g:Stm:=(sIf (Zz (tOf (za 43)) (Zz (tOf (d2 pIn (d2 zn (za 43) (d1 Q6 (dC (.int 1)))) (dC (.str [32,9])))) (fun V V=> some true))) (zb (zc (tNm 45) (d2 jb (za 44) (za 47)))
 (zb (sIf (tOf (d2 pGe (za 45) (dC (.int 3)))) (zb (zc (tNm 33) (dFn (bfN 1 []) [9] Q0 [(d2 zn (za 43) (d1 Q6 (dC (.int 1))))]))
 zl) (zb (sIf (tOf (d2 zv (za 45) (dC (.int 2)))) (zb (zc (tNm 33) (d2 zx (d2 zn (za 43) (d1 Q6 (dC (.int 1)))) (za 46)))
 zl) (zb (zc (tNm 33) (d2 zx (za 46) (dFn (bfN 1 []) [9] Q0 [(d2 zn (za 43) (d1 Q6 (dC (.int 1))))])))
 zl))
 zl))
 (zb (ju (zby (za 42) (d2 zx (qg (za 43) (qv (za 44)) (qv (d1 Q6 (dC (.int 1)))) qn) (za 33))))
 zl))) (zb (ju (zby (za 42) (qg (za 43) (qv (za 44)) qn qn)))
 zl))
theorem zxw (W:Sto) {c:Nat} (h:[32,9].contains c=true):fnV (bfN 1 []) [9] Q0 W [.str [c]]=some (.str (QM c)):=by
 have:c=32∨c=9:=by simpa using h
 rcases this with rfl | rfl <;> kernel_rfl
theorem zo1 (c:Nat):(QM c).length=3:=by unfold QM;split <;> rfl
set_option tactic.hygienic true in
theorem zv2 {w:Int}{ln eol:List Nat}{st:Int}{j:Nat}{l:List PV}{T:List (List Nat)} (r44:U 44=some (.int st)) (r43:U 43=some (.str ln)) (r47:U 47=some (.int ((ln.length:Int) - 1 - w))) (r46:U 46=some (.str (61::eol))) (r42:U 42=some (.app j)) (hj:W[j]? =some l) (hb:base≤j) (hl:l.length≤1000) (hln:ln.length≤1000) (hne:ln≠[]) (heol:eol.length≤10) (h:zpi w ln st=some T):
  ∃ U',z1g base U W=some (.next,U',W.set j (l ++ [.str (zu eol T)]))∧∀ i,i≠45→i≠33→U' i=U i:=by
 refine bc fun J=> ?_
 unfold zpi at h
 have v43:za 43 U W=some (.str ln):=r43
 have hlen:0 < ln.length:=List.length_pos_iff.mpr hne
 have t0:tOf (za 43) U W=some true:=by
  rw [qb v43]
  show (if ze ln.length then some (ln.length !=0) else none)=_
  rw [if_pos (zm (by lia))]
  congr 1
  rw [bne_iff_ne];lia
 have neg1:∀ (U:Ren) (W:Sto),d1 Q6 (dC (.int 1)) U W=some (.int (-1)):=fun V V=> rfl
 split at h
 ·cases h
 rename_i c hc
 have ic:∀ (U':Ren) (W':Sto),U' 43=some (.str ln)→d2 zn (za 43) (d1 Q6 (dC (.int 1))) U' W'=some (.str [c]):=fun U' W' h=> Q3 (f:=za 43) h (neg1 U' W') hc
 have t1:Zz (tOf (za 43)) (Zz (tOf (d2 pIn (d2 zn (za 43) (d1 Q6 (dC (.int 1)))) (dC (.str [32,9])))) (fun V V=> some true)) U W=some ([32,9].contains c):=by
  unfold Zz
  rw [t0]
  dsimp only
  have:tOf (d2 pIn (d2 zn (za 43) (d1 Q6 (dC (.int 1)))) (dC (.str [32,9]))) U W=some ([32,9].contains c):=
   (qb ((zp (ic U W r43) (b:= .str [32,9]) rfl).trans (rfl:pIn W (.str [c]) (.str [32,9])=some (.bool ([32,9].contains c))))).trans (trB _ _)
  rw [this]
  cases [32,9].contains c <;> rfl
 split at h
 ·rename_i hws
  rw [hws] at t1
  have hq:=zxw
  have e45:d2 jb (za 44) (za 47) U W=some (.int (st - ((ln.length:Int) - 1 - w))):=(zp (f:=za 44) r44 (f':=za 47) r47).trans rfl
  generalize hroom:st - ((ln.length:Int) - 1 - w)=room at *
  generalize hU1:upd U 45 (.int room)=U1
  have k1:∀ i,i≠45→U1 i=U i:=fun i hi=> by rw [←hU1];exact qz hi
  have s45:U1 45=some (.int room):=by rw [←hU1];rfl
  have ge3:tOf (d2 pGe (za 45) (dC (.int 3))) U1 W=some (decide ((3:Int)≤room)):=(qb ((zp (f:=za 45) s45 (b:= .int 3) rfl).trans (rfl:pGe W (.int room) (.int 3)=some (.bool (decide ((3:Int)≤room)))))).trans (trB _ _)
  have eq2:tOf (d2 zv (za 45) (dC (.int 2))) U1 W=some (room==2):=(qb ((zp (f:=za 45) s45 (b:= .int 2) rfl).trans (zek _ _ _))).trans (trB _ _)
  have qc:dFn (bfN 1 []) [9] Q0 [(d2 zn (za 43) (d1 Q6 (dC (.int 1))))] U1 W=some (.str (QM c)):=(Jr (ic U1 W ((k1 43 (by decide)).trans r43))).trans (hq W hws)
  have fin:∀ (q:List Nat) (F:Stm),F base U1 W=some (.next,upd U1 33 (.str q),W)→q.length≤100→zu eol T=cut (some st) (some (-1)) ln ++ q→
    ∃ U',(zb (zc (tNm 45) (d2 jb (za 44) (za 47))) (zb F (zb (ju (zby (za 42) (d2 zx (qg (za 43) (qv (za 44)) (qv (d1 Q6 (dC (.int 1)))) qn) (za 33)))) zl))) base U W=some (.next,U',W.set j (l ++ [.str (zu eol T)]))∧∀ i,i≠45→i≠33→U' i=U i:=by
   intro q F hF hql hg
   refine ⟨upd U1 33 (.str q), ?_,fun i h1 h2=> (qz h2).trans (k1 i h1)⟩
   refine (zd (zj e45)).trans ?_
   rw [hU1]
   refine (zd hF).trans ?_
   have:=zvs (some st) (some (-1)) ln
   have e:=zgj (base:=base) (U:=upd U1 33 (.str q)) (W:=W) (j:=j) (l:=l) ((qz (by decide)).trans ((k1 42 (by decide)).trans r42)) (Qd (J0 (f:=za 43) ((qz (by decide)).trans ((k1 43 (by decide)).trans r43)) hln (Z3 (f:=za 44) ((qz (by decide)).trans ((k1 44 (by decide)).trans r44))) (Z3 (neg1 _ _))) (g:=za 33) (b:=q) rfl (by lia)) hj hb hl
   rw [←hg] at e
   exact (zd e).trans rfl
  refine J ?_
  show ∃ U',sIf _ _ _ base U W=_∧_
  rw [Z6 t1]
  split at h
  ·rename_i h3
   cases h
   refine fin (QM c) _ ?_ (by rw [zo1];decide) ?_
   ·refine (Z6 (ge3.trans (congrArg some h3))).trans ?_
    exact (zd (zj qc)).trans rfl
   ·show _ ++ zr eol []=_;simp [zr]
  ·rename_i h3
   have no3:∀ {f f':Stm}{r:Fl×Ren×Sto},f' base U1 W=some r→sIf (tOf (d2 pGe (za 45) (dC (.int 3)))) f f' base U1 W=some r:=by
    intro f f' r hr;unfold sIf;rw [ge3,show decide ((3:Int)≤room)=false by simpa using h3];exact hr
   have s46:U1 46=some (.str (61::eol)):=(k1 46 (by decide)).trans r46
   split at h
   ·rename_i h2
    cases h
    refine fin ([c] ++ (61::eol)) _ ?_ (by simp;lia) ?_
    ·refine no3 ((zd ((Z6 (eq2.trans (congrArg some h2))).trans ((zd (zj (Qd (ic U1 W ((k1 43 (by decide)).trans r43)) (g:=za 46) s46 (by simp;lia)))).trans rfl))).trans rfl)
    ·show _ ++ zr eol [[]]=_;simp [zr]
   ·rename_i h2
    cases h
    refine fin ((61::eol) ++ QM c) _ ?_ (by simp [zo1];lia) ?_
    ·refine no3 ((zd (?_:_=some (Fl.next,upd U1 33 (.str ((61::eol) ++ QM c)),W))).trans rfl)
     unfold sIf
     rw [eq2,show (room==2)=false by simpa using h2]
     exact (zd (zj (Qd (f:=za 46) s46 qc (by simp [zo1];lia)))).trans rfl
    ·show _ ++ zr eol [QM c]=_;simp [zr]
 ·rename_i hws
  cases h
  refine J ?_
  refine ⟨U, ?_,fun V V V=> rfl⟩
  show sIf _ _ _ base U W=_
  unfold sIf
  rw [t1,show [32,9].contains c=false by simpa using hws]
  have e:=zgj (base:=base) r42 (J0 (Uu:=qn) (u:=none) v43 hln (Z3 (f:=za 44) r44) rfl) hj hb hl
  have hg:zu eol [cut (some st) none ln]=cut (some st) none ln:=by show _ ++ zr eol []=_;simp [zr]
  rw [hg]
  exact (zd e).trans rfl
def z3c:Stm:=(zb (zc (tNm 44) (dC (.int 0)))
 (zb (zc (tNm 47) (d2 jb (d2 jb (zf Qt [(za 43)]) (dC (.int 1))) (za 11)))
 (zb (zbo 60 zsx zsw)
 (zb z1g
 zl))))
structure EnSt (U:Ren) (w:Int) (eol:List Nat) (j:Nat):Prop where
 r11:U 11=some (.int w)
 r42:U 42=some (.app j)
 r46:U 46=some (.str (61::eol))
 r49:U 49=some (.int (w - 1))
def Zv (w:Int) (ln:List Nat):Option (List (List Nat)×List (List Nat)):=match zb6 w ln 60 0 with
 | none=> none
 | some p=> match zpi w ln p.2 with | none=> none | some T=> some (p.1,T)
noncomputable def Kp (U U':Ren):Prop:=∀ i,i≠43→i≠44→i≠45→i≠47→i≠48→i≠33→U' i=U i
theorem EnSt.kp {U U':Ren}{w:Int}{eol:List Nat}{j:Nat} (S:EnSt U w eol j) (k:Kp U U'):EnSt U' w eol j:=
 ⟨(k 11 (by decide) (by decide) (by decide) (by decide) (by decide) (by decide)).trans S.r11,(k 42 (by decide) (by decide) (by decide) (by decide) (by decide) (by decide)).trans S.r42,(k 46 (by decide) (by decide) (by decide) (by decide) (by decide) (by decide)).trans S.r46,(k 49 (by decide) (by decide) (by decide) (by decide) (by decide) (by decide)).trans S.r49⟩
set_option tactic.hygienic true in
theorem zzf {w:Int}{ln eol:List Nat}{j:Nat}{l:List PV}{p:List (List Nat)×List (List Nat)} (S:EnSt U w eol j) (hj:W[j]? =some l) (hb:base≤j) (hl:l.length≤500) (hln:ln.length≤1000) (hne:ln≠[]) (heol:eol.length≤10) (h:Zv w ln=some p):
  ∃ U',z3c base (upd U 43 (.str ln)) W=some (.next,U',W.set j (l ++ (p.1 ++ [zu eol p.2]).map .str))∧Kp U U':=by
 refine bc fun J=> ?_
 unfold Zv at h
 split at h
 ·cases h
 rename_i q hq
 split at h
 ·cases h
 rename_i T hT
 cases h
 refine J ?_
 refine bc fun J=> ?_
 obtain ⟨ps,st'⟩:=q
 have lenE:zf Qt [(za 43)] (upd (upd U 43 (.str ln)) 44 (.int 0)) W=some (.int ln.length):=by
  rw [qq (f:=za 43) (a:= .str ln) rfl]
  show (if ze ln.length then some (PV.int ln.length) else none)=_
  rw [if_pos (zm (by lia))]
 have e47:d2 jb (d2 jb (zf Qt [(za 43)]) (dC (.int 1))) (za 11) (upd (upd U 43 (.str ln)) 44 (.int 0)) W=some (.int ((ln.length:Int) - 1 - w)):=
  (zp ((zp lenE (b:= .int 1) rfl).trans (rfl:_=some (PV.int ((ln.length:Int) - 1)))) (f':=za 11) (b:= .int w) S.r11).trans rfl
 obtain ⟨U2,g1,g2,g3⟩:=zzg (base:=base) (w:=w) (ln:=ln) (j:=j) hb hln 60 (upd (upd (upd U 43 (.str ln)) 44 (.int 0)) 47 (.int ((ln.length:Int) - 1 - w))) W 0 l ps st' hq rfl rfl rfl S.r49 S.r42 hj (by lia)
 have hps:=zb7 60 0 ps st' hq
 obtain ⟨U3,f1,f2⟩:=zv2 (base:=base) (U:=U2) (W:=W.set j (l ++ ps.map .str)) (w:=w) (ln:=ln) (eol:=eol) (st:=st') (j:=j) (l:=l ++ ps.map .str) (T:=T) g2 ((g3 43 (by decide) (by decide)).trans rfl) ((g3 47 (by decide) (by decide)).trans rfl) ((g3 46 (by decide) (by decide)).trans S.r46) ((g3 42 (by decide) (by decide)).trans S.r42) (zf3 hj) hb (by simp;lia) hln hne heol hT
 refine J ?_
 refine ⟨U3, ?_,fun i h1 h2 h3 h4 h5 h6=> (f2 i h3 h6).trans ((g3 i h2 h5).trans ((qz h4).trans ((qz h2).trans (qz h1))))⟩
 refine (zd (zj (i:=44) (f:=dC (.int 0)) rfl)).trans ((zd (zj e47)).trans ?_)
 refine (zd (f:=zbo 60 zsx zsw) g1).trans ?_
 rw [set_set] at f1
 refine (zd f1).trans ?_
 rw [List.map_append,←List.append_assoc];rfl
set_option tactic.hygienic true in
theorem zze {w:Int}{eol:List Nat}{j:Nat} (hb:base≤j) (heol:eol.length≤10) (enc:List Nat→List (List Nat)×List (List Nat)):∀ (lns:List (List Nat)) (U:Ren) (W:Sto) (l:List PV),EnSt U w eol j→W[j]? =some l→l.length + 61 * lns.length≤500→(∀ ln∈lns,ln.length≤1000∧ln≠[]∧Zv w ln=some (enc ln))→
  ∃ U',zbz (tNm 43) z3c base (lns.map .str) U W=some (.next,U',W.set j (l ++ (lns.flatMap fun ln=> (enc ln).1 ++ [zu eol (enc ln).2]).map .str))∧Kp U U':=by
 intro lns
 induction lns with
 | nil=>
  intro U W l S hj _ _
  refine ⟨U, ?_,fun V V V V V V V=> rfl⟩
  have:W.set j (l ++ [].map PV.str)=W:=by
   rw [List.map_nil,List.append_nil]
   obtain ⟨h1,h2⟩:=xe.mp hj
   rw [←h2,List.set_getElem_self]
  rw [List.flatMap_nil,this];rfl
 | cons ln lns ih=>
  intro U W l S hj hl h
  refine bc fun J=> ?_
  obtain ⟨h1,h2,h3⟩:=h ln xk
  simp only [List.length_cons] at hl
  obtain ⟨U1,e1,k1⟩:=zzf (base:=base) (U:=U) (W:=W) (eol:=eol) S hj hb (by lia) h1 h2 heol h3
  have hlen:(enc ln).1.length≤60:=by
   unfold Zv at h3
   split at h3
   ·cases h3
   rename_i q hq
   split at h3
   ·cases h3
   ·have:=zb7 60 0 q.1 q.2 hq
    cases h3':enc ln
    rw [h3'] at h3;cases h3;exact this
  obtain ⟨U2,e2,k2⟩:=ih U1 (W.set j (l ++ ((enc ln).1 ++ [zu eol (enc ln).2]).map .str)) (l ++ ((enc ln).1 ++ [zu eol (enc ln).2]).map .str) (S.kp k1) (zf3 hj) (by simp;lia) fun x hx=> h x (xf _ hx)
  refine J ?_
  refine ⟨U2, ?_,fun i a b c d e f=> (k2 i a b c d e f).trans (k1 i a b c d e f)⟩
  rw [List.map_cons]
  rw [Zi rfl e1,e2,set_set]
  simp only [List.flatMap_cons,List.map_append,List.append_assoc]
theorem za3 (sep:List Nat) (a b:List (List Nat)):zr sep (a ++ b)=zr sep a ++ zr sep b:=by simp only [zr];simp
theorem zde (sep:List Nat) (l:List (List Nat)):zu sep l=(zr sep l).drop sep.length:=by
 cases l with
 | nil=> simp [zu,zr]
 | cons y r=> show y ++ zr sep r=_;simp only [zr];simp
theorem zs7 (sep:List Nat) {T:List (List Nat)} (h:T≠[]):zr sep [zu sep T]=zr sep T:=by
 cases T with
 | nil=> exact absurd rfl h
 | cons y r=> unfold zu;simp only [zr];simp [zr]
theorem zs8 (sep:List Nat) (f:List Nat→List (List Nat)×List (List Nat)) (lns:List (List Nat)) (h:∀ ln∈lns,(f ln).2≠[]):zu sep (lns.flatMap fun ln=> (f ln).1 ++ [zu sep (f ln).2])=zu sep (lns.flatMap fun ln=> (f ln).1 ++ (f ln).2):=by
 rw [zde,zde]
 congr 1
 induction lns with
 | nil=> rfl
 | cons ln lns ih=>
  rw [List.flatMap_cons,List.flatMap_cons,za3,za3,za3,za3,ih fun x hx=> h x (xf _ hx),zs7 sep (h ln xk)]
theorem Zw (sep:List Nat) (l:List (List Nat)):(zu sep l).length≤(l.map List.length).sum + l.length * sep.length:=by
 have hR:∀ l:List (List Nat),(zr sep l).length=(l.map List.length).sum + l.length * sep.length:=by
  intro l
  induction l with
  | nil=> simp [zr]
  | cons y r ih=>
   have:zr sep (y::r)=sep ++ (y ++ zr sep r):=by simp only [zr];simp
   rw [this,xz,xz,ih,List.map_cons,List.sum_cons,List.length_cons,Nat.add_mul];lia
 rw [zde,List.length_drop,hR];lia
theorem zjp {sep:List Nat}:∀ (r:List (List Nat)) (y:List Nat),(∀ z∈y::r,z≠[]∧z.all nbr=true)→∃ c,(zu sep (y::r)).getLast? =some c∧nbr c=true
 | [],y,h=> by
  obtain ⟨h1,h2⟩:=h y (by simp)
  have e:zu sep [y]=y:=by show y ++ zr sep []=y;simp [zr]
  rw [e]
  exact ⟨y.getLast h1,List.getLast?_eq_some_getLast h1,xo.mp h2 _ (List.getLast_mem h1)⟩
 | z::r,y,h=> by
  obtain ⟨c,h1,h2⟩:=zjp (sep:=sep) r z fun w hw=> h w (xf _ hw)
  refine ⟨c, ?_,h2⟩
  have e:zu sep (y::z::r)=(y ++ sep) ++ zu sep (z::r):=by
   show y ++ zr sep (z::r)=_
   unfold zu;simp only [zr];simp
  rw [e,List.getLast?_append,h1];rfl
theorem zjn {l:List Nat}{c:Nat} (h:l.getLast? =some c) (hl:l.length≤100000):jy l (-1)=some c:=by
 have hne:l≠[]:=by rintro rfl;cases h
 have hp:0 < l.length:=List.length_pos_iff.mpr hne
 unfold jy
 rw [if_pos (by decide)]
 have:seqIndex? (-1) l.length=some (l.length - 1):=by
  unfold seqIndex?
  show (if (decide ((0:Int)≤(if (-1:Int) < 0 then -1 + (l.length:Int) else -1)) && decide ((if (-1:Int) < 0 then -1 + (l.length:Int) else -1) < (l.length:Int)))=true then some ((if (-1:Int) < 0 then -1 + (l.length:Int) else -1)).toNat else none)=_
  rw [if_pos (show (-1:Int) < 0 by decide),if_pos (by rw [xi,decide_eq_true_eq,decide_eq_true_eq];lia)]
  congr 1;lia
 rw [this]
 show l[l.length - 1]? =some c
 rw [←h,List.getLast?_eq_getElem?]
def Zk (w:Int) (ln:List Nat):List (List Nat)×List (List Nat):=(Zv w ln).getD ([],[])
def zk1 (w:Int) (ln:List Nat):Bool:=match Zv w ln with
 | none=> false
 | some p=> !p.2.isEmpty && decide ((p.1.map List.length).sum + (p.2.map List.length).sum + 10 * p.2.length + 10 * p.1.length≤1000) && !ln.isEmpty && ln.all nbr && decide (ln.length≤100)
structure EncOk (w:Int) (ln:List Nat):Prop where
 e:Zv w ln=some (Zk w ln)
 t:(Zk w ln).2≠[]
 s:((Zk w ln).1.map List.length).sum + ((Zk w ln).2.map List.length).sum + 10 * (Zk w ln).2.length + 10 * (Zk w ln).1.length≤1000
 n:ln≠[]
 b:ln.all nbr=true
 l:ln.length≤100
theorem zm0 {w:Int}{ln:List Nat} (h:zk1 w ln=true):EncOk w ln:=by
 unfold zk1 at h
 cases e:Zv w ln with
 | none=> rw [e] at h;cases h
 | some p=>
  rw [e] at h
  simp only [xi,decide_eq_true_eq,Bool.not_eq_true',List.isEmpty_eq_false_iff] at h
  obtain ⟨⟨⟨⟨h1,h2⟩,h3⟩,h4⟩,h5⟩:=h
  have hD:Zk w ln=p:=by unfold Zk;rw [e];rfl
  exact ⟨by rw [e,hD],by rw [hD];exact h1,by rw [hD];exact h2,h3,h4,h5⟩
def Zm (w:Int) (lns:List (List Nat)):List (List Nat):=lns.flatMap fun ln=> (Zk w ln).1 ++ (Zk w ln).2
theorem zq9 {w:Int}{eol:List Nat}{x y:List Nat}{r:List (List Nat)} (hw:4≤w) (heol:eol.length≤2) (hx:x≠[]) (hxl:x.length≤1000) (ht:∀ W,Jx zbt ENC W [.str x,.raw zbt]=some (.str (zu [10] (y::r)))) (hr:r.length≤3) (h:∀ ln∈y::r,EncOk w ln):
  fnV (bfN 3 []) [10,11,12] Zh W [.str x,.int w,.str eol]=some (.str (zu eol (Zm w (y::r)))):=by
 refine zao (bps:=[.str x,.int w,.str eol]) rfl ?_ rfl
 have hB:(zu [10] (y::r)).length≤10000:=by
  have:=Zw [10] (y::r)
  have hsum:∀ l:List (List Nat),(∀ ln∈l,EncOk w ln)→(l.map List.length).sum≤100 * l.length:=by
   intro l
   induction l with
   | nil=> intro _;exact yc _
   | cons a l ih=> intro h;have:=ih fun x hx=> h x (xf _ hx);have:=(h a xk).l;rw [List.map_cons,List.sum_cons,List.length_cons];lia
  have:=hsum _ h
  simp only [List.length_cons,List.length_nil] at *;lia
 have hlns:Qb (y::r)=y::r:=by
  have:∀ (r:List (List Nat)) (y:List Nat),(∀ z∈y::r,z≠[])→Qb (y::r)=y::r:=by
   intro r
   induction r with
   | nil=> intro y hy;exact if_neg (by simpa using hy y (by simp))
   | cons z r ih=> intro y hy;rw [zhb,ih z fun w hw=> hy w (xf _ hw)]
  exact this r y fun z hz=> (h z hz).n
 generalize hU0:qw [10,11,12] [.str x,.int w,.str eol] Zy=U0
 have a10:U0 10=some (.str x):=by rw [←hU0];rfl
 have a11:U0 11=some (.int w):=by rw [←hU0];rfl
 have a12:U0 12=some (.str eol):=by rw [←hU0];rfl
 have hxp:0 < x.length:=List.length_pos_iff.mpr hx
 refine Ret.next (Jd (((qb ((zp (f:=za 11) a11 (b:= .int 4) rfl).trans (rfl:pLt W (.int w) (.int 4)=some (.bool (decide (w < 4)))))).trans (trB _ _)).trans (by rw [decide_eq_false (by lia)]))) ?_
 refine Ret.next (Jd (show ze2 (tOf (za 10)) U0 W=some false from ?_)) ?_
 ·unfold ze2
  rw [qb (f:=za 10) a10]
  show ((if ze x.length then some (x.length !=0) else none).map (!·))=_
  rw [if_pos (zm (by lia)),show (x.length !=0)=true by rw [bne_iff_ne];lia];rfl
 refine Ret.next (zj ((je (f:=za 10) a10 (f':=dC (.raw zbt)) rfl).trans (ht W))) ?_
 generalize hU1:upd U0 10 (.str (zu [10] (y::r)))=U1
 have k1:∀ i,i≠10→U1 i=U0 i:=fun i hi=> by rw [←hU1];exact qz hi
 refine Ret.next (zj (Qd (f:=dC (.str [61])) (a:=[61]) rfl (g:=za 12) ((k1 12 (by decide)).trans a12) (by simp;lia))) ?_
 generalize hU2:upd U1 46 (.str ([61] ++ eol))=U2
 have k2:∀ i,i≠46→U2 i=U1 i:=fun i hi=> by rw [←hU2];exact qz hi
 refine Ret.next (zj ((zp (f:=za 11) ((k2 11 (by decide)).trans ((k1 11 (by decide)).trans a11)) (b:= .int 1) rfl).trans (rfl:jb W (.int w) (.int 1)=some (.int (w - 1))))) ?_
 generalize hU3:upd U2 49 (.int (w - 1))=U3
 have k3:∀ i,i≠49→U3 i=U2 i:=fun i hi=> by rw [←hU3];exact qz hi
 refine Ret.next (U1:=upd U3 41 (.mref W.length)) (W1:=W ++ [[]]) rfl ?_
 generalize hU4:upd U3 41 (.mref W.length)=U4
 have k4:∀ i,i≠41→U4 i=U3 i:=fun i hi=> by rw [←hU4];exact qz hi
 have eb:zda (za 41) U4 (W ++ [[]])=some (.app W.length):=by
  unfold zda
  rw [show za 41 U4 (W ++ [[]])=some (.mref W.length) by rw [←hU4];rfl]
  dsimp only
  rw [if_pos (by simp)]
 refine Ret.next (zj eb) ?_
 generalize hU5:upd U4 42 (.app W.length)=U5
 have k5:∀ i,i≠42→U5 i=U4 i:=fun i hi=> by rw [←hU5];exact qz hi
 have S:EnSt U5 w eol W.length:=by
  refine ⟨?_,by rw [←hU5];rfl, ?_, ?_⟩
  ·rw [k5 11 (by decide),k4 11 (by decide),k3 11 (by decide),k2 11 (by decide),k1 11 (by decide)];exact a11
  ·rw [k5 46 (by decide),k4 46 (by decide),k3 46 (by decide),←hU2];rfl
  ·rw [k5 49 (by decide),k4 49 (by decide),←hU3];rfl
 have b10:U5 10=some (.str (zu [10] (y::r))):=by rw [k5 10 (by decide),k4 10 (by decide),k3 10 (by decide),k2 10 (by decide),←hU1];rfl
 have b12:U5 12=some (.str eol):=by rw [k5 12 (by decide),k4 12 (by decide),k3 12 (by decide),k2 12 (by decide),k1 12 (by decide)];exact a12
 have b41:U5 41=some (.mref W.length):=by rw [k5 41 (by decide),←hU4];rfl
 have hj:(W ++ [[]])[W.length]? =some ([]:List PV):=by simp
 have hlines:zf j1 ((za 10)::[]) U5 (W ++ [[]])=some (.lst ((y::r).map .str)):=by
  rw [qq (f:=za 10) b10,zng (.inl rfl) (fun z hz=> (h z hz).b) hB,hlns]
 obtain ⟨U6,e6,k6⟩:=zze (base:=W.length) (w:=w) (eol:=eol) (j:=W.length) (x9 _) (by lia) (Zk w) (y::r) U5 (W ++ [[]]) [] S hj (by simp;lia) fun ln hln=> ⟨by have:=(h ln hln).l;lia,(h ln hln).n,(h ln hln).e⟩
 have kk:∀ i,i=10∨i=12∨i=41→U6 i=U5 i:=by
  intro i hi;exact k6 i (by lia) (by lia) (by lia) (by lia) (by lia) (by lia)
 refine Ret.next (U1:=U6) (W1:=(W ++ [[]]).set W.length ([] ++ ((y::r).flatMap fun ln=> (Zk w ln).1 ++ [zu eol (Zk w ln).2]).map PV.str)) (?_:Q8 false (tNm 43) (fIt (zf j1 ((za 10)::[]))) z3c W.length U5 (W ++ [[]])=_) ?_
 ·unfold Q8
  rw [Qi hlines (by rw [xc];exact zm (by simp;lia))]
  exact e6
 generalize hW:(W ++ [[]]).set W.length ([] ++ ((y::r).flatMap fun ln=> (Zk w ln).1 ++ [zu eol (Zk w ln).2]).map PV.str)=W6
 refine bc fun J=> ?_
 obtain ⟨c,hc,hcn⟩:=zjp (sep:=[10]) r y fun z hz=> ⟨(h z hz).n,(h z hz).b⟩
 refine J ?_
 have hcc:c≠13∧c≠10:=by constructor <;> rintro rfl <;> exact absurd hcn (by decide)
 refine Ret.next (Jd (show tOf (d2 pIn (d2 zn (za 10) (d1 Q6 (dC (.int 1)))) (dC (.str [13,10]))) U6 W6=some false from ?_)) ?_
 ·refine (qb ((zp (Q3 (f:=za 10) ((kk 10 (.inl rfl)).trans b10) (g:=d1 Q6 (dC (.int 1))) rfl (zjn hc (by lia))) (b:= .str [13,10]) rfl).trans (rfl:pIn W6 (.str [c]) (.str [13,10])=some (.bool ([13,10].contains c))))).trans ((trB _ _).trans ?_)
  congr 1
  have h1:(c==13)=false:=beq_eq_false_iff_ne.mpr hcc.1
  have h2:(c==10)=false:=beq_eq_false_iff_ne.mpr hcc.2
  simp only [List.contains_cons,h1,h2,List.contains_nil,Bool.or_false]
 refine Ret.seq (Ret.ret ?_)
 have hget:W6[W.length]? =some (((y::r).flatMap fun ln=> (Zk w ln).1 ++ [zu eol (Zk w ln).2]).map PV.str):=by
  rw [←hW,List.nil_append];exact zf3 hj
 refine (je (f:=za 12) ((kk 12 (.inr (.inl rfl))).trans b12) (f':=za 41) ((kk 41 (.inr (.inr rfl))).trans b41)).trans ?_
 have hJ:∀ l,W6[W.length]? =some l→Qn W6 [.str eol,.mref W.length]=Qn W6 [.str eol,.lst l]:=by
  intro l hl
  show onL (fun l=> (strs? l).bind fun ys=> if za4 eol ys then some (PV.str (Txt.join (mk eol) (ys.map mk)).cps.toList) else none) (dr W6 (.mref W.length))=_
  rw [zrc hl];rfl
 rw [hJ _ hget,zf4]
 ·unfold Zm
  rw [zs8 eol (Zk w) (y::r) fun ln hln=> (h ln hln).t]
 ·have hsum:∀ l:List (List Nat),(∀ ln∈l,EncOk w ln)→((l.flatMap fun ln=> (Zk w ln).1 ++ [zu eol (Zk w ln).2]).map List.length).sum + (l.flatMap fun ln=> (Zk w ln).1 ++ [zu eol (Zk w ln).2]).length * 2≤2000 * l.length:=by
   intro l
   induction l with
   | nil=> intro _;exact yc _
   | cons a l ih=>
    intro h
    have:=ih fun x hx=> h x (xf _ hx)
    have hs:=(h a xk).s
    have hg:=Zw eol (Zk w a).2
    have hm:(Zk w a).2.length * eol.length≤(Zk w a).2.length * 2:=Nat.mul_le_mul_left _ heol
    rw [List.flatMap_cons,List.map_append,List.map_append,List.sum_append,List.sum_append,xz,xz,List.length_cons]
    simp only [List.map_cons,List.map_nil,List.sum_cons,List.sum_nil,List.length_cons,List.length_nil]
    lia
  have:=hsum _ h
  have hm:((y::r).flatMap fun ln=> (Zk w ln).1 ++ [zu eol (Zk w ln).2]).length * eol.length≤((y::r).flatMap fun ln=> (Zk w ln).1 ++ [zu eol (Zk w ln).2]).length * 2:=Nat.mul_le_mul_left _ heol
  simp only [List.length_cons] at this
  lia
noncomputable def znp (r:List Nat):Bool:=r.all fun c=> c !=10 && c !=13
theorem zjy {t:List Nat}{e:Nat} (ht:2≤e→t.head? ≠some 10):jz false (jr e ++ t)=13::10::jz false t:=by
 match e,ht with
 | 0,_=> rfl
 | 1,_=> rfl
 | e + 2,ht=>
  refine (?_:13::10::jz true t=_)
  rw [zdi,if_neg (by simpa using ht (by exact Nat.le_add_left _ _))]
theorem Z5 (sep y:List Nat) (r:List (List Nat)):zr sep (y::r)=sep ++ (y ++ zr sep r):=by unfold zr;simp
theorem zrl {e:Nat}{y:List Nat}{r:List (List Nat)} (hy:znp y=true) (he:2≤e):(y ++ zr (jr e) r).head? ≠some 10:=by
 have h13:jr e=[13]:=by match e,he with | e + 2,_=> rfl
 cases y with
 | nil=>
  cases r with
  | nil=> simp [zr]
  | cons z r=> simp only [List.nil_append,Z5,h13];simp
 | cons c y=>
  unfold znp at hy
  rw [List.all_cons,xi,xi,bne_iff_ne] at hy
  simpa using hy.1.1
theorem zrb {e:Nat}:∀ (r:List (List Nat)),(∀ y∈r,znp y=true)→Qg true (jz false (zr (jr e) r))=Qg false (jz false (zr (jr e) r))
 | [],_=> rfl
 | y::r,h=> by rw [Z5,zjy fun he=> zrl (h y (by simp)) he];rfl
theorem zhp {e:Nat}:∀ (r:List (List Nat)),(∀ y∈r,znp y=true)→Qg false (jz false (zr (jr e) r))=zr [13,10] (r.map ddR)
 | [],_=> rfl
 | y::r,h=> by
  have h2:=h y (by simp)
  have hr:=fun z hz=> h z (xf _ hz)
  have ih:=zhp (e:=e) r hr
  simp only [Z5,zjy fun he=> zrl h2 he,zca y h2,List.map_cons,Z5]
  show 13::10::Qg true (y ++ jz false (zr (jr e) r))=13::10::(ddR y ++ zr [13,10] (r.map ddR))
  by_cases hy:y=[]
  ·subst hy
   simp only [List.nil_append,zrb r hr,ih];rfl
  ·simp only [zb5 y true h2 hy,ih,Bool.true_and];rfl
theorem zn0 {e:Nat}{y:List Nat}{r:List (List Nat)} (h:∀ z∈y::r,znp z=true):qd (zu (jr e) (y::r))=zu [13,10] ((y::r).map ddR):=by
 have h2:=h y (by simp)
 have hr:=fun z hz=> h z (xf _ hz)
 skip
 refine (?_:Qg true (jz false (y ++ zr (jr e) r))=ddR y ++ zr [13,10] (r.map ddR))
 rw [zca y h2]
 by_cases hy:y=[]
 ·subst hy
  simp only [List.nil_append,zrb r hr,zhp r hr];rfl
 ·rw [zb5 y true h2 hy,zhp r hr,Bool.true_and];rfl
noncomputable def HEX:List Nat:=[48,49,50,51,52,53,54,55,56,57,97,98,99,100,101,102,65,66,67,68,69,70]
noncomputable def rsS (r:List Nat):List Nat:=r.take (r.length - (r.reverse.takeWhile Unicode.isSpace).length)
theorem zt4 (r:List Nat):(Txt.rstrip (mk r)).cps.toList=rsS r:=by
 unfold Txt.rstrip
 rw [PyProof.Rows.stripBy_eq]
 show (Builtin.Str.strSub (mk r) 0 ((mk r).length - (((mk r).cps.toList.drop 0).reverse.takeWhile Unicode.isSpace).length)).cps.toList=_
 simp only [zk5,List.drop_zero,z8];rfl
def zij (isHex:Nat→Bool) (unq:List Nat→Option Nat) (ln:List Nat) (i:Int):Option (Int×List Nat×Bool):=
 match jy ln i with
 | none=> none
 | some c=> if (!([c]==[61]))=true then some (i + 1,[c],false)
  else if (i + 1==(ln.length:Int))=true then some (i + 1,[],true)
  else if decide (i + 2 < (ln.length:Int)) then
   match jy ln (i + 1),jy ln (i + 2) with
   | some a,some b=> if (isHex a && isHex b)=true then (unq (cut (some i) (some (i + 3)) ln)).map fun n=> (i + 3,[n],false) else some (i + 1,[c],false)
   | _,_=> none
  else some (i + 1,[c],false)
noncomputable def zpe (isHex:Nat→Bool) (unq:List Nat→Option Nat) (ln:List Nat):Nat→Int→List Nat→Bool→Option (List Nat×Bool)
 | 0,_,_,_=> none
 | n + 1,i,loc,fl=> if decide (i < (ln.length:Int)) then
   match zij isHex unq ln i with
   | none=> none
   | some t=> if (fl || decide (200 < loc.length))=true then none else zpe isHex unq ln n t.1 (loc ++ t.2.1) (!t.2.2 && t.1==(ln.length:Int))
  else some (loc,fl)
theorem zja (isHex:Nat→Bool) (unq:List Nat→Option Nat) (ln:List Nat) (n:Nat) (i:Int) (loc:List Nat) (fl:Bool):zpe isHex unq ln (n + 1) i loc fl=(if decide (i < (ln.length:Int)) then
   match zij isHex unq ln i with
   | none=> none
   | some t=> if (fl || decide (200 < loc.length))=true then none else zpe isHex unq ln n t.1 (loc ++ t.2.1) (!t.2.2 && t.1==(ln.length:Int))
  else some (loc,fl)):=rfl
def zbs (x:List Nat):Option Nat:=match x with
 | [c,a,b]=> let n:=(if a≤57 then a - 48 else a - 55) * 16 + (if b≤57 then b - 48 else b - 55)
  if (c==61 && (decide (n < 256) && ([qk (n / 16),qk (n % 16)]==[a,b])))=true then some n else none
 | _=> none
theorem ztu:∀ n,n < 256→znq [qk (n / 16),qk (n % 16)]=some (n:Int):=by decide +kernel
theorem z4o {x:List Nat}{n:Nat} (h:zbs x=some n):fnV (bfN 1 []) [5] Zt W [.str x]=some (.str [n]):=by
 obtain ⟨a,b,rfl,h1,h2⟩:∃ a b,x=[61,a,b]∧n < 256∧[qk (n / 16),qk (n % 16)]=[a,b]:=by
  cases x with
  | nil=> exact nn h
  | cons c x=> cases x with
   | nil=> exact nn h
   | cons a x=> cases x with
    | nil=> exact nn h
    | cons b x=> cases x with
     | cons _ _=> exact nn h
     | nil=>
      have h:(if (c==61 && (decide ((if a≤57 then a - 48 else a - 55) * 16 + (if b≤57 then b - 48 else b - 55) < 256) && ([qk (((if a≤57 then a - 48 else a - 55) * 16 + (if b≤57 then b - 48 else b - 55)) / 16),qk (((if a≤57 then a - 48 else a - 55) * 16 + (if b≤57 then b - 48 else b - 55)) % 16)]==[a,b])))=true then some ((if a≤57 then a - 48 else a - 55) * 16 + (if b≤57 then b - 48 else b - 55)) else none)=some n:=h
      generalize (if a≤57 then a - 48 else a - 55) * 16 + (if b≤57 then b - 48 else b - 55)=m at h
      obtain ⟨hc,rfl⟩:=z0 h
      rw [xi,xi,decide_eq_true_eq,beq_iff_eq,beq_iff_eq] at hc
      exact ⟨a,b,by rw [hc.1],hc.2⟩
 have h3:=ztu n h1
 rw [h2] at h3
 refine zao (bps:=[.str [61,a,b]]) rfl (Ret.seq (Ret.ret ?_)) rfl
 have e1:qg (za 5) (qv (dC (.int 1))) (qv (dC (.int 3))) qn (qw [5] [.str [61,a,b]] Zy) W=some (.str [a,b]):=rfl
 have e2:zf ziv [(qg (za 5) (qv (dC (.int 1))) (qv (dC (.int 3))) qn),(dC (.int 16))] (qw [5] [.str [61,a,b]] Zy) W=some (.int n):=by
  rw [je e1 (b:= .int 16) rfl]
  show (znq [a,b]).map PV.int=_
  rw [h3];rfl
 rw [qq e2]
 show (if (0:Int)≤(n:Int)∧(n:Int)≤1114111 then some (PV.str [(n:Int).toNat]) else none)=_
 refine (if_pos (by lia)).trans ?_;rfl
def zza:q7:=tOf (d2 pLt (za 31) (za 51))
def zy8:Stm:=(zb (zc (tNm 9) (d2 zn (za 43) (za 31)))
 (zb (sIf (tOf (d2 qr (za 9) (dC (.str [61])))) (zb (j9 q6 50 (za 9))
 (zb (j9 q6 31 (dC (.int 1)))
 zl)) (zb (sIf (tOf (d2 zv (d2 zx (za 31) (dC (.int 1))) (za 51))) (zb (j9 q6 31 (dC (.int 1)))
 (zb zef
 zl)) (zb (sIf (Zz (tOf (d2 pLt (d2 zx (za 31) (dC (.int 2))) (za 51))) (Zz (tOf (d2 pIn (d2 zn (za 43) (d2 zx (za 31) (dC (.int 1)))) (dC (.str [48,49,50,51,52,53,54,55,56,57,97,98,99,100,101,102,65,66,67,68,69,70])))) (Zz (tOf (d2 pIn (d2 zn (za 43) (d2 zx (za 31) (dC (.int 2)))) (dC (.str [48,49,50,51,52,53,54,55,56,57,97,98,99,100,101,102,65,66,67,68,69,70])))) (fun V V=> some true)))) (zb (j9 q6 50 (dFn (bfN 1 []) [5] Zt [(qg (za 43) (qv (za 31)) (qv (d2 zx (za 31) (dC (.int 3)))) qn)]))
 (zb (j9 q6 31 (dC (.int 3)))
 zl)) (zb (j9 q6 50 (za 9))
 (zb (j9 q6 31 (dC (.int 1)))
 zl)))
 zl))
 zl))
 (zb (sIf (tOf (d2 zv (za 31) (za 51))) (zb (j9 q6 50 (za 12))
 zl) zl)
 zl)))
theorem zvk {i:Nat}{f:Den}{a b:List Nat} (h1:U i=some (.str a)) (h2:f U W=some (.str b)) (h:a.length + b.length≤100000):j9 q6 i f base U W=some (.next,upd U i (.str (a ++ b)),W):=by
 unfold j9
 rw [h1,h2]
 show (if ze (a.length + b.length)=true then some (PV.str (a ++ b)) else none).map (fun p=> (Fl.next,upd U i p,W))=_
 rw [if_pos (zm (by assumption))];rfl
theorem zyw {i:Nat}{f:Den}{a b:Int} (h1:U i=some (.int a)) (h2:f U W=some (.int b)):j9 q6 i f base U W=some (.next,upd U i (.int (a + b)),W):=by
 unfold j9;rw [h1,h2];rfl
theorem z1j {f:Den}{c:Nat} (h:f U W=some (.str [c])):tOf (d2 pIn f (dC (.str [48,49,50,51,52,53,54,55,56,57,97,98,99,100,101,102,65,66,67,68,69,70]))) U W=some (HEX.contains c):=
 (qb ((zp h (b:= .str HEX) rfl).trans (rfl:pIn W (.str [c]) (.str HEX)=some (.bool (HEX.contains c))))).trans (trB _ _)
set_option tactic.hygienic true in
theorem zy9 {ln B mk':List Nat}{i i':Int}{ap:List Nat}{ct:Bool} (r31:U 31=some (.int i)) (r51:U 51=some (.int ln.length)) (r43:U 43=some (.str ln)) (r12:U 12=some (.str mk')) (r50:U 50=some (.str B)) (hB:B.length≤20000) (hm:mk'.length≤2) (hln:ln.length≤1000) (h:zij HEX.contains zbs ln i=some (i',ap,ct)):
  ∃ U',zy8 base U W=some (if ct then .cont else .next,U',W)∧U' 31=some (.int i')∧U' 50=some (.str (B ++ ap ++ (if (!ct && i'==(ln.length:Int))=true then mk' else [])))∧∀ j,j≠9→j≠31→j≠50→U' j=U j:=by
 refine bc fun J=> ?_
 unfold zij at h
 split at h
 ·exact nn h
 rename_i c hc
 have e9:=Q3 (W:=W) (f:=za 43) r43 (g:=za 31) r31 hc
 generalize hU1:upd U 9 (.str [c])=U1
 have k1:∀ j,j≠9→U1 j=U j:=fun j hj=> by rw [←hU1];exact qz hj
 have s9:za 9 U1 W=some (.str [c]):=by rw [←hU1];rfl
 have s31:U1 31=some (.int i):=(k1 31 (by decide)).trans r31
 have s51:U1 51=some (.int ln.length):=(k1 51 (by decide)).trans r51
 have s43:U1 43=some (.str ln):=(k1 43 (by decide)).trans r43
 have s50:U1 50=some (.str B):=(k1 50 (by decide)).trans r50
 have t1:tOf (d2 qr (za 9) (dC (.str [61]))) U1 W=some (!([c]==[61])):=(qb ((zp s9 (b:= .str [61]) rfl).trans (zhg _ _ _))).trans (trB _ _)
 have fin:∀ (F:Stm) (ap:List Nat) (d:Int),F base U1 W=some (.next,upd (upd U1 50 (.str (B ++ ap))) 31 (.int (i + d)),W)→ap.length≤10→
   ∃ U',(zb (zc (tNm 9) (d2 zn (za 43) (za 31))) (zb F (zb (sIf (tOf (d2 zv (za 31) (za 51))) (zb (j9 q6 50 (za 12)) zl) zl) zl))) base U W=some (.next,U',W)∧U' 31=some (.int (i + d))∧U' 50=some (.str (B ++ ap ++ (if (!false && i + d==(ln.length:Int))=true then mk' else [])))∧∀ j,j≠9→j≠31→j≠50→U' j=U j:=by
  intro F ap d hF hap
  generalize hU2:upd (upd U1 50 (.str (B ++ ap))) 31 (.int (i + d))=U2 at hF
  have k2:∀ j,j≠9→j≠31→j≠50→U2 j=U j:=fun j h1 h2 h3=> by rw [←hU2,qz h2,qz h3,k1 j h1]
  have t2:tOf (d2 zv (za 31) (za 51)) U2 W=some (i + d==(ln.length:Int)):=(qb ((zp (f:=za 31) (a:= .int (i + d)) (by rw [←hU2];rfl) (f':=za 51) ((k2 51 (by decide) (by decide) (by decide)).trans r51)).trans (zek _ _ _))).trans (trB _ _)
  have go:∀ {r:Fl×Ren×Sto},(zb (sIf (tOf (d2 zv (za 31) (za 51))) (zb (j9 q6 50 (za 12)) zl) zl) zl) base U2 W=some r→(zb (zc (tNm 9) (d2 zn (za 43) (za 31))) (zb F (zb (sIf (tOf (d2 zv (za 31) (za 51))) (zb (j9 q6 50 (za 12)) zl) zl) zl))) base U W=some r:=by
   intro r hr
   refine (zd (zj e9)).trans ?_
   rw [hU1]
   exact (zd hF).trans hr
  have z50:U2 50=some (.str (B ++ ap)):=by rw [←hU2];rfl
  have z31:U2 31=some (.int (i + d)):=by rw [←hU2];rfl
  cases hb:i + d==(ln.length:Int) with
  | true=>
   rw [hb] at t2
   refine ⟨upd U2 50 (.str ((B ++ ap) ++ mk')),go ((zd ((Z6 t2).trans ((zd (zvk z50 (f:=za 12) ((k2 12 (by decide) (by decide) (by decide)).trans r12) (by simp;lia))).trans rfl))).trans rfl), ?_, ?_, ?_⟩
   ·exact z31
   ·show some (PV.str _)=_;simp
   ·intro j h1 h2 h3;rw [qz h3];exact k2 j h1 h2 h3
  | false=>
   rw [hb] at t2
   refine ⟨U2,go ((zd (Jd t2)).trans rfl),z31, ?_,k2⟩
   rw [z50];simp
 have add1:∀ (U':Ren) {d:Int},U' 31=some (.int i)→d2 zx (za 31) (dC (.int d)) U' W=some (.int (i + d)):=fun U' d h=> (zp (f:=za 31) h (b:= .int d) rfl).trans rfl
 split at h
 ·rename_i hne
  cases h
  refine J ?_
  refine fin _ [c] 1 ?_ (by simp)
  rw [hne] at t1
  refine (Z6 t1).trans ((zd (zvk s50 s9 (by simp;lia))).trans ((zd (zyw (i:=31) (b:=1) ((qz (by decide)).trans s31) rfl)).trans rfl))
 ·rename_i hne
  have hne':(!([c]==[61]))=false:=by cases hh:(!([c]==[61])) with | true=> exact absurd hh hne | false=> rfl
  rw [hne'] at t1
  have no1:∀ {f f':Stm}{r:Fl×Ren×Sto},f' base U1 W=some r→sIf (tOf (d2 qr (za 9) (dC (.str [61])))) f f' base U1 W=some r:=by
   intro f f' r hr;unfold sIf;exact t1▸hr
  have t2:tOf (d2 zv (d2 zx (za 31) (dC (.int 1))) (za 51)) U1 W=some (i + 1==(ln.length:Int)):=(qb ((zp (add1 U1 s31) (f':=za 51) s51).trans (zek _ _ _))).trans (trB _ _)
  split at h
  ·rename_i heq
   cases si h
   rw [heq] at t2
   refine J ?_
   refine ⟨upd U1 31 (.int (i + 1)), ?_,rfl, ?_,fun j h1 h2 h3=> (qz h2).trans (k1 j h1)⟩
   ·refine (zd (zj e9)).trans ?_
    rw [hU1]
    have:(zb (sIf (tOf (d2 zv (d2 zx (za 31) (dC (.int 1))) (za 51))) (zb (j9 q6 31 (dC (.int 1))) (zb zef zl)) (zb (sIf (Zz (tOf (d2 pLt (d2 zx (za 31) (dC (.int 2))) (za 51))) (Zz (tOf (d2 pIn (d2 zn (za 43) (d2 zx (za 31) (dC (.int 1)))) (dC (.str [48,49,50,51,52,53,54,55,56,57,97,98,99,100,101,102,65,66,67,68,69,70])))) (Zz (tOf (d2 pIn (d2 zn (za 43) (d2 zx (za 31) (dC (.int 2)))) (dC (.str [48,49,50,51,52,53,54,55,56,57,97,98,99,100,101,102,65,66,67,68,69,70])))) (fun V V=> some true)))) (zb (j9 q6 50 (dFn (bfN 1 []) [5] Zt [(qg (za 43) (qv (za 31)) (qv (d2 zx (za 31) (dC (.int 3)))) qn)])) (zb (j9 q6 31 (dC (.int 3))) zl)) (zb (j9 q6 50 (za 9)) (zb (j9 q6 31 (dC (.int 1))) zl))) zl)) zl) base U1 W=some (.cont,upd U1 31 (.int (i + 1)),W):=by
     have e:=(Z6 (f':=(zb (sIf (Zz (tOf (d2 pLt (d2 zx (za 31) (dC (.int 2))) (za 51))) (Zz (tOf (d2 pIn (d2 zn (za 43) (d2 zx (za 31) (dC (.int 1)))) (dC (.str [48,49,50,51,52,53,54,55,56,57,97,98,99,100,101,102,65,66,67,68,69,70])))) (Zz (tOf (d2 pIn (d2 zn (za 43) (d2 zx (za 31) (dC (.int 2)))) (dC (.str [48,49,50,51,52,53,54,55,56,57,97,98,99,100,101,102,65,66,67,68,69,70])))) (fun V V=> some true)))) (zb (j9 q6 50 (dFn (bfN 1 []) [5] Zt [(qg (za 43) (qv (za 31)) (qv (d2 zx (za 31) (dC (.int 3)))) qn)])) (zb (j9 q6 31 (dC (.int 3))) zl)) (zb (j9 q6 50 (za 9)) (zb (j9 q6 31 (dC (.int 1))) zl))) zl)) t2).trans ((zd (f:=j9 q6 31 (dC (.int 1))) (f':=zb zef zl) (zyw (base:=base) (i:=31) (b:=1) s31 rfl)).trans (rfl:_=some (Fl.cont,upd U1 31 (.int (i + 1)),W)))
     unfold zb at e⊢
     rw [e]
    refine (?_:(match sIf _ _ _ base U1 W with | some (.next,U1,W1)=> _ | r=> r)=_)
    rw [no1 this];rfl
   ·show U1 50=_;rw [s50];simp
  ·rename_i heq
   have heq':(i + 1==(ln.length:Int))=false:=by cases hh:(i + 1==(ln.length:Int)) with | true=> exact absurd hh heq | false=> rfl
   rw [heq'] at t2
   have no2:∀ {f f':Stm}{r:Fl×Ren×Sto},f' base U1 W=some r→sIf (tOf (d2 zv (d2 zx (za 31) (dC (.int 1))) (za 51))) f f' base U1 W=some r:=by
    intro f f' r hr;unfold sIf;exact t2▸hr
   have plain:∀ {t:q7}{f:Stm},t U1 W=some false→sIf t f (zb (j9 q6 50 (za 9)) (zb (j9 q6 31 (dC (.int 1))) zl)) base U1 W=some (.next,upd (upd U1 50 (.str (B ++ [c]))) 31 (.int (i + 1)),W):=by
    intro t f ht
    unfold sIf;rw [ht]
    exact (zd (zvk s50 s9 (by simp;lia))).trans ((zd (zyw (i:=31) (b:=1) ((qz (by decide)).trans s31) rfl)).trans rfl)
   have t3:tOf (d2 pLt (d2 zx (za 31) (dC (.int 2))) (za 51)) U1 W=some (decide (i + 2 < (ln.length:Int))):=(qb ((zp (add1 U1 s31) (f':=za 51) s51).trans (rfl:pLt W (.int (i + 2)) (.int ln.length)=some (.bool (decide (i + 2 < (ln.length:Int))))))).trans (trB _ _)
   split at h
   ·rename_i hlt
    rw [hlt] at t3
    split at h
    ·rename_i a b ha hb
     have ea:=z1j (W:=W) (Q3 (f:=za 43) s43 (add1 U1 s31) ha)
     have eb:=z1j (W:=W) (Q3 (f:=za 43) s43 (add1 U1 s31) hb)
     have t4:Zz (tOf (d2 pLt (d2 zx (za 31) (dC (.int 2))) (za 51))) (Zz (tOf (d2 pIn (d2 zn (za 43) (d2 zx (za 31) (dC (.int 1)))) (dC (.str [48,49,50,51,52,53,54,55,56,57,97,98,99,100,101,102,65,66,67,68,69,70])))) (Zz (tOf (d2 pIn (d2 zn (za 43) (d2 zx (za 31) (dC (.int 2)))) (dC (.str [48,49,50,51,52,53,54,55,56,57,97,98,99,100,101,102,65,66,67,68,69,70])))) (fun V V=> some true))) U1 W=some (HEX.contains a && HEX.contains b):=by
      unfold Zz
      rw [t3];dsimp only
      rw [ea]
      cases HEX.contains a
      ·rfl
      ·dsimp only
       rw [eb]
       cases HEX.contains b <;> rfl
     split at h
     ·rename_i hh
      rw [hh] at t4
      obtain ⟨n,hn,e⟩:=xh.mp h
      cases e
      refine J ?_
      refine fin _ [n] 3 ?_ (by simp)
      have eu:dFn (bfN 1 []) [5] Zt [(qg (za 43) (qv (za 31)) (qv (d2 zx (za 31) (dC (.int 3)))) qn)] U1 W=some (.str [n]):=
       (Jr (J0 (f:=za 43) s43 hln (Z3 (f:=za 31) s31) (Z3 (add1 U1 s31)))).trans (z4o hn)
      refine no1 ((zd (no2 ((zd ((Z6 t4).trans ((zd (zvk s50 eu (by simp;lia))).trans ((zd (zyw (i:=31) (b:=3) ((qz (by decide)).trans s31) rfl)).trans rfl)))).trans rfl))).trans rfl)
     ·rename_i hh
      cases h
      have hh':(HEX.contains a && HEX.contains b)=false:=by cases hx:(HEX.contains a && HEX.contains b) with | true=> exact absurd hx hh | false=> rfl
      rw [hh'] at t4
      refine J ?_
      refine fin _ [c] 1 ?_ (by simp)
      exact no1 ((zd (no2 ((zd (plain t4)).trans rfl))).trans rfl)
    ·exact nn h
   ·rename_i hlt
    cases si h
    have hlt':decide (i + 2 < (ln.length:Int))=false:=by cases hx:decide (i + 2 < (ln.length:Int)) with | true=> exact absurd hx hlt | false=> rfl
    rw [hlt'] at t3
    refine J ?_
    refine fin _ [c] 1 ?_ (by simp)
    refine no1 ((zd (no2 ((zd (plain ?_)).trans rfl))).trans rfl)
    unfold Zz;rw [t3]
theorem zvw {isHex:Nat→Bool}{unq:List Nat→Option Nat}{ln:List Nat}{i:Int}{t:Int×List Nat×Bool} (h:zij isHex unq ln i=some t):t.2.1.length≤1:=by
 unfold zij at h
 split at h
 ·exact nn h
 ·split at h
  ·cases h;exact x9 _
  ·split at h
   ·cases si h;exact yc _
   ·split at h
    ·split at h
     ·split at h
      ·obtain ⟨n,_,e⟩:=xh.mp h
       subst e;exact x9 _
      ·cases si h;exact x9 _
     ·exact nn h
    ·cases si h;exact x9 _
set_option tactic.hygienic true in
theorem zzd {ln A mk':List Nat} (hA:A.length≤19000) (hm:mk'.length≤2) (hln:ln.length≤1000):∀ (n:Nat) (U:Ren) (i:Int) (loc:List Nat) (fl:Bool) (p:List Nat×Bool),zpe HEX.contains zbs ln n i loc fl=some p→U 31=some (.int i)→U 51=some (.int ln.length)→U 43=some (.str ln)→U 12=some (.str mk')→U 50=some (.str (A ++ loc ++ (if fl=true then mk' else [])))→
  ∃ U',J2 zza zy8 base n U W=some (.next,U',W)∧U' 50=some (.str (A ++ p.1 ++ (if p.2=true then mk' else [])))∧∀ j,j≠9→j≠31→j≠50→U' j=U j:=by
 intro n
 induction n with
 | zero=> intro U i loc fl p h;exact nn h
 | succ n ih=>
  intro U i loc fl p h r31 r51 r43 r12 r50
  have t:zza U W=some (decide (i < (ln.length:Int))):=(qb ((zp (f:=za 31) r31 (f':=za 51) r51).trans (rfl:pLt W (.int i) (.int ln.length)=some (.bool (decide (i < (ln.length:Int))))))).trans (trB _ _)
  rw [zja] at h
  split at h
  ·rename_i hlt
   rw [hlt] at t
   split at h
   ·exact nn h
   rename_i t9 ht
   refine bc fun J=> ?_
   obtain ⟨i',ap,ct⟩:=t9
   refine J ?_
   have hap:=zvw ht
   split at h
   ·exact nn h
   rename_i hg
   have hfl:fl=false:=by cases fl with | false=> rfl | true=> exact absurd rfl hg
   subst hfl
   have hloc:loc.length≤200:=by
    simp only [Bool.false_or,decide_eq_true_eq] at hg;exact Nat.not_lt.mp ‹_›
   have r50':U 50=some (.str (A ++ loc)):=by rw [r50];simp
   refine bc fun J=> ?_
   obtain ⟨U1,e1,f31,f50,k1⟩:=zy9 (base:=base) (W:=W) r31 r51 r43 r12 r50' (by simp;lia) hm hln ht
   dsimp only at h
   obtain ⟨U2,e2,g50,k2⟩:=ih U1 i' (loc ++ ap) (!ct && i'==(ln.length:Int)) p h f31 ((k1 51 (by decide) (by decide) (by decide)).trans r51) ((k1 43 (by decide) (by decide) (by decide)).trans r43) ((k1 12 (by decide) (by decide) (by decide)).trans r12) (by simp only [f50];simp)
   refine J ?_
   refine ⟨U2, ?_,g50,fun j h1 h2 h3=> (k2 j h1 h2 h3).trans (k1 j h1 h2 h3)⟩
   cases ct
   ·exact (zfi t e1).trans e2
   ·exact (zon t e1).trans e2
  ·rename_i hlt
   cases si h
   rw [show decide (i < (ln.length:Int))=false by simpa using hlt] at t
   exact ⟨U,zfj t,r50,fun V V V V=> rfl⟩
def z3b:Stm:=(zb (zc (tNm 43) (zf zeb ((za 43)::[])))
 (zb (sIf (ze2 (tOf (za 43))) (zb (j9 q6 50 (za 12))
 (zb zef
 zl)) zl)
 (zb (zc (tNm 31) (dC (.int 0)))
 (zb (zc (tNm 51) (zf Qt [(za 43)]))
 (zb (zbo 60 zza zy8)
 zl)))))
def J7 (isHex:Nat→Bool) (unq:List Nat→Option Nat) (r:List Nat):Option (List Nat×Bool):=if (rsS r).isEmpty then some ([],true) else zpe isHex unq (rsS r) 60 0 [] false
theorem z0x (r:List Nat):(rsS r).length≤r.length:=by unfold rsS;rw [List.length_take];exact Nat.min_le_right _ _
set_option tactic.hygienic true in
theorem zzc {r A mk':List Nat}{p:List Nat×Bool} (hr:r.length≤1000) (hA:A.length≤19000) (hm:mk'.length≤2) (h:J7 HEX.contains zbs r=some p) (r12:U 12=some (.str mk')) (r50:U 50=some (.str A)):
  ∃ fl U',(fl= .next∨fl= .cont)∧z3b base (upd U 43 (.str r)) W=some (fl,U',W)∧U' 50=some (.str (A ++ p.1 ++ (if p.2=true then mk' else [])))∧∀ j,j≠9→j≠31→j≠50→j≠43→j≠51→U' j=U j:=by
 have hl:=z0x r
 have e43:zf zeb ((za 43)::[]) (upd U 43 (.str r)) W=some (.str (rsS r)):=by
  rw [qq (f:=za 43) (a:= .str r) rfl]
  show (if ze r.length=true then some (PV.str (Txt.rstrip (mk r)).cps.toList) else none)=_
  rw [if_pos (zm (by lia)),zt4]
 generalize hU1:upd (upd U 43 (.str r)) 43 (.str (rsS r))=U1
 have k1:∀ j,j≠43→U1 j=U j:=fun j hj=> by simp only [←hU1,qz hj,qz hj]
 have s43:U1 43=some (.str (rsS r)):=by rw [←hU1];rfl
 have t:ze2 (tOf (za 43)) U1 W=some (rsS r).isEmpty:=by
  unfold ze2
  rw [qb (f:=za 43) s43]
  show (if ze (rsS r).length then some ((rsS r).length !=0) else none).map (!·)=_
  rw [if_pos (zm (by lia))]
  cases rsS r <;> rfl
 unfold J7 at h
 split at h
 ·rename_i he
  cases si h
  rw [he] at t
  refine ⟨.cont,upd U1 50 (.str (A ++ mk')),.inr rfl, ?_, ?_,fun j h1 h2 h3 h4 h5=> (qz h3).trans (k1 j h4)⟩
  ·refine (zd (zj e43)).trans ?_
   rw [hU1]
   have e:=(Z6 (f':=zl) t).trans ((zd (f:=j9 q6 50 (za 12)) (f':=zb zef zl) (zvk (base:=base) (i:=50) ((k1 50 (by decide)).trans r50) (f:=za 12) ((k1 12 (by decide)).trans r12) (by lia))).trans (rfl:_=some (Fl.cont,upd U1 50 (.str (A ++ mk')),W)))
   refine (?_:(match sIf _ _ _ base U1 W with | some (.next,U1,W1)=> _ | r=> r)=_)
   simp only [e]
  ·show some (PV.str _)=_;simp
 ·rename_i he
  have he':(rsS r).isEmpty=false:=by cases hx:(rsS r).isEmpty with | true=> exact absurd hx he | false=> rfl
  rw [he'] at t
  have eL:zf Qt [(za 43)] (upd U1 31 (.int 0)) W=some (.int (rsS r).length):=by
   rw [qq (U:=upd U1 31 (.int 0)) (f:=za 43) (a:= .str (rsS r)) s43]
   show (if ze (rsS r).length then some (PV.int (rsS r).length) else none)=_
   rw [if_pos (zm (by lia))]
  refine bc fun J=> ?_
  obtain ⟨U',e1,e2,e3⟩:=zzd (base:=base) (W:=W) (ln:=rsS r) (A:=A) (mk':=mk') hA hm (by exact x8 ‹_› ‹_›) 60 (upd (upd U1 31 (.int 0)) 51 (.int (rsS r).length)) 0 [] false p h rfl rfl s43 ((k1 12 (by decide)).trans r12) (by
   refine (?_:U1 50=_)
   simp only [k1 50 (by decide),r50];simp)
  refine J ?_
  refine ⟨.next,U',.inl rfl, ?_,e2,fun j h1 h2 h3 h4 h5=> (e3 j h1 h2 h3).trans ((qz h5).trans ((qz h2).trans (k1 j h4)))⟩
  refine (zd (zj e43)).trans ?_
  rw [hU1]
  refine (zd (Jd t)).trans ((zd (zj (i:=31) (f:=dC (.int 0)) rfl)).trans ((zd (zj eL)).trans ?_))
  exact (zd (f:=zbo 60 zza zy8) e1).trans rfl
noncomputable def j7 (dec:List Nat→List Nat×Bool) (mk':List Nat) (rs:List (List Nat)):List Nat:=rs.flatMap fun r=> (dec r).1 ++ (if (dec r).2=true then mk' else [])
theorem zzb {mk':List Nat} (hm:mk'.length≤2) (dec:List Nat→List Nat×Bool):∀ (rs:List (List Nat)) (U:Ren) (A:List Nat),U 12=some (.str mk')→U 50=some (.str A)→A.length + 300 * rs.length≤19000→(∀ r∈rs,r.length≤1000∧J7 HEX.contains zbs r=some (dec r)∧(dec r).1.length≤250)→
  ∃ U',zbz (tNm 43) z3b base (rs.map .str) U W=some (.next,U',W)∧U' 50=some (.str (A ++ j7 dec mk' rs))∧∀ j,j≠9→j≠31→j≠50→j≠43→j≠51→U' j=U j:=by
 intro rs
 induction rs with
 | nil=> intro U A _ r50 _ _;exact ⟨U,rfl,by rw [r50];simp [j7],fun V V V V V V=> rfl⟩
 | cons r rs ih=>
  intro U A r12 r50 hA h
  refine bc fun J=> ?_
  obtain ⟨h1,h2,h3⟩:=h r xk
  simp only [List.length_cons] at hA
  obtain ⟨fl,U1,hfl,e1,f50,k1⟩:=zzc (base:=base) (W:=W) h1 (by exact x8 (Nat.le_add_right _ _) ‹_›) hm h2 r12 r50
  have hif:(if (dec r).2=true then mk' else []).length≤2:=by
   split
   ·exact hm
   ·exact yc _
  obtain ⟨U2,e2,g50,k2⟩:=ih U1 _ ((k1 12 (by decide) (by decide) (by decide) (by decide) (by decide)).trans r12) f50 (by simp only [xz,xz];lia) fun x hx=> h x (xf _ hx)
  refine J ?_
  refine ⟨U2, ?_, ?_,fun j a b c d e=> (k2 j a b c d e).trans (k1 j a b c d e)⟩
  ·rw [List.map_cons]
   rcases hfl with rfl | rfl
   ·exact (Zi rfl e1).trans e2
   ·exact (zs5 rfl e1).trans e2
  ·rw [g50];unfold j7;simp only [List.flatMap_cons];simp
theorem zzh (W:Sto) (G m:List Nat):za5 W [.str (G ++ m),.str m]=some (.bool true):=by
 show some (PV.bool (Txt.endswith (mk (G ++ m)) (mk m)))=_
 congr 2
 unfold Txt.endswith Builtin.Str.subAt
 simp only [z8,z8,xi]
 refine ⟨by simp, ?_⟩
 rw [beq_iff_eq]
 apply Array.ext'
 simp [mk,List.extract_eq_take_drop]
theorem zvt (G m:List Nat) (hm:0 < m.length):cut none (some (-(m.length:Int))) (G ++ m)=G:=by
 unfold cut
 have h1:zam (some (-(m.length:Int))) (G ++ m).length=G.length:=by
  unfold zam
  dsimp only
  rw [if_pos (by lia),xz];lia
 rw [h1]
 show ((G ++ m).drop 0).take (G.length - 0)=G
 simp
theorem zd3 {sep:List Nat}{rs:List (List Nat)}{z:List Nat} (h:rs≠[]):zu sep (rs ++ [z])=zu sep rs ++ (sep ++ z):=by
 cases rs with
 | nil=> exact absurd rfl h
 | cons y r=>
  refine (?_:y ++ zr sep (r ++ [z])=(y ++ zr sep r) ++ (sep ++ z))
  rw [za3]
  have:zr sep [z]=sep ++ z:=by unfold zr;simp
  simp only [this,List.append_assoc]
theorem zd5:∀ (rs:List (List Nat)) (z:List Nat),Qb (rs ++ [z])=rs ++ (if z.isEmpty then [] else [z])
 | [],z=> rfl
 | [y],z=> by rfl
 | y::w::r,z=> by
  refine (?_:Qb (y::w::(r ++ [z]))=_)
  rw [zhb]
  have:=zd5 (w::r) z
  rw [show w::(r ++ [z])=(w::r) ++ [z] from rfl,this];rfl
theorem zjb {mk' G:List Nat}{rs:List (List Nat)}{z:List Nat} (hm1:0 < mk'.length) (hm:mk'.length≤2) (dec:List Nat→List Nat×Bool) (hrs:rs.length≤50) (hz:rs≠[]∨z≠[]) (hnb:∀ r∈rs ++ [z],r.all nbr=true∧r.length≤100) (hd:∀ r∈rs ++ [z],J7 HEX.contains zbs r=some (dec r)∧(dec r).1.length≤250)
  (hG:j7 dec mk' (rs ++ [z])=G ++ mk') (hGl:G.length≤900):fnV (bfN 2 []) [13,12] Jk W [.str (zu [13,10] (rs ++ [z])),.str mk']=some (.str G):=by
 refine zao (bps:=[.str (zu [13,10] (rs ++ [z])),.str mk']) rfl ?_ rfl
 obtain ⟨y,r,hyr⟩:∃ y r,rs ++ [z]=y::r:=by cases rs with | nil=> exact ⟨z,[],rfl⟩ | cons a b=> exact ⟨a,b ++ [z],rfl⟩
 have hlen:(zu [13,10] (rs ++ [z])).length≤10000:=by
  have h1:=Zw [13,10] (rs ++ [z])
  have hsum:∀ l:List (List Nat),(∀ r∈l,r.length≤100)→(l.map List.length).sum≤100 * l.length:=by
   intro l
   induction l with
   | nil=> intro _;exact yc _
   | cons a l ih=> intro h;have:=ih fun x hx=> h x (xf _ hx);have:=h a xk;simp only [List.map_cons,List.sum_cons,List.length_cons];lia
  have:=hsum _ fun r hr=> (hnb r hr).2
  simp only [xz,List.length_cons,List.length_nil] at *;lia
 have hxne:zu [13,10] (rs ++ [z])≠[]:=by
  rcases hz with h | h
  ·rw [zd3 h];simp
  ·by_cases h':rs=[]
   ·subst h';refine (?_:z ++ zr [13,10] []≠[]);simp [h]
   ·rw [zd3 h'];simp
 have hxp:0 < (zu [13,10] (rs ++ [z])).length:=List.length_pos_iff.mpr hxne
 generalize hU0:qw [13,12] [.str (zu [13,10] (rs ++ [z])),.str mk'] Zy=U0
 have a13:U0 13=some (.str (zu [13,10] (rs ++ [z]))):=by rw [←hU0];rfl
 have a12:U0 12=some (.str mk'):=by rw [←hU0];rfl
 have a13':=a13
 refine Ret.next (Jd (show ze2 (tOf (za 13)) U0 W=some false from ?_)) ?_
 ·unfold ze2
  rw [qb (f:=za 13) a13]
  show ((if ze (zu [13,10] (rs ++ [z])).length then some ((zu [13,10] (rs ++ [z])).length !=0) else none).map (!·))=_
  rw [if_pos (zm (by lia)),show ((zu [13,10] (rs ++ [z])).length !=0)=true by rw [bne_iff_ne];exact Nat.ne_of_gt ‹_›];rfl
 refine Ret.next (zj (i:=50) (f:=dC (.str [])) (a:= .str []) rfl) ?_
 generalize hU1:upd U0 50 (.str [])=U1
 have k1:∀ j,j≠50→U1 j=U0 j:=fun j hj=> by simp only [←hU1];exact qz hj
 have hlines:zf j1 ((za 13)::[]) U1 W=some (.lst ((Qb (rs ++ [z])).map .str)):=by
  rw [qq (f:=za 13) ((k1 13 (by decide)).trans a13)]
  rw [hyr] at hnb hlen⊢
  exact zng (.inr rfl) (fun z hz=> (hnb z hz).1) hlen
 have hsub:∀ r∈Qb (rs ++ [z]),r∈rs ++ [z]:=by
  intro r hr
  rw [zd5] at hr
  rcases List.mem_append.mp hr with h | h
  ·exact List.mem_append.mpr (.inl h)
  ·split at h
   ·exact nomatch h
   ·exact List.mem_append.mpr (.inr h)
 have hll:(Qb (rs ++ [z])).length≤51:=by
  rw [zd5];split <;> simp <;> lia
 obtain ⟨U2,e2,f50,k2⟩:=zzb (base:=W.length) (W:=W) hm dec (Qb (rs ++ [z])) U1 [] ((k1 12 (by decide)).trans a12) (by rw [←hU1];rfl) (by simp;lia) fun r hr=> ⟨by have:=(hnb r (hsub r hr)).2;lia,hd r (hsub r hr)⟩
 rw [List.nil_append] at f50
 refine Ret.next (U1:=U2) (W1:=W) (?_:Q8 false (tNm 43) (fIt (zf j1 ((za 13)::[]))) z3b W.length U1 W=_) ?_
 ·unfold Q8
  rw [Qi hlines (by rw [xc];exact zm (by lia))]
  exact e2
 have b13:U2 13=some (.str (zu [13,10] (rs ++ [z]))):=(k2 13 (by decide) (by decide) (by decide) (by decide) (by decide)).trans ((k1 13 (by decide)).trans a13)
 have b12:U2 12=some (.str mk'):=(k2 12 (by decide) (by decide) (by decide) (by decide) (by decide)).trans ((k1 12 (by decide)).trans a12)
 have happ:∀ a b,j7 dec mk' (a ++ b)=j7 dec mk' a ++ j7 dec mk' b:=fun a b=> by unfold j7;simp
 have tL:∀ c,(zu [13,10] (rs ++ [z])).getLast? =some c→tOf (d2 zdl (d2 zn (za 13) (d1 Q6 (dC (.int 1)))) (dC (.str [13,10]))) U2 W=some (!([13,10].contains c)):=fun c hc=>
  (qb ((zp (Q3 (f:=za 13) b13 (g:=d1 Q6 (dC (.int 1))) rfl (zjn hc (by lia))) (b:= .str [13,10]) rfl).trans (rfl:zdl W (.str [c]) (.str [13,10])=some (.bool (!([13,10].contains c)))))).trans (trB _ _)
 by_cases hze:z=[]
 ·subst hze
  have hrs':rs≠[]:=by rcases hz with h | h;exact h;exact absurd rfl h
  have hlast:(zu [13,10] (rs ++ [[]])).getLast? =some 10:=by
   rw [zd3 hrs',List.append_nil,List.getLast?_append];rfl
  have hD:j7 dec mk' (Qb (rs ++ [[]]))=G:=by
   rw [zd5]
   show j7 dec mk' (rs ++ [])=G
   rw [List.append_nil]
   have hde:dec []=([],true):=by
    have:=(hd [] (by simp)).1
    have e:J7 HEX.contains zbs []=some ([],true):=rfl
    rw [e] at this;exact (Option.some.inj this).symm
   rw [happ] at hG
   have h1:j7 dec mk' [[]]=mk':=by unfold j7;simp [hde]
   rw [h1] at hG
   exact List.append_cancel_right hG
  rw [hD] at f50
  refine Ret.next (Jd (?_:Zz _ _ U2 W=some false)) (Ret.seq (Ret.ret f50))
  unfold Zz;rw [tL 10 hlast];rfl
 ·have hlast:∃ c,(zu [13,10] (rs ++ [z])).getLast? =some c∧nbr c=true:=by
   have hzz:z.getLast? =some (z.getLast hze):=List.getLast?_eq_some_getLast hze
   refine ⟨z.getLast hze, ?_,xo.mp (hnb z (by simp)).1 _ (List.getLast_mem hze)⟩
   by_cases hrs':rs=[]
   ·subst hrs'
    have:zu [13,10] ([] ++ [z])=z:=by show z ++ zr [13,10] []=z;simp [zr]
    simp only [this,hzz]
   ·rw [zd3 hrs',←List.append_assoc,List.getLast?_append,hzz];rfl
  obtain ⟨c,hc,hcn⟩:=hlast
  have hcc:[13,10].contains c=false:=by
   have h1:c≠13:=by rintro rfl;exact absurd hcn (by decide)
   have h2:c≠10:=by rintro rfl;exact absurd hcn (by decide)
   have h1:(c==13)=false:=beq_eq_false_iff_ne.mpr h1
   have h2:(c==10)=false:=beq_eq_false_iff_ne.mpr h2
   simp only [List.contains_cons,h1,h2,List.contains_nil,Bool.or_false]
  have hD:j7 dec mk' (Qb (rs ++ [z]))=G ++ mk':=by
   rw [zd5,if_neg (by simpa using hze),hG]
  rw [hD] at f50
  have tE:tOf (zf za5 ((za 50)::[(za 12)])) U2 W=some true:=(qb ((je (f:=za 50) f50 (f':=za 12) b12).trans (zzh W G mk'))).trans (trB _ _)
  have eLen:zf Qt [(za 12)] U2 W=some (.int mk'.length):=by
   rw [qq (f:=za 12) b12]
   show (if ze mk'.length then some (PV.int mk'.length) else none)=_
   rw [if_pos (zm (by lia))]
  have eNeg:d1 Q6 (zf Qt [(za 12)]) U2 W=some (.int (-(mk'.length:Int))):=(z5m eLen).trans rfl
  have eS:=J0 (L:=qn) (l:=none) (f:=za 50) f50 (by rw [xz];lia) rfl (Z3 eNeg)
  rw [zvt G mk' hm1] at eS
  refine Ret.next (U1:=upd U2 50 (.str G)) (W1:=W) ((Z6 (?_:Zz _ _ U2 W=some true)).trans ((zd (zj eS)).trans rfl)) (Ret.seq (Ret.ret rfl))
  unfold Zz
  rw [tL c hc,hcc]
  dsimp only [Bool.not_false]
  rw [tE]
  rfl
end
section
def phi (s c:Nat):Nat:=if c=200 then qk (s / 16) else if c=201 then qk (s % 16) else if c=300 then s else c
noncomputable def Sh (s:Nat):Prop:=128≤s∧s < 256
theorem z0s {s k:Nat} (hs:Sh s) (hk:k < 48∨k=61) (c:Nat):phi s c=k↔c=k:=by
 obtain ⟨h1,h2⟩:=hs
 unfold phi qk
 split
 ·split <;> lia
 ·split
  ·split <;> lia
  ·split <;> lia
theorem zec {s k:Nat} (hs:Sh s) (hk:k < 48∨k=61) (c:Nat):(phi s c==k)=(c==k):=by
 rw [Bool.eq_iff_iff,beq_iff_eq,beq_iff_eq];exact z0s hs hk c
theorem zl5 {s k:Nat} (hs:Sh s) (hk:k < 48∨k=61) (c:Nat):([phi s c]==[k])=([c]==[k]):=by
 have:=zec hs hk c
 refine (?_:(phi s c==k && true)=(c==k && true))
 rw [this]
theorem z39 {s:Nat} (hs:Sh s) (c:Nat):[32,9].contains (phi s c)=[32,9].contains c:=by
 simp only [List.contains_cons,zec hs (show 32 < 48∨32=61 from .inl (by decide)),zec hs (show 9 < 48∨9=61 from .inl (by decide)),List.contains_nil]
theorem zl4 {s c:Nat} (h1:c≠200) (h2:c≠201) (h3:c≠300):phi s c=c:=by unfold phi;rw [if_neg h1,if_neg h2,if_neg h3]
theorem zxm {s:Nat} (hs:Sh s) (c:Nat):QM (phi s c)=(QM c).map (phi s):=by
 unfold QM
 rw [zec hs (.inl (by decide))]
 cases c==32 <;> simp [phi]
theorem Ji (f:Nat→Nat) (l:List Nat) (k:Int):jy (l.map f) k=(jy l k).map f:=by
 unfold jy
 split
 ·rw [xc]
  cases seqIndex? k l.length with
  | none=> rfl
  | some i=> show (l.map f)[i]? =(l[i]?).map f;rw [List.getElem?_map]
 ·rfl
theorem J9 (f:Nat→Nat) (l u:Option Int) (x:List Nat):cut l u (x.map f)=(cut l u x).map f:=by
 unfold cut;rw [xc,List.map_take,List.map_drop]
theorem zdx {s:Nat} (hs:Sh s) {w:Int}{ln:List Nat}:∀ (n:Nat) (st:Int),zb6 w (ln.map (phi s)) n st=(zb6 w ln n st).map fun p=> (p.1.map (List.map (phi s)),p.2)
 | 0,_=> rfl
 | n + 1,st=> by
  rw [zci,zci]
  rw [xc]
  split
  ·rw [Ji]
   cases jy ln (st + (w - 1) - 2) with
   | none=> rfl
   | some c=>
    dsimp only [Option.map_some]
    rw [zl5 hs (.inr rfl)]
    split
    ·rw [zdx hs n,J9]
     cases zb6 w ln n (st + (w - 1) - 2) <;> rfl
    ·rw [Ji]
     cases jy ln (st + (w - 1) - 1) with
     | none=> rfl
     | some d=>
      dsimp only [Option.map_some]
      rw [zl5 hs (.inr rfl)]
      split
      ·rw [zdx hs n,J9]
       cases zb6 w ln n (st + (w - 1) - 1) <;> rfl
      ·rw [zdx hs n,J9]
       cases zb6 w ln n (st + (w - 1)) with
       | none=> rfl
       | some p=> show some ((_::_,_))=some ((_::_,_));rw [List.map_append];rfl
  ·rfl
theorem zv1 {s:Nat} (hs:Sh s) {w:Int}{ln:List Nat} (st:Int):zpi w (ln.map (phi s)) st=(zpi w ln st).map (List.map (List.map (phi s))):=by
 unfold zpi
 rw [Ji,xc]
 cases jy ln (-1) with
 | none=> rfl
 | some c=>
  dsimp only [Option.map_some]
  rw [z39 hs]
  split
  ·split
   ·simp only [J9,zxm hs];simp
   ·split
    ·rw [J9];simp [phi]
    ·rw [J9,zxm hs];simp [phi]
  ·rw [J9];rfl
theorem zfa {s:Nat} (hs:Sh s) {w:Int}{ln:List Nat}{p:List (List Nat)×List (List Nat)} (h:Zv w ln=some p):Zv w (ln.map (phi s))=some (p.1.map (List.map (phi s)),p.2.map (List.map (phi s))):=by
 unfold Zv at h⊢
 rw [zdx hs]
 cases e:zb6 w ln 60 0 with
 | none=> rw [e] at h;exact nn h
 | some q=>
  rw [e] at h
  dsimp only [Option.map_some] at h⊢
  rw [zv1 hs]
  cases e2:zpi w ln q.2 with
  | none=> rw [e2] at h;exact nn h
  | some T=> rw [e2] at h;cases si h;rfl
theorem zy7 {s:Nat} (hs:Sh s) (r:List Nat):ddR (r.map (phi s))=(ddR r).map (phi s):=by
 unfold ddR
 cases r with
 | nil=> rfl
 | cons c r=>
  refine (?_:(if (some (phi s c)==some 46)=true then _ else _)=_)
  have:(some (phi s c)==some 46)=(some c==some 46):=zec hs (.inl (by decide)) c
  rw [this,List.head?_cons]
  cases some c==some 46 <;> simp [phi]
def zeo (c:Nat):Bool:=HEX.contains c || c==200 || c==201
noncomputable def ze5 (x:List Nat):Option Nat:=if x==[61,200,201] then some 300 else if x==[61,50,48] then some 32 else if x==[61,48,57] then some 9 else none
theorem zfc:∀ n,n < 16→HEX.contains (qk n)=true∧Unicode.isSpace (qk n)=false∧nbr (qk n)=true:=by decide +kernel
theorem z4n:∀ n,n < 256→zbs [61,qk (n / 16),qk (n % 16)]=some n:=by decide +kernel
theorem z5g:HEX.contains 200=false∧HEX.contains 201=false∧Unicode.isSpace 200=false∧Unicode.isSpace 201=false:=by decide +kernel
theorem Sh.hi {s:Nat} (h:Sh s):s / 16 < 16:=by unfold Sh at h;lia
theorem Sh.lo {s:Nat} (h:Sh s):s % 16 < 16:=by exact Nat.mod_lt _ (by decide)
theorem zl2 (s:Nat):phi s 200=qk (s / 16):=rfl
theorem zl3 (s:Nat):phi s 201=qk (s % 16):=rfl
theorem zm9 {s c:Nat} (hs:Sh s) (h3:c≠300):HEX.contains (phi s c)=zeo c:=by
 unfold zeo
 by_cases h1:c=200
 ·subst h1;simp only [zl2,(zfc _ hs.hi).1];simp
 by_cases h2:c=201
 ·subst h2;simp only [zl3,(zfc _ hs.lo).1];simp
 simp only [zl4 h1 h2 h3,show (c==200)=false from beq_eq_false_iff_ne.mpr h1,show (c==201)=false from beq_eq_false_iff_ne.mpr h2,Bool.or_false,Bool.or_false]
theorem zt8 {s c:Nat} (hs:Sh s) (h3:c≠300):Unicode.isSpace (phi s c)=Unicode.isSpace c:=by
 by_cases h1:c=200
 ·subst h1;simp only [zl2,(zfc _ hs.hi).2.1,z5g.2.2.1]
 by_cases h2:c=201
 ·subst h2;simp only [zl3,(zfc _ hs.lo).2.1,z5g.2.2.2]
 rw [zl4 h1 h2 h3]
theorem zrx {s c:Nat} (hs:Sh s) (h3:c≠300) (h:nbr c=true):nbr (phi s c)=true:=by
 by_cases h1:c=200
 ·subst h1;simp only [zl2];exact (zfc _ hs.hi).2.2
 by_cases h2:c=201
 ·subst h2;simp only [zl3];exact (zfc _ hs.lo).2.2
 rw [zl4 h1 h2 h3];exact h
def no3 (r:List Nat):Bool:=r.all fun c=> c !=300 && nbr c
theorem zlu {r:List Nat} (h:no3 r=true) {c:Nat} (hc:c∈r):c≠300∧nbr c=true:=by
 have:=xo.mp h c hc
 rw [xi,bne_iff_ne] at this;exact this
theorem zz2 {s:Nat} (hs:Sh s) {r:List Nat} (h:no3 r=true):(r.map (phi s)).all nbr=true:=by
 rw [List.all_map,xo]
 intro c hc
 obtain ⟨h1,h2⟩:=zlu h hc
 exact zrx hs h1 h2
theorem zrz {r:List Nat} (h:r.all nbr=true):znp r=true:=by
 unfold znp
 rw [xo] at h⊢
 intro c hc
 have:=h c hc
 rw [xi,bne_iff_ne,bne_iff_ne]
 constructor <;> rintro rfl <;> exact absurd this (by decide)
theorem zye {s:Nat} (hs:Sh s):∀ (l:List Nat),(∀ c∈l,c≠300)→((l.map (phi s)).takeWhile Unicode.isSpace).length=(l.takeWhile Unicode.isSpace).length
 | [],_=> rfl
 | c::l,h=> by
  simp only [List.map_cons,List.takeWhile_cons,List.takeWhile_cons,zt8 hs (h c (by simp))]
  split
  ·simp only [List.length_cons,List.length_cons,zye hs l fun x hx=> h x (xf _ hx)]
  ·rfl
theorem z0y {s:Nat} (hs:Sh s) {r:List Nat} (h:∀ c∈r,c≠300):rsS (r.map (phi s))=(rsS r).map (phi s):=by
 unfold rsS
 rw [←List.map_reverse,zye hs r.reverse (fun c hc=> h c (List.mem_reverse.mp hc)),xc,List.map_take]
theorem zne {l:List Nat}{k:Int}{c:Nat} (h:jy l k=some c):c∈l:=by
 unfold jy at h
 split at h
 ·obtain ⟨i,h1,h2⟩:=xn.mp h
  exact xw h2
 ·exact nn h
set_option tactic.hygienic true in
theorem zyh {s n:Nat} (hs:Sh s) {x:List Nat} (h:ze5 x=some n):zbs (x.map (phi s))=some (phi s n):=by
 unfold ze5 at h
 split at h
 ·rename_i hx;cases si h
  rw [beq_iff_eq.mp hx]
  exact z4n s hs.2
 ·split at h
  ·rename_i hx;cases si h
   rw [beq_iff_eq.mp hx];kernel_rfl
  ·split at h
   ·rename_i hx;cases si h
    rw [beq_iff_eq.mp hx];kernel_rfl
   ·exact nn h
set_option tactic.hygienic true in
theorem zvx {s:Nat} (hs:Sh s) {ln:List Nat}{i:Int}{t:Int×List Nat×Bool} (hln:∀ c∈ln,c≠300) (h:zij zeo ze5 ln i=some t):zij HEX.contains zbs (ln.map (phi s)) i=some (t.1,t.2.1.map (phi s),t.2.2):=by
 unfold zij at h⊢
 rw [Ji]
 cases hc:jy ln i with
 | none=> rw [hc] at h;exact nn h
 | some c=>
  rw [hc] at h
  dsimp only [Option.map_some] at h⊢
  rw [zl5 hs (.inr rfl),xc]
  split at h
  ·rename_i h1;refine (if_pos h1).trans ?_;cases si h;rfl
  ·rename_i h1
   refine (if_neg h1).trans ?_
   split at h
   ·rename_i h2;refine (if_pos h2).trans ?_;cases si h;rfl
   ·rename_i h2
    refine (if_neg h2).trans ?_
    split at h
    ·rename_i h3
     rw [if_pos h3,Ji,Ji]
     cases ha:jy ln (i + 1) with
     | none=> rw [ha] at h;exact nn h
     | some a=>
      cases hb:jy ln (i + 2) with
      | none=> rw [ha,hb] at h;exact nn h
      | some b=>
       rw [ha,hb] at h
       dsimp only [Option.map_some] at h⊢
       simp only [zm9 hs (hln a (zne ha)),zm9 hs (hln b (zne hb)),J9]
       split at h
       ·rename_i h4
        refine (if_pos h4).trans ?_
        obtain ⟨n,hn,e⟩:=xh.mp h
        simp only [zyh hs hn];subst e;rfl
       ·rename_i h4
        refine (if_neg h4).trans ?_;cases si h;rfl
    ·rename_i h3
     refine (if_neg h3).trans ?_;cases si h;rfl
set_option tactic.hygienic true in
theorem zmx {s:Nat} (hs:Sh s) {ln:List Nat} (hln:∀ c∈ln,c≠300):∀ (n:Nat) (i:Int) (loc:List Nat) (fl:Bool) (p:List Nat×Bool),zpe zeo ze5 ln n i loc fl=some p→zpe HEX.contains zbs (ln.map (phi s)) n i (loc.map (phi s)) fl=some (p.1.map (phi s),p.2)
 | 0,_,_,_,_,h=> by exact nn h
 | n + 1,i,loc,fl,p,h=> by
  rw [zja] at h⊢
  rw [xc]
  split at h
  ·rename_i h1
   refine (if_pos h1).trans ?_
   cases ht:zij zeo ze5 ln i with
   | none=> rw [ht] at h;exact nn h
   | some t=>
    rw [ht] at h
    rw [zvx hs hln ht]
    dsimp only at h⊢
    rw [xc]
    split at h
    ·exact nn h
    ·rename_i h2
     refine (if_neg h2).trans ?_
     have:=zmx hs hln n _ _ _ p h
     rw [List.map_append] at this
     exact this
  ·rename_i h1
   refine (if_neg h1).trans ?_;cases si h;rfl
set_option tactic.hygienic true in
theorem zhs {s:Nat} (hs:Sh s) {r:List Nat} (hr:∀ c∈r,c≠300) {p:List Nat×Bool} (h:J7 zeo ze5 r=some p):J7 HEX.contains zbs (r.map (phi s))=some (p.1.map (phi s),p.2):=by
 unfold J7 at h⊢
 rw [z0y hs hr]
 have he:((rsS r).map (phi s)).isEmpty=(rsS r).isEmpty:=by cases rsS r <;> rfl
 rw [he]
 split at h
 ·rename_i h1;refine (if_pos h1).trans ?_;cases si h;rfl
 ·rename_i h1
  refine (if_neg h1).trans ?_
  exact zmx hs (fun c hc=> hr c (List.mem_of_mem_take hc)) 60 0 [] false p h
end
section
variable {base:Nat}{U:Ren}{W:Sto}
def z70 (bit b:Bool) (x t:Nat):List Nat:=(if bit=true then [300] else []) ++ (q0 b x ++ Z1 t)
def Jq (bit b:Bool) (x t:Nat):List Nat:=(if bit=true then [61,200,201] else []) ++ (q0 b x ++ Z1 t)
def zzj (bit b:Bool) (x t:Nat):List Nat:=(if bit=true then [300] else [46]) ++ (q0 b x ++ Z1 t)
noncomputable def zad:List (List Nat×Bool)→Option (List Nat)
 | []=> none
 | [p]=> if p.2 then some p.1 else none
 | p::q::r=> if p.2 then none else (zad (q::r)).map (p.1 ++ ·)
theorem zbh (p q:List Nat×Bool) (r:List (List Nat×Bool)):zad (p::q::r)=if p.2 then none else (zad (q::r)).map (p.1 ++ ·):=rfl
def q8 (w:Int) (e:List Nat):List (List Nat):=(Zk w e).1 ++ (Zk w e).2
def dcT (r:List Nat):List Nat×Bool:=(J7 zeo ze5 r).getD ([],false)
def zgp (r:List Nat):List Nat×Bool:=(J7 HEX.contains zbs r).getD ([],false)
def zy3 (w:Int) (E X:List Nat):Bool:=zk1 w E && (q8 w E).all no3 && (q8 w E).all (fun r=> decide (r.length≤20)) && decide ((q8 w E).length≤8) && ((q8 w E).map ddR).all (fun r=> (J7 zeo ze5 r).isSome && decide ((dcT r).1.length≤250)) && (zad (((q8 w E).map ddR).map dcT)==some X) && decide (X.length≤60) && E.all (· !=300)
set_option tactic.hygienic true in
theorem zjh {dec:List Nat→List Nat×Bool}{mk':List Nat}:∀ (rs:List (List Nat)) (X:List Nat),zad (rs.map dec)=some X→j7 dec mk' rs=X ++ mk'
 | [],X,h=> by cases h
 | [r],X,h=> by
  have h:(if (dec r).2=true then some (dec r).1 else none)=some X:=h
  split at h
  ·rename_i h1;cases h;unfold j7;simp [h1]
  ·cases h
 | r::q::rs,X,h=> by
  rw [List.map_cons,List.map_cons,zbh] at h
  split at h
  ·cases h
  ·rename_i h1
   obtain ⟨Y,hY,e⟩:=xh.mp h
   have ih:=zjh (dec:=dec) (mk':=mk') (q::rs) Y (by simpa using hY)
   cases e
   unfold j7 at ih⊢
   rw [List.flatMap_cons,ih]
   simp [h1]
structure LineOk (w:Int) (e x:List Nat):Prop where
 enc:EncOk w e
 nb:∀ r∈q8 w e,r.all nbr=true∧r.length≤20
 n:(q8 w e).length≤8
 ne:q8 w e≠[]
 d:∀ r∈(q8 w e).map ddR,J7 HEX.contains zbs r=some (zgp r)∧(zgp r).1.length≤250
 g:∀ mk',j7 zgp mk' ((q8 w e).map ddR)=x ++ mk'
 xl:x.length≤60
theorem zji {s:Nat}:∀ ps:List (List Nat×Bool),zad (ps.map fun p=> (p.1.map (phi s),p.2))=(zad ps).map (List.map (phi s))
 | []=> rfl
 | [p]=> by show (if p.2=true then _ else none)=Option.map _ (if p.2=true then _ else none);split <;> rfl
 | p::q::r=> by
  rw [List.map_cons,List.map_cons,zbh,zbh]
  have ih:=zji (s:=s) (q::r)
  simp only [List.map_cons] at ih
  split
  ·rfl
  ·rw [ih]
   cases zad (q::r) with
   | none=> rfl
   | some Y=> show some _=some _;rw [List.map_append]
theorem ztm {s:Nat} (hs:Sh s) {w:Int}{E X:List Nat} (h:zy3 w E X=true):LineOk w (E.map (phi s)) (X.map (phi s)):=by
 unfold zy3 at h
 simp only [xi,decide_eq_true_eq] at h
 refine bc fun J=> ?_
 obtain ⟨⟨⟨⟨⟨⟨⟨h1,h2⟩,h3⟩,h4⟩,h5⟩,h6⟩,h7⟩,h8⟩:=h
 refine J ?_
 have K:=zm0 h1
 have eM:=zfa hs K.e
 have hD:Zk w (E.map (phi s))=((Zk w E).1.map (List.map (phi s)),(Zk w E).2.map (List.map (phi s))):=by
  show (Zv w (E.map (phi s))).getD ([],[])=_
  rw [eM];rfl
 have hR:q8 w (E.map (phi s))=(q8 w E).map (List.map (phi s)):=by unfold q8;rw [hD,List.map_append]
 have mem:∀ r∈q8 w (E.map (phi s)),∃ r0∈q8 w E,r=r0.map (phi s):=by
  intro r hr;rw [hR] at hr
  refine bc fun J=> ?_
  obtain ⟨r0,a,b⟩:=xr.mp hr
  refine J ?_
  exact ⟨r0,a,b.symm⟩
 have n3:=fun r0 (hr:r0∈q8 w E)=> xo.mp h2 r0 hr
 have dmap:∀ r0∈q8 w E,∃ p,J7 zeo ze5 (ddR r0)=some p∧p.1.length≤250∧J7 HEX.contains zbs (ddR (r0.map (phi s)))=some (p.1.map (phi s),p.2):=by
  intro r0 hr
  have:=xo.mp h5 (ddR r0) (xr.mpr ⟨r0,hr,rfl⟩)
  rw [xi,decide_eq_true_eq] at this
  obtain ⟨p,hp⟩:=Option.isSome_iff_exists.mp this.1
  have hl:=this.2
  unfold dcT at hl;rw [hp] at hl
  refine ⟨p,hp,hl, ?_⟩
  rw [zy7 hs]
  refine zhs hs (fun c hc=> ?_) hp
  unfold ddR at hc
  split at hc
  ·rcases List.mem_cons.mp hc with rfl | hc
   ·decide
   ·exact (zlu (n3 r0 hr) hc).1
  ·exact (zlu (n3 r0 hr) hc).1
 have hdec:((q8 w (E.map (phi s))).map ddR).map zgp=(((q8 w E).map ddR).map dcT).map fun p=> (p.1.map (phi s),p.2):=by
  rw [hR,xq,xq,xq,xq]
  refine List.map_congr_left fun r0 hr=> ?_
  obtain ⟨p,a,_,b⟩:=dmap r0 hr
  show (J7 HEX.contains zbs (ddR (r0.map (phi s)))).getD ([],false)=(((J7 zeo ze5 (ddR r0)).getD ([],false)).1.map (phi s),((J7 zeo ze5 (ddR r0)).getD ([],false)).2)
  rw [a,b];rfl
 refine ⟨⟨?_, ?_, ?_, ?_, ?_, ?_⟩, ?_, ?_, ?_, ?_, ?_, ?_⟩
 ·rw [eM,hD]
 ·rw [hD];intro e;exact K.t (List.map_eq_nil_iff.mp e)
 ·rw [hD]
  have hm:∀ l:List (List Nat),(l.map (List.map (phi s))).map List.length=l.map List.length:=fun l=> by rw [xq];exact List.map_congr_left fun r V=> xc ..
  dsimp only
  rw [hm,hm,xc,xc];exact K.s
 ·intro e;exact K.n (List.map_eq_nil_iff.mp e)
 ·rw [List.all_map,xo]
  intro c hc
  have:=xo.mp h8 c hc
  exact zrx hs (bne_iff_ne.mp this) (xo.mp K.b c hc)
 ·rw [xc];exact K.l
 ·intro r hr
  obtain ⟨r0,a,rfl⟩:=mem r hr
  refine ⟨zz2 hs (n3 r0 a), ?_⟩
  have:=xo.mp h3 r0 a
  rw [xc];exact xx this
 ·rw [hR,xc];exact h4
 ·rw [hR];intro e
  have:=List.map_eq_nil_iff.mp e
  unfold q8 at this
  exact K.t (List.append_eq_nil_iff.mp this).2
 ·intro r hr
  rw [hR,xq] at hr
  obtain ⟨r0,a,rfl⟩:=xr.mp hr
  obtain ⟨p,_,hl,e⟩:=dmap r0 a
  show J7 HEX.contains zbs (ddR (r0.map (phi s)))=some ((J7 HEX.contains zbs (ddR (r0.map (phi s)))).getD ([],false))∧((J7 HEX.contains zbs (ddR (r0.map (phi s)))).getD ([],false)).1.length≤250
  rw [e]
  exact ⟨rfl,by show (p.1.map (phi s)).length≤250;rw [xc];exact hl⟩
 ·intro mk'
  refine zjh _ _ ?_
  rw [hdec,zji,beq_iff_eq.mp h6];rfl
 ·rw [xc];exact h7
theorem zjk (sep:List Nat):∀ r:List (List Nat),zr sep r ++ sep=sep ++ r.flatMap (· ++ sep)
 | []=> by simp [zr]
 | y::r=> by
  have ih:=zjk sep r
  rw [Z5,List.flatMap_cons,List.append_assoc,List.append_assoc,ih];simp
theorem zs6 (sep y:List Nat) (r:List (List Nat)):zu sep (y::r) ++ sep=(y::r).flatMap (· ++ sep):=by
 show (y ++ zr sep r) ++ sep=_
 rw [List.append_assoc,zjk,List.flatMap_cons];simp
theorem zxn {w:Int}{sep:List Nat} (hsep:sep.length≤2) (l:List (List Nat×List Nat)) (h:∀ q∈l,LineOk w q.1 q.2):(zu sep (Zm w (l.map (·.1)))).length≤176 * l.length:=by
 have hphys:Zm w (l.map (·.1))=l.flatMap fun q=> q8 w q.1:=by unfold Zm;rw [List.flatMap_map];rfl
 have g:=Zw sep (Zm w (l.map (·.1)))
 have key:((Zm w (l.map (·.1))).map List.length).sum + (Zm w (l.map (·.1))).length * 2≤176 * l.length:=by
  rw [hphys];clear g hphys
  induction l with
  | nil=> exact yc _
  | cons q l ih=>
   have i:=ih fun x hx=> h x (xf _ hx)
   have K:=h q xk
   have hs:∀ rs:List (List Nat),(∀ r∈rs,r.length≤20)→(rs.map List.length).sum≤20 * rs.length:=by
    intro rs
    induction rs with
    | nil=> intro _;exact yc _
    | cons a l ih=> intro h;have:=ih fun x hx=> h x (xf _ hx);have:=h a xk;rw [List.map_cons,List.sum_cons,List.length_cons];lia
   have a:=hs _ fun r hr=> (K.nb r hr).2
   have b:=K.n
   rw [List.flatMap_cons,List.map_append,List.sum_append,xz,List.length_cons];lia
 have hm:(Zm w (l.map (·.1))).length * sep.length≤(Zm w (l.map (·.1))).length * 2:=Nat.mul_le_mul_left _ hsep
 lia
theorem zxx {w:Int}{e:Nat}{mk':List Nat}{p:List Nat×List Nat}{L:List (List Nat×List Nat)} (hm1:0 < mk'.length) (hm:mk'.length≤2) (hL:L.length≤3) (hL0:0 < L.length) (h:∀ q∈p::L,LineOk w q.1 q.2):
  fnV (bfN 2 []) [13,12] Jk W [.str (qd (zu (jr e) (Zm w ((p::L).map (·.1))))),.str mk']=some (.str (zu mk' ((p::L).map (·.2)))):=by
 have hphys:Zm w ((p::L).map (·.1))=(p::L).flatMap fun q=> q8 w q.1:=by unfold Zm;rw [List.flatMap_map];rfl
 have hrow:∀ r∈Zm w ((p::L).map (·.1)),∃ q∈p::L,r∈q8 w q.1:=by
  intro r hr;rw [hphys] at hr;exact List.mem_flatMap.mp hr
 have hmap:(Zm w ((p::L).map (·.1))).map ddR=(p::L).flatMap fun q=> (q8 w q.1).map ddR:=by rw [hphys,List.map_flatMap]
 have hn:∀ l:List (List Nat×List Nat),(∀ q∈l,LineOk w q.1 q.2)→(l.flatMap fun q=> q8 w q.1).length≤8 * l.length∧l.length≤(l.flatMap fun q=> q8 w q.1).length:=by
  intro l
  induction l with
  | nil=> intro _;exact ⟨yc _,yc _⟩
  | cons q l ih=>
   intro h
   have i:=ih fun x hx=> h x (xf _ hx)
   have K:=h q xk
   have:=K.n
   have:=List.length_pos_iff.mpr K.ne
   rw [List.flatMap_cons,xz,List.length_cons];lia
 refine bc fun J=> ?_
 obtain ⟨n1,n2⟩:=hn _ h
 rw [←hphys] at n1 n2
 simp only [List.length_cons] at n1 n2
 have hne:Zm w ((p::L).map (·.1))≠[]:=by intro e;rw [e] at n2;simp at n2
 obtain ⟨y,r,hyr⟩:=List.exists_cons_of_ne_nil hne
 refine J ?_
 have hq:qd (zu (jr e) (Zm w ((p::L).map (·.1))))=zu [13,10] ((Zm w ((p::L).map (·.1))).map ddR):=by
  have hh:∀ z∈y::r,znp z=true:=by
   intro z hz
   rw [←hyr] at hz
   obtain ⟨q,a,b⟩:=hrow z hz
   exact zrz ((h q a).nb z b).1
  rw [hyr];exact zn0 hh
 rw [hq]
 generalize hR:(Zm w ((p::L).map (·.1))).map ddR=R at *
 have hRl:R.length=(Zm w ((p::L).map (·.1))).length:=by rw [←hR,xc]
 have hRne:R≠[]:=by intro e;rw [e,List.length_nil] at hRl;lia
 have hsplit:=List.dropLast_concat_getLast hRne
 generalize R.dropLast=rs at hsplit
 generalize R.getLast hRne=z at hsplit
 have hrl:rs.length + 1=R.length:=by rw [←hsplit];simp
 have hrs:rs≠[]:=by intro e;rw [e,List.length_nil] at hrl;lia
 have hmem:∀ r∈R,∃ q∈p::L,∃ r0∈q8 w q.1,r=ddR r0:=by
  intro r hr
  rw [←hR] at hr
  refine bc fun J=> ?_
  obtain ⟨r0,a,b⟩:=xr.mp hr
  obtain ⟨q,c,d⟩:=hrow r0 a
  refine J ?_
  exact ⟨q,c,r0,d,b.symm⟩
 have hdd:∀ r0:List Nat,r0.all nbr=true→r0.length≤20→(ddR r0).all nbr=true∧(ddR r0).length≤100:=by
  intro r0 a b
  unfold ddR
  split
  ·refine ⟨?_,by rw [List.length_cons];lia⟩
   rw [List.all_cons,a];decide
  ·exact ⟨a,by lia⟩
 rw [←hsplit]
 refine zjb hm1 hm zgp (by lia) (.inl hrs) ?_ ?_ ?_ ?_
 ·intro r hr
  rw [hsplit] at hr
  obtain ⟨q,a,r0,b,rfl⟩:=hmem r hr
  have:=(h q a).nb r0 b
  exact hdd r0 this.1 this.2
 ·intro r hr
  rw [hsplit] at hr
  obtain ⟨q,a,r0,b,rfl⟩:=hmem r hr
  exact (h q a).d _ (xr.mpr ⟨r0,b,rfl⟩)
 ·rw [hsplit,hmap]
  have hall:∀ l:List (List Nat×List Nat),(∀ q∈l,LineOk w q.1 q.2)→j7 zgp mk' (l.flatMap fun q=> (q8 w q.1).map ddR)=(l.map (·.2)).flatMap (· ++ mk'):=by
   intro l
   induction l with
   | nil=> intro _;rfl
   | cons q l ih=>
    intro h
    have e1:=(h q xk).g mk'
    have e2:=ih fun x hx=> h x (xf _ hx)
    unfold j7 at e1 e2⊢
    rw [List.flatMap_cons,List.flatMap_append,e1,e2,List.map_cons,List.flatMap_cons]
  rw [hall _ h,List.map_cons,zs6]
 ·have g:=Zw mk' ((p::L).map (·.2))
  have hs:∀ l:List (List Nat×List Nat),(∀ q∈l,LineOk w q.1 q.2)→((l.map (·.2)).map List.length).sum≤60 * l.length:=by
   intro l
   induction l with
   | nil=> intro _;exact yc _
   | cons q l ih=> intro h;have:=ih fun x hx=> h x (xf _ hx);have:=(h q xk).xl;rw [List.map_cons,List.map_cons,List.sum_cons,List.length_cons];lia
  have:=hs _ h
  have hm3:((p::L).map (·.2)).length * mk'.length≤((p::L).map (·.2)).length * 2:=Nat.mul_le_mul_left _ hm
  simp only [xc,List.length_cons] at *
  lia
def zvp (w:Int):Bool:=[true,false].all fun bit=> [true,false].all fun b=> jh.all fun x=> (List.range 3).all fun t=> zy3 w (Jq bit b x t) (zzj bit b x t)
theorem zst:∀ v:Nat,v < 4→zvp (6 + (v:Int))=true:=by decide +kernel
theorem zvr {v:Nat} (hv:v < 4) (bit b:Bool) {x t:Nat} (hx:x∈jh) (ht:t < 3):zy3 (6 + (v:Int)) (Jq bit b x t) (zzj bit b x t)=true:=by
 have h:=zst v hv
 unfold zvp at h
 have hb:∀ b:Bool,b∈[true,false]:=by decide
 exact xo.mp (xo.mp (xo.mp (xo.mp h bit (hb bit)) b (hb b)) x hx) t (List.mem_range.mpr ht)
def pg (s:Nat) (bit b:Bool) (x t:Nat):List Nat:=((if bit=true then [s] else []) ++ q0 b x) ++ Z1 t
def ex (s:Nat) (bit b:Bool) (x t:Nat):List Nat:=(if bit=true then [s] else [46]) ++ (q0 b x ++ Z1 t)
def Z9 (c:Nat):List Nat:=if zgs c then [c] else [61,qk (c / 16),qk (c % 16)]
theorem zsc {c:Nat} (h:c < 256):za9 ENC c=some (Z9 c):=by
 unfold za9
 rw [if_pos (by lia)]
 unfold ENC
 rw [List.getElem?_map,List.getElem?_range h];rfl
theorem zok {x:List Nat} (hx:x≠[]) (h:∀ c∈x,c < 256) (hl:x.length≤1000) (W:Sto):Jx zbt ENC W [.str x,.raw zbt]=some (.str (x.flatMap Z9)):=by
 have e:∀ x:List Nat,(∀ c∈x,c < 256)→(x.filterMap (za9 ENC)).flatten=x.flatMap Z9:=by
  intro x
  induction x with
  | nil=> intro _;rfl
  | cons c x ih=>
   intro h
   rw [List.filterMap_cons,zsc (h c (by simp)),List.flatMap_cons]
   dsimp only
   rw [List.flatten_cons,ih fun d hd=> h d (xf _ hd)]
 have hlen:∀ x:List Nat,(x.flatMap Z9).length≤3 * x.length:=by
  intro x
  induction x with
  | nil=> exact yc _
  | cons c x ih=>
   have:(Z9 c).length≤3:=by unfold Z9;split <;> simp
   rw [List.flatMap_cons,xz,List.length_cons];lia
 show (if ((zbt==zbt && x.all (fun c=> (za9 ENC c).isSome)) && (!x.isEmpty && ze ((x.filterMap (za9 ENC)).flatten).length))=true then some (PV.str ((x.filterMap (za9 ENC)).flatten)) else none)=_
 rw [e x h,if_pos]
 have h1:x.all (fun c=> (za9 ENC c).isSome)=true:=xo.mpr fun c hc=> by rw [zsc (h c hc)];rfl
 have h2:(!x.isEmpty)=true:=by cases x with | nil=> exact absurd rfl hx | cons c x=> rfl
 rw [h1,h2,zm (by have:=hlen x;lia),beq_self_eq_true];rfl
theorem zs2 (rows:List (List Nat)):(zu [10] rows).flatMap Z9=zu [10] (rows.map fun r=> r.flatMap Z9):=by
 have hR:∀ r:List (List Nat),(zr [10] r).flatMap Z9=zr [10] (r.map fun r=> r.flatMap Z9):=by
  intro r
  induction r with
  | nil=> rfl
  | cons y r ih=> rw [Z5,List.map_cons,Z5,List.flatMap_append,List.flatMap_append,ih];rfl
 cases rows with
 | nil=> rfl
 | cons y r=> show (y ++ zr [10] r).flatMap Z9=_;rw [List.flatMap_append,hR];rfl
theorem zeh:∀ b:Bool,∀ x∈jh,∀ t,t < 3→(q0 b x ++ Z1 t).flatMap Z9=q0 b x ++ Z1 t∧((q0 b x ++ Z1 t).all fun c=> c !=200 && c !=201 && c !=300 && decide (c < 128) && (c !=10 && c !=13))=true∧(q0 b x ++ Z1 t).length≤4∧2≤(q0 b x ++ Z1 t).length:=by decide +kernel
theorem zlq (s:Nat):∀ l:List Nat,(l.all fun c=> c !=200 && c !=201 && c !=300 && decide (c < 128) && (c !=10 && c !=13))=true→l.map (phi s)=l
 | [],_=> rfl
 | c::l,h=> by
  rw [List.all_cons,xi] at h
  have h1:=h.1
  simp only [xi,bne_iff_ne] at h1
  rw [List.map_cons,zlq s l h.2,zl4 h1.1.1.1.1 h1.1.1.1.2 h1.1.1.2]
theorem zv3 {s:Nat} (hs:Sh s):Z9 s=[61,qk (s / 16),qk (s % 16)]:=by
 obtain ⟨h1,h2⟩:=hs
 unfold Z9
 rw [if_neg]
 unfold zgs
 simp;lia
variable {s:Nat}{bit b:Bool}{x t:Nat}
theorem zl1 (hs:Sh s) (hx:x∈jh) (ht:t < 3):(pg s bit b x t).flatMap Z9=(Jq bit b x t).map (phi s):=by
 obtain ⟨h1,h2,_⟩:=zeh b x hx t ht
 unfold pg Jq
 rw [List.append_assoc,List.flatMap_append,h1,List.map_append,zlq s _ h2]
 congr 1
 cases bit
 ·rfl
 ·show [s].flatMap Z9=[61,qk (s / 16),qk (s % 16)]
  rw [List.flatMap_cons,zv3 hs];rfl
theorem z5q (hx:x∈jh) (ht:t < 3):(zzj bit b x t).map (phi s)=ex s bit b x t:=by
 obtain ⟨h1,h2,_⟩:=zeh b x hx t ht
 unfold ex zzj
 rw [List.map_append,zlq s _ h2]
 cases bit <;> rfl
theorem znv (hs:Sh s) (hx:x∈jh) (ht:t < 3):pg s bit b x t≠[]∧(∀ c∈pg s bit b x t,c < 256)∧(pg s bit b x t).length≤5:=by
 obtain ⟨h1,h2,h3,h4⟩:=zeh b x hx t ht
 have e:pg s bit b x t=(if bit=true then [s] else []) ++ (q0 b x ++ Z1 t):=by unfold pg;rw [List.append_assoc]
 rw [e]
 refine ⟨?_, ?_, ?_⟩
 ·intro h;have:=List.append_eq_nil_iff.mp h;rw [this.2] at h4;simp at h4
 ·intro c hc
  rcases List.mem_append.mp hc with h | h
  ·cases bit
   ·cases h
   ·have:c=s:=by simpa using h
    subst this;exact hs.2
  ·have:=xo.mp h2 c h
   simp only [xi,decide_eq_true_eq] at this;lia
 ·cases bit <;> simp at h3⊢<;> lia
theorem zv8 (hs:Sh s) (hx:x∈jh) (ht:t < 3):((ex s bit b x t).all fun c=> c !=10 && c !=13)=true∧2≤(ex s bit b x t).length∧(ex s bit b x t).length≤5:=by
 obtain ⟨h1,h2,h3,h4⟩:=zeh b x hx t ht
 have hrow:((q0 b x ++ Z1 t).all fun c=> c !=10 && c !=13)=true:=by
  rw [xo] at h2⊢
  intro c hc
  have:=h2 c hc
  rw [xi] at this;exact this.2
 unfold ex
 refine ⟨?_, ?_, ?_⟩
 ·rw [List.all_append,hrow]
  cases bit
  ·rfl
  ·obtain ⟨a,b⟩:=hs
   simp;lia
 ·rw [xz];lia
 ·rw [xz];cases bit <;> simp at h3⊢<;> lia
structure Pg (U:Ren) (s v e m:Nat) (bt f:Nat→Bool) (t:Nat→Nat):Prop where
 sh:Sh s
 hv:v < 4
 ht:∀ k,t k < 3
 r63:U 63=some (.str [s])
 r67:U 67=some (.int (6 + v:Nat))
 r12:U 12=some (.str (jr e))
 r64:U 64=some (.str (jr m))
def pgs (s:Nat) (bt f:Nat→Bool) (t:Nat→Nat):List (List Nat):=[pg s (bt 0) (f 97) 97 (t 0),pg s (bt 1) (f 98) 98 (t 1),pg s (bt 2) (f 99) 99 (t 2),pg s (bt 3) (f 100) 100 (t 3)]
def exs (s:Nat) (bt f:Nat→Bool) (t:Nat→Nat):List (List Nat):=[ex s (bt 0) (f 97) 97 (t 0),ex s (bt 1) (f 98) 98 (t 1),ex s (bt 2) (f 99) 99 (t 2),ex s (bt 3) (f 100) 100 (t 3)]
def LL4 (s:Nat) (bt f:Nat→Bool) (t:Nat→Nat):List (List Nat×List Nat):=[((Jq (bt 1) (f 98) 98 (t 1)).map (phi s),ex s (bt 1) (f 98) 98 (t 1)),((Jq (bt 2) (f 99) 99 (t 2)).map (phi s),ex s (bt 2) (f 99) 99 (t 2)),((Jq (bt 3) (f 100) 100 (t 3)).map (phi s),ex s (bt 3) (f 100) 100 (t 3))]
theorem Qh (e:Nat):0 < (jr e).length∧(jr e).length≤2:=by unfold jr;split <;> simp
theorem zpk (e:Nat):jr e=[10]∨jr e=[13,10]∨jr e=[13]:=by unfold jr;split <;> simp
theorem zf5 (hs:Sh s) {v:Nat} (hv:v < 4) (hx:x∈jh) (ht:t < 3):LineOk (6 + (v:Int)) ((Jq bit b x t).map (phi s)) (ex s bit b x t):=by
 have:=ztm hs (zvr hv bit b hx ht)
 rwa [z5q hx ht] at this
theorem z2r {e m v:Nat}{bt f:Nat→Bool}{t:Nat→Nat} (P:Pg U s v e m bt f t) (h66:U 66=some (.lst ((pgs s bt f t).map .str))):L31 base U W=some (.next,upd U 65 (.lst ((exs s bt f t).map .str)),W):=by
 have hs:=P.sh
 have a97:(97:Nat)∈jh:=by decide
 have a98:(98:Nat)∈jh:=by decide
 have a99:(99:Nat)∈jh:=by decide
 have zkr:(100:Nat)∈jh:=by decide
 have F:=fun (k x:Nat) (hx:x∈jh)=> znv (bit:=bt k) (b:=f x) hs hx (P.ht k)
 have f0:=F 0 97 a97;have f1:=F 1 98 a98;have f2:=F 2 99 a99;have f3:=F 3 100 zkr
 have hsum:((pgs s bt f t).map List.length).sum≤20:=by
  unfold pgs;simp only [List.map_cons,List.map_nil,List.sum_cons,List.sum_nil]
  have:=f0.2.2;have:=f1.2.2;have:=f2.2.2;have:=f3.2.2;lia
 have eJ:zf Qn ((dC (.str [10]))::[(za 66)]) U W=some (.str (zu [10] (pgs s bt f t))):=by
  rw [je (f:=dC (.str [10])) (a:= .str [10]) rfl (f':=za 66) h66,zf4]
  have:(pgs s bt f t).length=4:=rfl
  simp only [List.length_cons,List.length_nil];lia
 generalize hB:zu [10] (pgs s bt f t)=B at eJ
 have hBl:B.length≤1000:=by
  have:=Zw [10] (pgs s bt f t)
  have h4:(pgs s bt f t).length=4:=rfl
  rw [hB,h4] at this;simp only [List.length_cons,List.length_nil] at this;lia
 have hBn:B≠[]:=by rw [←hB];intro e;exact f0.1 (List.append_eq_nil_iff.mp e).1
 have hBc:∀ c∈B,c < 256:=by
  intro c hc
  rw [←hB] at hc
  unfold pgs zu at hc;simp only [zr] at hc
  simp only [List.map_cons,List.map_nil,List.flatten_cons,List.flatten_nil,List.append_nil,List.mem_append,List.mem_singleton] at hc
  rcases hc with hc | (hc | hc) | (hc | hc) | (hc | hc)
  ·exact f0.2.1 c hc
  ·lia
  ·exact f1.2.1 c hc
  ·lia
  ·exact f2.2.1 c hc
  ·lia
  ·exact f3.2.1 c hc
 have hflat:B.flatMap Z9=zu [10] ((Jq (bt 0) (f 97) 97 (t 0)).map (phi s)::(LL4 s bt f t).map (·.1)):=by
  rw [←hB,zs2]
  unfold pgs LL4
  simp only [List.map_cons,List.map_nil]
  rw [zl1 hs a97 (P.ht 0),zl1 hs a98 (P.ht 1),zl1 hs a99 (P.ht 2),zl1 hs zkr (P.ht 3)]
 have hok:∀ q∈((Jq (bt 0) (f 97) 97 (t 0)).map (phi s),ex s (bt 0) (f 97) 97 (t 0))::LL4 s bt f t,LineOk (6 + (v:Int)) q.1 q.2:=by
  intro q hq
  unfold LL4 at hq
  simp only [List.mem_cons,ya,or_false] at hq
  rcases hq with rfl | rfl | rfl | rfl
  ·exact zf5 hs P.hv a97 (P.ht 0)
  ·exact zf5 hs P.hv a98 (P.ht 1)
  ·exact zf5 hs P.hv a99 (P.ht 2)
  ·exact zf5 hs P.hv zkr (P.ht 3)
 have hen:∀ ln∈(Jq (bt 0) (f 97) 97 (t 0)).map (phi s)::(LL4 s bt f t).map (·.1),EncOk (6 + (v:Int)) ln:=by
  intro ln hln
  have:ln∈(((Jq (bt 0) (f 97) 97 (t 0)).map (phi s),ex s (bt 0) (f 97) 97 (t 0))::LL4 s bt f t).map (·.1):=hln
  obtain ⟨q,a,rfl⟩:=xr.mp this
  exact (hok q a).enc
 have e67:za 67 U W=some (.int (6 + (v:Int))):=P.r67
 have eB:dFn (bfN 3 []) [10,11,12] Zh [(zf Qn ((dC (.str [10]))::[(za 66)])),(za 67),(za 12)] U W=some (.str (zu (jr e) (Zm (6 + (v:Int)) ((Jq (bt 0) (f 97) 97 (t 0)).map (phi s)::(LL4 s bt f t).map (·.1))))):=
  (zlc eJ e67 (f3:=za 12) P.r12).trans (zq9 (by lia) (Qh e).2 hBn hBl (fun W=> by rw [zok hBn hBc hBl,hflat]) (by show 3≤3;exact x9 _) hen)
 have eQ:=(Jr (bf:=bfN 1 []) (ids:=[8]) (F:=jo) eB).trans (zbn (x8 (zxn (Qh e).2 (((Jq (bt 0) (f 97) 97 (t 0)).map (phi s),ex s (bt 0) (f 97) 97 (t 0))::LL4 s bt f t) hok) (by show 176 * 4≤1000;decide)))
 have eD:=(zwc (bf:=bfN 2 []) (ids:=[13,12]) (F:=Jk) eQ (f2:=za 64) P.r64).trans (zxx (L:=LL4 s bt f t) (p:=((Jq (bt 0) (f 97) 97 (t 0)).map (phi s),ex s (bt 0) (f 97) 97 (t 0))) (Qh m).1 (Qh m).2 (by show 3≤3;exact x9 _) (by show 0 < 3;decide) hok)
 have X:=fun (k x:Nat) (hx:x∈jh)=> zv8 (bit:=bt k) (b:=f x) hs hx (P.ht k)
 have x0:=X 0 97 a97;have x1:=X 1 98 a98;have x2:=X 2 99 a99;have x3:=X 3 100 zkr
 refine zj ((je eD (f':=za 64) P.r64).trans ?_)
 refine zn8 (zpk m) ?_ x0.2.1 ?_ (by show 3≤1000;decide)
 ·intro z hz
  unfold LL4 at hz
  simp only [List.map_cons,List.map_nil,List.mem_cons,ya,or_false] at hz
  rcases hz with rfl | rfl | rfl | rfl
  ·exact x0.1
  ·exact x1.1
  ·exact x2.1
  ·exact x3.1
 ·have g:=Zw (jr m) (ex s (bt 0) (f 97) 97 (t 0)::(LL4 s bt f t).map (·.2))
  have h4:(ex s (bt 0) (f 97) 97 (t 0)::(LL4 s bt f t).map (·.2)).length=4:=rfl
  have hsx:((ex s (bt 0) (f 97) 97 (t 0)::(LL4 s bt f t).map (·.2)).map List.length).sum≤20:=by
   unfold LL4;simp only [List.map_cons,List.map_nil,List.sum_cons,List.sum_nil]
   have:=x0.2.2;have:=x1.2.2;have:=x2.2.2;have:=x3.2.2;lia
  rw [h4] at g
  have:=(Qh m).2
  exact x8 g (by lia)
end
section
variable {base:Nat}{U:Ren}{W:Sto}{s e m v:Nat}{f:Nat→Bool}{t:Nat→Nat}{c0 c1 c2:Nat}
def z1r:Den:=(d2 zx (d2 zx (d2 j3 (za 63) (d2 jt (d2 zo (d2 zo (d2 zn (za 68) (dC (.int 2))) (dC (.int 294912))) (d2 Qc (dC (.int 2)) (za 54))) (dC (.int 2)))) (za 71)) (d2 zn (za 69) (za 54)))
theorem zud {g h:Den}{k:Nat} (hk:k < 4) (h1:g U W=some (zh6 t)) (h2:h U W=some (.int (k:Nat))):d2 zn g h U W=some (.str (Z1 (t k))):=by
 rw [zp h1 h2]
 have:k=0∨k=1∨k=2∨k=3:=by lia
 rcases this with rfl | rfl | rfl | rfl <;> rfl
theorem z6o {b:Bool}{x k:Nat} (h63:U 63=some (.str [s])) (h68:U 68=some (.lst [.int c0,.int c1,.int c2])) (h69:U 69=some (zh6 t)) (h54:U 54=some (.int (k:Nat))) (h71:U 71=some (.str (q0 b x))) (hk:k < 4):z1r U W=some (.str (pg s ((c2 / 294912).testBit k) b x (t k))):=by
 have hrl:(q0 b x).length≤3:=by cases b <;> simp [q0]
 have htl:∀ n,(Z1 n).length≤1:=by intro n;unfold Z1;split <;> simp
 have e1:d2 jt (d2 zo (d2 zo (d2 zn (za 68) (dC (.int 2))) (dC (.int 294912))) (d2 Qc (dC (.int 2)) (za 54))) (dC (.int 2)) U W=some (.int ((if (c2 / 294912).testBit k then 1 else 0:Nat):Int)):=by
  rw [←zvm]
  exact Zl (b:=2) (Zd (Zd (b:=294912) (Qf h68).2.2 rfl (by decide) (by decide)) (zf8 (by lia) (show za 54 U W=_ from h54)) (Nat.pow_pos (by decide)) (zcr (by lia))) rfl (by decide)
 have e2:d2 j3 (za 63) (d2 jt (d2 zo (d2 zo (d2 zn (za 68) (dC (.int 2))) (dC (.int 294912))) (d2 Qc (dC (.int 2)) (za 54))) (dC (.int 2))) U W=some (.str (if (c2 / 294912).testBit k=true then [s] else [])):=by
  rw [zp (f:=za 63) h63 e1]
  cases (c2 / 294912).testBit k <;> rfl
 have hil:(if (c2 / 294912).testBit k=true then [s] else ([]:List Nat)).length≤1:=by split <;> simp
 exact Qd (Qd e2 (g:=za 71) h71 (by lia)) (zud hk (show za 69 U W=_ from h69) (show za 54 U W=_ from h54)) (by have:=htl (t k);rw [xz];lia)
theorem z2q (h63:U 63=some (.str [s])) (h68:U 68=some (.lst [.int c0,.int c1,.int c2])) (h69:U 69=some (zh6 t)) (h70:U 70=some (za7 f)):L30 base U W=some (.next,upd U 66 (.lst ((pgs s (c2 / 294912).testBit f t).map .str)),W):=by
 refine zj (qm (its:=[.tup [.int (0:Nat),.str (q0 (f 97) 97)],.tup [.int (1:Nat),.str (q0 (f 98) 98)],.tup [.int (2:Nat),.str (q0 (f 99) 99)],.tup [.int (3:Nat),.str (q0 (f 100) 100)]]) ((zel h70 rfl).trans rfl) ?_ rfl)
 have tg:∀ (a b:PV) (r:Ren),jn [(tNm 54),(tNm 71)] (.tup [a,b]) r=some (upd (upd r 54 a) 71 b):=fun V V V=> rfl
 have ev:∀ (k:Nat) (b:Bool) (x:Nat),k < 4→z1r (upd (upd (zq [63,68,69] U) 54 (.int (k:Nat))) 71 (.str (q0 b x))) W=some (.str (pg s ((c2 / 294912).testBit k) b x (t k))):=fun k b x hk=> z6o h63 h68 h69 rfl rfl hk
 refine (Za (fun k:Nat=> .tup [.int (k:Nat),.str (q0 (f (97 + k)) (97 + k))]) (fun k=> .str (pg s ((c2 / 294912).testBit k) (f (97 + k)) (97 + k) (t k))) [0,1,2,3] fun k hk=> ⟨_,tg _ _ _,ev k _ _ ?_⟩).trans rfl
 rcases hk with _ | ⟨_,_ | ⟨_,_ | ⟨_,_ | ⟨_,hk⟩⟩⟩⟩ <;> first | decide | cases hk
def zjg:Den:=(dIf (tOf (d2 zv (d2 zn (za 43) (dC (.int 0))) (za 63))) (za 43) (d2 zx (dC (.str [46])) (za 43)))
theorem zy6 {t:q7}{a b:Den}{p:PV} (h:t U W=some true) (ha:a U W=some p):dIf t a b U W=some p:=by unfold dIf;rw [h];exact ha
theorem z3a {t:q7}{a b:Den}{p:PV} (h:t U W=some false) (hb:b U W=some p):dIf t a b U W=some p:=by unfold dIf;rw [h];exact hb
theorem z5r (hs:Sh s) {bit b:Bool}{x n:Nat} (h63:U 63=some (.str [s])) (h43:U 43=some (.str (pg s bit b x n))) (hl:(pg s bit b x n).length≤5):zjg U W=some (.str (ex s bit b x n)):=by
 have hs':=hs
 obtain ⟨h1,h2⟩:=hs
 cases bit with
 | true=>
  have ei:jy (pg s true b x n) 0=some s:=by
   unfold jy
   rw [if_pos (by decide)]
   have hp:0 < (pg s true b x n).length:=by unfold pg;simp
   have:seqIndex? 0 (pg s true b x n).length=some 0:=by
    unfold seqIndex?
    show (if (decide ((0:Int)≤0) && decide ((0:Int) < ((pg s true b x n).length:Int)))=true then some (0:Int).toNat else none)=_
    rw [if_pos (by simpa using hp)];rfl
   rw [this];rfl
  refine zy6 ((qb ((zp (Q3 (f:=za 43) h43 (g:=dC (.int 0)) rfl ei) (f':=za 63) h63).trans (zdc _ _ _))).trans ((trB _ _).trans (by rw [beq_self_eq_true]))) (h43.trans ?_)
  unfold pg ex;rw [List.append_assoc];rfl
 | false=>
  have ei:jy (pg s false b x n) 0=some 46:=by
   unfold jy
   rw [if_pos (by decide)]
   have hp:0 < (pg s false b x n).length:=by unfold pg;cases b <;> simp [q0]
   have:seqIndex? 0 (pg s false b x n).length=some 0:=by
    unfold seqIndex?
    show (if (decide ((0:Int)≤0) && decide ((0:Int) < ((pg s false b x n).length:Int)))=true then some (0:Int).toNat else none)=_
    rw [if_pos (by simpa using hp)];rfl
   rw [this];cases b <;> rfl
  have hne:([46]==[s])=false:=by
   show (46==s && true)=false
   rw [show (46==s)=false from beq_eq_false_iff_ne.mpr (by lia)];rfl
  refine z3a ((qb ((zp (Q3 (f:=za 43) h43 (g:=dC (.int 0)) rfl ei) (f':=za 63) h63).trans (zdc _ _ _))).trans ((trB _ _).trans (by rw [hne]))) ((Qd (f:=dC (.str [46])) (a:=[46]) rfl (g:=za 43) h43 (by simp;lia)).trans ?_)
  unfold pg ex;simp
theorem z2s {bt:Nat→Bool} (P:Pg U s v e m bt f t) (h65:U 65=some (.lst ((exs s bt f t).map .str))) (h66:U 66=some (.lst ((pgs s bt f t).map .str))):L32 base U W=some (.next,U,W):=by
 have hc:qa [63] (tNm 43) (fIt (za 66)) qj zjg U W=some (.lst ((exs s bt f t).map .str)):=by
  have ev:∀ (k x:Nat),x∈jh→zjg (upd (zq [63] U) 43 (.str (pg s (bt k) (f x) x (t k)))) W=some (.str (ex s (bt k) (f x) x (t k))):=fun k x hx=> z5r P.sh P.r63 rfl (znv P.sh hx (P.ht k)).2.2
  refine qm (Qi h66 rfl) ?_ rfl
  have tg:∀ (a:PV) (r:Ren),tNm 43 a r=some (upd r 43 a):=fun V V=> rfl
  have b0:∀ (U':Ren) (p:PV),zjg U' W=some p→J5 zjg U' W=some [p]:=by
   intro U' p h;unfold J5;rw [h];rfl
  show j6 (tNm 43) qj (J5 zjg) (zq [63] U) W [.str (pg s (bt 0) (f 97) 97 (t 0)),.str (pg s (bt 1) (f 98) 98 (t 1)),.str (pg s (bt 2) (f 99) 99 (t 2)),.str (pg s (bt 3) (f 100) 100 (t 3))]=_
  refine (Jm (tg _ _) (b0 _ _ (ev 0 97 (by decide))) (Jm (tg _ _) (b0 _ _ (ev 1 98 (by decide))) (Jm (tg _ _) (b0 _ _ (ev 2 99 (by decide))) (Jm (tg _ _) (b0 _ _ (ev 3 100 (by decide))) rfl)))).trans ?_
  rfl
 exact Jd ((qb ((zp (f:=za 65) h65 hc).trans (zlt W (exs s bt f t) (exs s bt f t)))).trans ((trB _ _).trans (by rw [beq_self_eq_true];rfl)))
noncomputable def E5:List Nat:=[61,200,201,46,46,97]
theorem zor:zk1 5 E5=true∧Zk 5 E5=([[61,200,201,46,61]],[[46,97]]):=by decide +kernel
theorem zun:J7 zeo ze5 [61,200,201,46,61]=some ([300,46],false)∧J7 zeo ze5 [46,46,97,32]=some ([46,46,97],true):=by decide +kernel
theorem z2t {bt:Nat→Bool} (P:Pg U s v e m bt f t):L33 base U W=some (.next,U,W):=by
 have hs:=P.sh
 have eM:=zfa hs (zm0 zor.1).e
 have hE:E5.map (phi s)=[61,qk (s / 16),qk (s % 16),46,46,97]:=rfl
 have hD:Zk 5 (E5.map (phi s))=([[61,qk (s / 16),qk (s % 16),46,61]],[[46,97]]):=by
  show (Zv 5 (E5.map (phi s))).getD ([],[])=_
  rw [eM,zor.2];rfl
 have hnb1:=zfc _ hs.hi
 have hnb2:=zfc _ hs.lo
 have c1:nbr 61=true∧nbr 46=true∧nbr 97=true∧nbr 32=true:=by decide
 have hok:EncOk 5 (E5.map (phi s)):=by
  refine ⟨by rw [eM];show _=some (Zk 5 (E5.map (phi s)));rw [hD,zor.2];rfl,by rw [hD];simp,by rw [hD];simp,by rw [hE];simp, ?_,by rw [hE];simp⟩
  rw [hE];simp only [List.all_cons,List.all_nil,c1.1,c1.2.1,c1.2.2.1,hnb1.2.2,hnb2.2.2,Bool.and_true,Bool.and_self]
 have eX:d2 zx (za 63) (dC (.str [46,46,97])) U W=some (.str [s,46,46,97]):=Qd (f:=za 63) P.r63 (g:=dC (.str [46,46,97])) (b:=[46,46,97]) rfl (by simp)
 have hsl:s < 256:=hs.2
 have hflat:[s,46,46,97].flatMap Z9=zu [10] [E5.map (phi s)]:=by
  rw [hE]
  show Z9 s ++ [46,46,97].flatMap Z9=_
  rw [zv3 hs];rfl
 have eB:dFn (bfN 3 []) [10,11,12] Zh [(d2 zx (za 63) (dC (.str [46,46,97]))),(dC (.int 5)),(za 12)] U W=some (.str (zu (jr e) (Zm 5 [E5.map (phi s)]))):=
  (zlc eX (f2:=dC (.int 5)) rfl (f3:=za 12) P.r12).trans (zq9 (w:=5) (r:=[]) (by decide) (Qh e).2 (by simp) (by simp) (fun W=> by rw [zok (by simp) (by simp;lia) (by simp),hflat]) (by decide) (by intro ln hln;rw [List.mem_singleton] at hln;rw [hln];exact hok))
 have hph:Zm 5 [E5.map (phi s)]=[[61,qk (s / 16),qk (s % 16),46,61],[46,97]]:=by
  unfold Zm;rw [List.flatMap_cons,hD];rfl
 rw [hph] at eB
 have hq:qd (zu (jr e) [[61,qk (s / 16),qk (s % 16),46,61],[46,97]])=zu [13,10] [[61,qk (s / 16),qk (s % 16),46,61],[46,46,97]]:=by
  rw [zn0]
  ·rfl
  ·intro z hz
   simp only [List.mem_cons,ya,or_false] at hz
   rcases hz with rfl | rfl
   ·refine zrz ?_
    simp only [List.all_cons,List.all_nil,c1.1,c1.2.1,hnb1.2.2,hnb2.2.2,Bool.and_true,Bool.and_self]
   ·decide
 have hgl:(zu (jr e) [[61,qk (s / 16),qk (s % 16),46,61],[46,97]]).length≤1000:=by
  have:=Zw (jr e) [[61,qk (s / 16),qk (s % 16),46,61],[46,97]]
  have:=(Qh e).2
  simp at *;lia
 have eQ:=(Jr (bf:=bfN 1 []) (ids:=[8]) (F:=jo) eB).trans (zbn hgl)
 rw [hq] at eQ
 have eP:=Qd eQ (g:=dC (.str [32])) (b:=[32]) rfl (by
  have:=Zw [13,10] [[61,qk (s / 16),qk (s % 16),46,61],[46,46,97]]
  simp at *;lia)
 have hend:zu [13,10] [[61,qk (s / 16),qk (s % 16),46,61],[46,46,97]] ++ [32]=zu [13,10] ([[61,qk (s / 16),qk (s % 16),46,61]] ++ [[46,46,97,32]]):=rfl
 rw [hend] at eP
 have d1:=zhs hs (by decide) zun.1
 have d2':=zhs hs (by decide) zun.2
 have m1:[61,200,201,46,61].map (phi s)=[61,qk (s / 16),qk (s % 16),46,61]:=rfl
 have m2:[46,46,97,32].map (phi s)=[46,46,97,32]:=rfl
 rw [m1] at d1
 rw [m2] at d2'
 have g1:zgp [61,qk (s / 16),qk (s % 16),46,61]=([s,46],false):=by unfold zgp;rw [d1];rfl
 have g2:zgp [46,46,97,32]=([46,46,97],true):=by unfold zgp;rw [d2'];rfl
 have eD:=(zwc (bf:=bfN 2 []) (ids:=[13,12]) (F:=Jk) eP (f2:=za 64) P.r64).trans (zjb (G:=[s,46,46,46,97]) (Qh m).1 (Qh m).2 zgp (by simp) (.inl (by simp)) (by
  intro r hr
  simp only [List.cons_append,List.nil_append,List.mem_cons,ya,or_false] at hr
  rcases hr with rfl | rfl
  ·refine ⟨?_,by simp⟩
   simp only [List.all_cons,List.all_nil,c1.1,c1.2.1,hnb1.2.2,hnb2.2.2,Bool.and_true,Bool.and_self]
  ·exact ⟨by decide,by decide⟩) (by
  intro r hr
  simp only [List.cons_append,List.nil_append,List.mem_cons,ya,or_false] at hr
  rcases hr with rfl | rfl
  ·rw [d1,g1];exact ⟨rfl,by simp⟩
  ·rw [d2',g2];exact ⟨rfl,by decide⟩) (by
  unfold j7
  simp only [List.cons_append,List.nil_append,List.flatMap_cons,List.flatMap_nil,g1,g2];simp) (by simp))
 have eR:d2 zx (za 63) (dC (.str [46,46,46,97])) U W=some (.str [s,46,46,46,97]):=Qd (f:=za 63) P.r63 (g:=dC (.str [46,46,46,97])) (b:=[46,46,46,97]) rfl (by simp)
 exact Jd ((qb ((zp eD eR).trans (zhg _ _ _))).trans ((trB _ _).trans (by rw [beq_self_eq_true];rfl)))
end
section
theorem z3r {l:List Int} (hl:l.length≤63):Ret zup 0 (qw [21] [.lst (l.map .int)] Zy) [] (.bool true):=by
 generalize hU0:qw [21] [.lst (l.map .int)] Zy=U0
 have a21:U0 21=some (.lst (l.map .int)):=by rw [←hU0];rfl
 refine Ret.next (z42 0 U0 []) ?_
 obtain ⟨c0,c1,c2,e2⟩:=z43 (base:=0) (U:=upd U0 101 (.tup [.int 263,.int 17754,.int 3894277])) (W:=[]) hl a21 rfl
 refine Ret.next e2 ?_
 generalize hU2:upd (upd U0 101 (.tup [.int 263,.int 17754,.int 3894277])) 68 (.lst [.int c0,.int c1,.int c2])=U2
 have r68:U2 68=some (.lst [.int c0,.int c1,.int c2]):=by rw [←hU2];rfl
 clear hU2 e2 hU0 a21
 refine Ret.next (z44 0 U2 []) ?_
 refine Ret.next (z45 (c0:=c0) (c1:=c1) (c2:=c2) (U:=upd U2 99 (.lst (zgg.map Q7))) r68 rfl) ?_
 refine Ret.next (z46 0 _ []) ?_
 generalize hU5:upd (upd (upd U2 99 (.lst (zgg.map Q7))) 97 (.lst ((qf c0).map Q7))) 96 (.hdr ([]:Sto).length)=U5
 have r68:U5 68=some (.lst [.int c0,.int c1,.int c2]):=by rw [←hU5];exact r68
 have r97:U5 97=some (.lst ((qf c0).map Q7)):=by rw [←hU5];rfl
 have r96:U5 96=some (.hdr 0):=by rw [←hU5];rfl
 clear hU5
 refine bc fun J=> ?_
 obtain ⟨U6,W6,H,e6,g6,nok,hH,k6⟩:=z47 (U:=U5) (W:=[] ++ [[]]) (i:=0) r68 r97 r96 rfl
 refine J ?_
 refine Ret.next e6 ?_
 have r68:U6 68=some (.lst [.int c0,.int c1,.int c2]):=(k6 68 (by decide) (by decide) (by decide)).trans r68
 have r97:U6 97=some (.lst ((qf c0).map Q7)):=(k6 97 (by decide) (by decide) (by decide)).trans r97
 have r96:U6 96=some (.hdr 0):=(k6 96 (by decide) (by decide) (by decide)).trans r96
 clear k6 e6
 refine Ret.next (z48 r97 (zoi c0)) ?_
 refine Ret.next (z49 (U:=upd U6 73 (.lst (ze3 (qf c0)))) r96 g6 (by lia) nok) ?_
 refine Ret.next (z5a 0 _ W6) ?_
 refine Ret.next (z17 0 _ W6) ?_
 generalize hU10:upd (upd (upd (upd U6 73 (.lst (ze3 (qf c0)))) 86 (.dct [[97],[98],[99],[100]] [ja (qf c0) 97,ja (qf c0) 98,ja (qf c0) 99,ja (qf c0) 100])) 88 (.lst [.flt (J1 0),.flt (J1 1),.flt (J1 2),.flt (J1 3)])) 91 (.str [])=U10
 have r68:U10 68=some (.lst [.int c0,.int c1,.int c2]):=by rw [←hU10];exact r68
 have r73:U10 73=some (.lst (ze3 (qf c0))):=by rw [←hU10];rfl
 have r86:U10 86=some (.dct [[97],[98],[99],[100]] [ja (qf c0) 97,ja (qf c0) 98,ja (qf c0) 99,ja (qf c0) 100]):=by rw [←hU10];rfl
 have r88:U10 88=some (.lst [.flt (J1 0),.flt (J1 1),.flt (J1 2),.flt (J1 3)]):=by rw [←hU10];rfl
 have r91:U10 91=some (.str []):=by rw [←hU10];rfl
 clear hU10 r97 r96
 refine bc fun J=> ?_
 obtain ⟨U11,o,e11,ho,s91,k11⟩:=z18 (U:=U10) (W:=W6) r68 r91
 refine J ?_
 refine Ret.next e11 ?_
 have r68:U11 68=some (.lst [.int c0,.int c1,.int c2]):=(k11 68 (by decide) (by decide) (by decide)).trans r68
 have r73:=(k11 73 (by decide) (by decide) (by decide)).trans r73
 have r86:=(k11 86 (by decide) (by decide) (by decide)).trans r86
 have r88:=(k11 88 (by decide) (by decide) (by decide)).trans r88
 clear k11 e11 r91
 refine Ret.next (z19 r68) ?_
 refine Ret.next (z2a (c0:=c0) (c1:=c1) (c2:=c2) r68) ?_
 refine Ret.next (z2b (c0:=c0) (c1:=c1) (c2:=c2) r68) ?_
 refine Ret.next (z2c (c0:=c0) (c1:=c1) (c2:=c2) r68) ?_
 refine Ret.next (z2d (c0:=c0) (c1:=c1) (c2:=c2) r68) ?_
 refine Ret.next (z2e (c0:=c0) (c1:=c1) (c2:=c2) r68) ?_
 refine Ret.next (z2f (c0:=c0) (c1:=c1) (c2:=c2) r68) ?_
 have hst:c2 / 4608 % 64 < 64:=Nat.mod_lt _ (by decide)
 generalize hf:(fun x=> (c1 / 24).testBit (x - 97))=f
 have ht3:∀ k,c1 / 384 / 3 ^ k % 3 < 3:=fun k=> Nat.mod_lt _ (by decide)
 generalize htt:(fun k=> c1 / 384 / 3 ^ k % 3)=t
 have ht3:∀ k,t k < 3:=fun k=> by rw [←htt];exact ht3 k
 have hsh:Sh (128 + c2 % 128):=by unfold Sh;lia
 have hv:c2 / 128 % 4 < 4:=Nat.mod_lt _ (by decide)
 generalize hst':c2 / 4608 % 64=st at *
 generalize he':c2 / 512 % 3=e
 generalize hm':c2 / 1536 % 3=m
 generalize hv':c2 / 128 % 4=v at *
 generalize hs':128 + c2 % 128=s at *
 refine Ret.next (z2g (p:=za7 f) rfl) ?_
 refine Ret.next (zj ((Jr (f:=za 44) (a:= .int (st:Nat)) rfl).trans (zes hst W6)):L20 0 _ W6=_) ?_
 refine Ret.next (z2h 0 _ W6) ?_
 refine Ret.next (z2i 0 _ W6) ?_
 refine Ret.next (z2j 0 _ (W6 ++ [[]])) ?_
 generalize hUu:upd _ 72 (.mref (W6 ++ [[]]).length)=U
 have S:St U (W6 ++ [[]] ++ [[]]) (qf c0) f st e o W6.length (W6 ++ [[]]).length pr0 [] 0:=by
  refine ⟨?_, ?_, ?_, ?_, ?_, ?_, ?_, ?_, ?_, ?_, ?_, ?_,by decide, ?_, ?_⟩
  ·rw [←hUu];rfl
  ·rw [←hUu];rfl
  ·rw [←hUu];rfl
  ·rw [←hUu];rfl
  ·rw [←hUu]
   have:(fun x=> f x ^^ par (qf c0) pr0 x)=f:=by funext x;rw [z0q,Bool.xor_false]
   rw [this];rfl
  ·rw [←hUu];rfl
  ·rw [←hUu];exact r73
  ·rw [←hUu];exact r86
  ·rw [←hUu];exact r88
  ·rw [←hUu];exact s91
  ·rw [←hUu,z5l,Nat.mul_zero,Nat.add_zero,Nat.mod_eq_of_lt hst];rfl
  ·rw [←hUu];rfl
  ·simp
  ·simp
 have q63:U 63=some (.str [s]):=by rw [←hUu];rfl
 have q64:U 64=some (.str (jr m)):=by rw [←hUu];rfl
 have q67:U 67=some (.int (6 + v:Nat)):=by rw [←hUu];rfl
 have q68:U 68=some (.lst [.int c0,.int c1,.int c2]):=by rw [←hUu];exact r68
 have q69:U 69=some (zh6 t):=by rw [←hUu];rfl
 clear hUu r68 r73 r86 r88 s91
 refine bc fun J=> ?_
 obtain ⟨U24,W24,kd,e24,S24,k24⟩:=z2k hst ho (by simp) S
 refine J ?_
 refine Ret.next e24 ?_
 have q63:=(k24 63 (by decide)).trans q63
 have q64:=(k24 64 (by decide)).trans q64
 have q67:=(k24 67 (by decide)).trans q67
 have q68:=(k24 68 (by decide)).trans q68
 have q69:=(k24 69 (by decide)).trans q69
 refine Ret.next (z2l hst S24 (by rw [xc,zr5];rfl)) ?_
 have hent:(prs o GR pr0).map (hdE (qf c0))=(zap o).map (ent (zz c0)):=by
  rw [zpj]
  exact List.map_congr_left fun m hm=> zzl c0 (zwx ho hm)
 have B:Tb U24 W24 c0 (zap o) W6.length (W6 ++ [[]]).length:=⟨S24.r60,S24.r72,S24.r73,by rw [←hent];exact S24.t,by rw [←hent];exact S24.d,zhe ho⟩
 have q70:U24 70=some (za7 f):=by
  have:=S24.r70
  have h:(fun x=> f x ^^ par (qf c0) pr0 x)=f:=by funext x;rw [z0q,Bool.xor_false]
  rwa [h] at this
 have q12:=S24.r12
 clear S S24 k24 e24
 refine Ret.next (z2m B) ?_
 obtain ⟨U27,e27,k27⟩:=z2n (base:=0) (U:=upd U24 77 (.lst ((J3 c0 (zap o)).map .str))) (B.upd (by decide)) rfl
 refine Ret.next e27 ?_
 have kk:∀ j,j≠75→j≠76→j≠78→j≠77→U27 j=U24 j:=fun j a b c d=> (k27 j a b c).trans (qz d)
 have B:Tb U27 W24 c0 (zap o) W6.length (W6 ++ [[]]).length:=⟨(kk 60 (by decide) (by decide) (by decide) (by decide)).trans B.r60,(kk 72 (by decide) (by decide) (by decide) (by decide)).trans B.r72,(kk 73 (by decide) (by decide) (by decide) (by decide)).trans B.r73,B.t,B.d,B.pm⟩
 have q12:=(kk 12 (by decide) (by decide) (by decide) (by decide)).trans q12
 have q63:=(kk 63 (by decide) (by decide) (by decide) (by decide)).trans q63
 have q64:=(kk 64 (by decide) (by decide) (by decide) (by decide)).trans q64
 have q67:=(kk 67 (by decide) (by decide) (by decide) (by decide)).trans q67
 have q68:=(kk 68 (by decide) (by decide) (by decide) (by decide)).trans q68
 have q69:=(kk 69 (by decide) (by decide) (by decide) (by decide)).trans q69
 have q70:=(kk 70 (by decide) (by decide) (by decide) (by decide)).trans q70
 clear kk k27 e27
 refine Ret.next (z2o B) ?_
 have B1:=B.upd (i:=61) (p:= .str (zw (Ze c0))) (by decide)
 refine Ret.next (z2p B1 rfl) ?_
 refine Ret.next (z2q (U:=upd U27 61 (.str (zw (Ze c0)))) (s:=s) (t:=t) (f:=f) (c0:=c0) (c1:=c1) (c2:=c2) q63 q68 q69 q70) ?_
 have P0:Pg (upd (upd U27 61 (.str (zw (Ze c0)))) 66 (.lst ((pgs s (c2 / 294912).testBit f t).map .str))) s v e m (c2 / 294912).testBit f t:=⟨hsh,hv,ht3,q63,q67,q12,q64⟩
 refine Ret.next (z2r P0 rfl) ?_
 generalize hU31:upd (upd (upd U27 61 (.str (zw (Ze c0)))) 66 (.lst ((pgs s (c2 / 294912).testBit f t).map .str))) 65 (.lst ((exs s (c2 / 294912).testBit f t).map .str))=U31
 have P1:Pg U31 s v e m (c2 / 294912).testBit f t:=by rw [←hU31];exact ⟨hsh,hv,ht3,q63,q67,q12,q64⟩
 have B2:Tb U31 W24 c0 (zap o) W6.length (W6 ++ [[]]).length:=by rw [←hU31];exact (B1.upd (by decide)).upd (by decide)
 have p61:U31 61=some (.str (zw (Ze c0))):=by rw [←hU31];rfl
 refine Ret.next (z2s P1 (by rw [←hU31];rfl) (by rw [←hU31];rfl)) ?_
 clear hU31
 refine Ret.next (z2t P1) ?_
 refine Ret.next (z2u B2) ?_
 have B3:=(B2.upd (i:=56) (p:= .int (Ja (R16.map (qt (zz c0)))).1) (by decide)).upd (i:=57) (p:= .int (Ja (R16.map (qt (zz c0)))).2) (by decide)
 refine Ret.next (z2v B3 rfl rfl) ?_
 refine Ret.next (z2w B3 p61) ?_
 exact Ret.seq ⟨_,_,z2x (T:=c0) rfl rfl rfl rfl⟩
theorem zxp {P:Params}{h:Heap}{a:Addr}{xs:List WData}{items:Array Value} (Wu:Well P h (.ref a) (.list xs)) (L:h.IsList a items):h.PlainList a items:=by
 cases Wu with
 | list e _=>
  obtain ⟨o,e1,_,n,e2⟩:=L
  rw [e] at e1
  cases e1
  injection e2 with e3 e4
  rw [←e3]
  exact ⟨_,e⟩
theorem znd {g:GC}{ad:AD}{h:Heap}:∀ {vs:List Value}{ns:List Int},IntsAre vs ns→zh g ad h (ns.map .int) vs
 | _,_,.nil=> .nil
 | _,_,.cons n t r=> .cons Jy (znd r)
theorem zzv {l:List Int} (hl:l.length≤63):∃ W',fnP (bfN 1 []) [21] zup 0 [] [.lst (l.map .int)]=some (.bool true,W'):=by
 obtain ⟨U',W',e⟩:=z3r hl
 refine ⟨W', ?_⟩
 unfold fnP
 rw [show bfN 1 [] [.lst (l.map .int)]=some [.lst (l.map .int)] from rfl]
 dsimp only
 rw [e];rfl
set_option tactic.hygienic true in
theorem tryit:PySem.Challenge.rw_wv0056_01.Holds:=Mh.head (by w_witness2) (by
 intro w s₀ s₁ mg mb G Y fa o pm cd doc dV kV ho hd hcd hD hmg hg args vals as hpre hlay hrd hwl hlo
 have KX:=kIn_of (e:=Mh.kAs_eq) Y
 refine Ground.open G ?_
 intro T B D TE TW
 wrow_args hpre hlay hrd hwl hlo
 rename_i ns hs1 hlay1 hL1 hr1 hl2 wa wb wc vs wd hL ra w1 r0 hI hr2 hc1 hc2
 have hmap:=mg_of (n:="law") (v:= .ref 292) KX T.g (by kernel_rfl)
 have hfa:fa=292:=by
  have:=hmg.symm.trans hmap
  injection this with this
  injection this
 subst hfa
 obtain ⟨W',hp⟩:=zzv (l:=ns) (by omega)
 have Wu:Wd (gOf (_,_,w,mg,mb)) ⟨[],[]⟩ [] s₁.heap:=⟨KX,topRead_of T,⟨rfl,List.nodup_nil,fun b m=> absurd m ya,fun b m=> absurd m ya,fun i a l e V=> by cases e⟩,fun a V V=> AD.no_nil a,AD.no_nil _,AD.no_nil _,AD.no_nil _⟩
 obtain ⟨XF,BF⟩:=z3i (x:=(_,_,w,mg,mb)) (k:=0)
 refine zld XF zdh BF (ad:=⟨[],[]⟩) (W:=[]) (base:=0) (ps:=[.lst (ns.map .int)]) ⟨rfl,by decide,by decide⟩ Wu (zh.cons ?_ .nil) hp ?_
 ·exact ⟨wc,vs.toArray,rfl,AD.no_nil _,zxp w1 hL,znd hI⟩
 ·intro v h' tk ad' n r w'
  subst r
  exact GoodW.toG ⟨.inl ⟨_,.bool true,[],rfl,fun V=> rfl,ReadsW.bool _,(by first | kernel_rfl | (with_unfolding_all rfl)),fun V=> ⟨List.nodup_nil,fun a ha=> absurd ha ya⟩⟩,fun b o e=> n.keep b o (fun i ei=> by cases ei) e,rfl,hg⟩)
end
end Mine
end
theorem PySem.Challenge.cw_wv0056_01_holds : PySem.Challenge.rw_wv0056_01.Holds :=
 Mine.tryit
