import PyProof.Rows.All
import Wide.All
import OpenK.AllK
import Wide.FinOn
import PySem.Challenge.RW_pg0165_01
open PySem PySem.W PyProof.Rows
set_option Elab.async false
set_option linter.all false
set_option linter.all false
set_option maxRecDepth 100000
set_option maxHeartbeats 8000000
namespace Mi
noncomputable def kS(s:Str)(t:Nat):Value:= .str s t
noncomputable def kE(P:Params)(k:Str)(t:Nat)(v:Value):PySem.DictEntry:={hash:=PyData.keyHash P k,key:= .str k t,val:=v}
noncomputable def kD(es:List PySem.DictEntry)(n:Nat):Obj:={cls:= .type "dict",data:= .dict es.toArray n}
noncomputable def kC(vs:List Value):Obj:={cls:= .type "code",data:= .fields vs.toArray}
noncomputable def kFn(s:Option Stmt)(q:Str)(pm:Value)(c:Addr):Obj:=match s with
  | some (.FunctionDef n ps b _ _ _ sc _ _ _)=>{cls:= .type "function",data:= .func {name:=n,qualname:=q,params:=ps,body:= .stmts b,scope:=sc,globals:=3,closure:= [],defaults:= .none,kwdefaults:= .none,pyModule:=pm,code:= .ref c}}
  | _=>default
noncomputable def kB:List Stmt:=PySem.Challenge.pw_pg0165_01.main.body
noncomputable def kF(i:Nat)(q:Str)(pm:Value)(c:Addr):Obj:=kFn kB[i]? q pm c
noncomputable def kM(i j:Nat)(q:Str)(pm:Value)(c:Addr):Obj:=kFn (match kB[i]? with
  | some (.ClassDef (body:=b) ..)=>b[j]?
  | _=>none) q pm c
noncomputable def hd1.heap_39(P:Params):Frag:= [
  (3,kD [kE P "__name__" 165 (kS "law_pg0165_01" 327),
    kE P "__doc__" 166 .none,
    kE P "__package__" 167 .none,
    kE P "__loader__" 168 (.builtin "__main__.__loader__#opaque"),
    kE P "__spec__" 169 .none,
    kE P "__annotations__" 170 (.ref 6),
    kE P "__builtins__" 171 (.ref 4),
    kE P "__file__" 173 (kS "/claim/cut.py" 172),
    kE P "__cached__" 174 .none,
    kE P "heappush" 196 (.ref 21),
    kE P "heappop" 205 (.ref 28),
    kE P "_siftdown" 217 (.ref 35),
    kE P "_siftup" 230 (.ref 42),
    kE P "_netrclex" 290 (.ref 80),
    kE P "_MAX_STRING_SIZE" 294 (.int 40 293),
    kE P "_MOVE_COST" 296 (.int 2 295),
    kE P "_CASE_COST" 298 (.int 1 297),
    kE P "_substitution_cost" 306 (.ref 91),
    kE P "_levenshtein_distance" 326 (.ref 98),
    kE P "_law_lexer" 339 (.ref 105),
    kE P "_law_word" 348 (.ref 112),
    kE P "_law_dressed" 354 (.ref 117),
    kE P "_law_read" 363 (.ref 124),
    kE P "_law_leashes" 379 (.ref 131),
    kE P "_law_roped" 396 (.ref 138),
    kE P "_law_sub" 404 (.ref 145),
    kE P "_law_price" 410 (.ref 150),
    kE P "_law_all_ways" 416 (.ref 155),
    kE P "_law_free" 430 (.ref 162),
    kE P "law" 436 (.ref 167)] 30),
  (20,kC [(kS "heappush" 189),(kS "heappush" 190),(kS "/claim/cut.py" 191),(.int 2 0),(.int 2 0),(.int 0 0),(.int 0 0),(.int 3 0),(.ref 15),(.bool true),(.int 181 0),(.ref 16), .none,(.ref 17),(.ref 18),(.ref 19),(.int 194 0),(.int 2 0),(kS "/claim/cut.py" 195)]),
  (21,kF 1 "heappush" (kS "cpy313.heapq" 187) 20),
  (27,kC [(kS "heappop" 197),(kS "heappop" 198),(kS "/claim/cut.py" 199),(.int 5 0),(.int 1 0),(.int 0 0),(.int 0 0),(.int 3 0),(.ref 22),(.bool true),(.int 181 0),(.ref 23), .none,(.ref 24),(.ref 25),(.ref 26),(.int 203 0),(.int 5 0),(kS "/claim/cut.py" 204)]),
  (28,kF 2 "heappop" (kS "cpy313.heapq" 187) 27),
  (34,kC [(kS "_siftdown" 206),(kS "_siftdown" 207),(kS "/claim/cut.py" 208),(.int 13 0),(.int 3 0),(.int 0 0),(.int 0 0),(.int 3 0),(.ref 29),(.bool true),(.int 181 0),(.ref 30), .none,(.ref 31),(.ref 32),(.ref 33),(.int 215 0),(.int 13 0),(kS "/claim/cut.py" 216)]),
  (35,kF 3 "_siftdown" (kS "cpy313.heapq" 187) 34),
  (41,kC [(kS "_siftup" 218),(kS "_siftup" 219),(kS "/claim/cut.py" 220),(.int 24 0),(.int 2 0),(.int 0 0),(.int 0 0),(.int 3 0),(.ref 36),(.bool true),(.int 181 0),(.ref 37), .none,(.ref 38),(.ref 39),(.ref 40),(.int 228 0),(.int 24 0),(kS "/claim/cut.py" 229)]),
  (42,kF 4 "_siftup" (kS "cpy313.heapq" 187) 41),
  (55,kC [(kS "__init__" 245),(kS "_netrclex.__init__" 246),(kS "/claim/cut.py" 247),(.int 41 0),(.int 2 0),(.int 0 0),(.int 0 0),(.int 3 0),(.ref 50),(.bool true),(.int 181 0),(.ref 51), .none,(.ref 52),(.ref 53),(.ref 54),(.int 250 0),(.int 41 0),(kS "/claim/cut.py" 251)]),
  (56,kM 6 0 "_netrclex.__init__" (kS "cpy313.netrc" 231) 55),
  (62,kC [(kS "_read_char" 253),(kS "_netrclex._read_char" 254),(kS "/claim/cut.py" 255),(.int 47 0),(.int 1 0),(.int 0 0),(.int 0 0),(.int 3 0),(.ref 57),(.bool true),(.int 181 0),(.ref 58), .none,(.ref 59),(.ref 60),(.ref 61),(.int 258 0),(.int 47 0),(kS "/claim/cut.py" 259)]),
  (63,kM 6 1 "_netrclex._read_char" (kS "cpy313.netrc" 231) 62),
  (69,kC [(kS "get_token" 261),(kS "_netrclex.get_token" 262),(kS "/claim/cut.py" 263),(.int 53 0),(.int 1 0),(.int 0 0),(.int 0 0),(.int 3 0),(.ref 64),(.bool true),(.int 181 0),(.ref 65), .none,(.ref 66),(.ref 67),(.ref 68),(.int 268 0),(.int 53 0),(kS "/claim/cut.py" 269)]),
  (70,kM 6 2 "_netrclex.get_token" (kS "cpy313.netrc" 231) 69),
  (76,kC [(kS "push_token" 271),(kS "_netrclex.push_token" 272),(kS "/claim/cut.py" 273),(.int 80 0),(.int 2 0),(.int 0 0),(.int 0 0),(.int 3 0),(.ref 71),(.bool true),(.int 181 0),(.ref 72), .none,(.ref 73),(.ref 74),(.ref 75),(.int 276 0),(.int 80 0),(kS "/claim/cut.py" 277)]),
  (77,kM 6 3 "_netrclex.push_token" (kS "cpy313.netrc" 231) 76),
  (79,kD [kE P "__module__" 240 (kS "cpy313.netrc" 231),
    kE P "__firstlineno__" 244 (.int 39 243),
    kE P "__init__" 252 (.ref 56),
    kE P "_read_char" 260 (.ref 63),
    kE P "get_token" 270 (.ref 70),
    kE P "push_token" 278 (.ref 77),
    kE P "__static_attributes__" 283 (.ref 78),
    kE P "__dict__" 285 (.ref 81),
    kE P "__weakref__" 287 (.ref 82),
    kE P "__doc__" 288 .none] 4),
  (80,{cls:=Value.type "type",data:=Data.cls {name:=Str.ofString "_netrclex",bases:= [Value.type "object"],mro:= [Value.ref 80,Value.type "object"],ns:=79,qualname:=Str.ofString "_netrclex"},slots:= #[none,none,some (Value.str (Str.ofString "_netrclex") 233),some (Value.str (Str.ofString "_netrclex") 241),some (Value.builtin "object.__new__"),some (Value.bool true)]}),
  (90,kC [(kS "_substitution_cost" 299),(kS "_substitution_cost" 300),(kS "/claim/cut.py" 301),(.int 86 0),(.int 2 0),(.int 0 0),(.int 0 0),(.int 3 0),(.ref 85),(.bool true),(.int 181 0),(.ref 86), .none,(.ref 87),(.ref 88),(.ref 89),(.int 304 0),(.int 86 0),(kS "/claim/cut.py" 305)]),
  (91,kF 11 "_substitution_cost" (kS "cpy313.traceback" 291) 90),
  (97,kC [(kS "_levenshtein_distance" 307),(kS "_levenshtein_distance" 308),(kS "/claim/cut.py" 309),(.int 92 0),(.int 3 0),(.int 0 0),(.int 0 0),(.int 3 0),(.ref 92),(.bool true),(.int 181 0),(.ref 93), .none,(.ref 94),(.ref 95),(.ref 96),(.int 324 0),(.int 92 0),(kS "/claim/cut.py" 325)]),
  (98,kF 12 "_levenshtein_distance" (kS "cpy313.traceback" 291) 97),
  (104,kC [(kS "_law_lexer" 329),(kS "_law_lexer" 330),(kS "/claim/cut.py" 331),(.int 131 0),(.int 1 0),(.int 0 0),(.int 0 0),(.int 3 0),(.ref 99),(.bool true),(.int 181 0),(.ref 100), .none,(.ref 101),(.ref 102),(.ref 103),(.int 337 0),(.int 131 0),(kS "/claim/cut.py" 338)]),
  (105,kF 14 "_law_lexer" (kS "law_pg0165_01" 327) 104),
  (111,kC [(kS "_law_word" 340),(kS "_law_word" 341),(kS "/claim/cut.py" 342),(.int 141 0),(.int 1 0),(.int 0 0),(.int 0 0),(.int 3 0),(.ref 106),(.bool true),(.int 181 0),(.ref 107), .none,(.ref 108),(.ref 109),(.ref 110),(.int 346 0),(.int 141 0),(kS "/claim/cut.py" 347)]),
  (112,kF 15 "_law_word" (kS "law_pg0165_01" 327) 111),
  (116,kC [(kS "_law_dressed" 349),(kS "_law_dressed" 350),(kS "/claim/cut.py" 351),(.int 145 0),(.int 2 0),(.int 0 0),(.int 0 0),(.int 3 0),(.ref 113),(.bool true),(.int 181 0),(.ref 114), .none, .none, .none,(.ref 115),(.int 352 0),(.int 145 0),(kS "/claim/cut.py" 353)]),
  (117,kF 16 "_law_dressed" (kS "law_pg0165_01" 327) 116),
  (123,kC [(kS "_law_read" 355),(kS "_law_read" 356),(kS "/claim/cut.py" 357),(.int 150 0),(.int 1 0),(.int 0 0),(.int 0 0),(.int 3 0),(.ref 118),(.bool true),(.int 181 0),(.ref 119), .none,(.ref 120),(.ref 121),(.ref 122),(.int 361 0),(.int 150 0),(kS "/claim/cut.py" 362)]),
  (124,kF 17 "_law_read" (kS "law_pg0165_01" 327) 123),
  (130,kC [(kS "_law_leashes" 364),(kS "_law_leashes" 365),(kS "/claim/cut.py" 366),(.int 157 0),(.int 2 0),(.int 0 0),(.int 0 0),(.int 3 0),(.ref 125),(.bool true),(.int 181 0),(.ref 126), .none,(.ref 127),(.ref 128),(.ref 129),(.int 377 0),(.int 157 0),(kS "/claim/cut.py" 378)]),
  (131,kF 18 "_law_leashes" (kS "law_pg0165_01" 327) 130),
  (137,kC [(kS "_law_roped" 380),(kS "_law_roped" 381),(kS "/claim/cut.py" 382),(.int 170 0),(.int 4 0),(.int 0 0),(.int 0 0),(.int 3 0),(.ref 132),(.bool true),(.int 181 0),(.ref 133), .none,(.ref 134),(.ref 135),(.ref 136),(.int 394 0),(.int 170 0),(kS "/claim/cut.py" 395)]),
  (138,kF 19 "_law_roped" (kS "law_pg0165_01" 327) 137),
  (144,kC [(kS "_law_sub" 397),(kS "_law_sub" 398),(kS "/claim/cut.py" 399),(.int 187 0),(.int 2 0),(.int 0 0),(.int 0 0),(.int 3 0),(.ref 139),(.bool true),(.int 181 0),(.ref 140), .none,(.ref 141),(.ref 142),(.ref 143),(.int 402 0),(.int 187 0),(kS "/claim/cut.py" 403)]),
  (145,kF 20 "_law_sub" (kS "law_pg0165_01" 327) 144),
  (149,kC [(kS "_law_price" 405),(kS "_law_price" 406),(kS "/claim/cut.py" 407),(.int 189 0),(.int 2 0),(.int 0 0),(.int 0 0),(.int 3 0),(.ref 146),(.bool true),(.int 181 0),(.ref 147), .none, .none, .none,(.ref 148),(.int 408 0),(.int 189 0),(kS "/claim/cut.py" 409)]),
  (150,kF 21 "_law_price" (kS "law_pg0165_01" 327) 149),
  (154,kC [(kS "_law_all_ways" 411),(kS "_law_all_ways" 412),(kS "/claim/cut.py" 413),(.int 195 0),(.int 1 0),(.int 0 0),(.int 0 0),(.int 3 0),(.ref 151),(.bool true),(.int 181 0),(.ref 152), .none, .none, .none,(.ref 153),(.int 414 0),(.int 195 0),(kS "/claim/cut.py" 415)]),
  (155,kF 22 "_law_all_ways" (kS "law_pg0165_01" 327) 154),
  (161,kC [(kS "_law_free" 417),(kS "_law_free" 418),(kS "/claim/cut.py" 419),(.int 209 0),(.int 3 0),(.int 0 0),(.int 0 0),(.int 3 0),(.ref 156),(.bool true),(.int 181 0),(.ref 157), .none,(.ref 158),(.ref 159),(.ref 160),(.int 428 0),(.int 209 0),(kS "/claim/cut.py" 429)]),
  (162,kF 23 "_law_free" (kS "law_pg0165_01" 327) 161),
  (166,kC [(kS "law" 431),(kS "law" 432),(kS "/claim/cut.py" 433),(.int 218 0),(.int 1 0),(.int 0 0),(.int 0 0),(.int 3 0),(.ref 163),(.bool true),(.int 181 0),(.ref 164), .none, .none, .none,(.ref 165),(.int 434 0),(.int 218 0),(kS "/claim/cut.py" 435)]),
  (167,kF 24 "law" (kS "law_pg0165_01" 327) 166)]
noncomputable def hd1.view_39:Program:={PySem.Challenge.pw_pg0165_01 with main:={PySem.Challenge.pw_pg0165_01.main with body:= [1,2,3,4,6,8,9,10,11,12,14,15,16,17,18,19,20,21,22,23,24].filterMap (kB[·]?)}}
noncomputable def kLaw:DefRec:=match (kB[24]?:Option Stmt) with
  | some (.FunctionDef n ps b _ _ _ sc _ _ ps_)=>{name:=n,params:=ps,body:=b,scope:=sc,pos:=ps_}
  | _=>⟨"",default, [],default,default⟩
theorem kAs(P:Params): [3,20,21,27,28,34,35,41,42,55,56,62,63,69,70,76,77,79,80,90,91,97,98,104,105,111,112,116,117,123,124,130,131,137,138,144,145,149,150,154,155,161,162,166,167]=(hd1.heap_39 P).map (·.1):=by kernel_rfl
noncomputable abbrev kH:Hook:=kmHook hd1.heap_39 [3,20,21,27,28,34,35,41,42,55,56,62,63,69,70,76,77,79,80,90,91,97,98,104,105,111,112,116,117,123,124,130,131,137,138,144,145,149,150,154,155,161,162,166,167] kAs [100]
noncomputable abbrev kR:RowW:=PySem.Challenge.rw_pg0165_01.row.toRowW
set_option maxHeartbeats 0
theorem kSaid:PySem.Challenge.rw_pg0165_01.wellSaid=true:=by kernel_rfl
theorem hd1(call:WalkO hd1.view_39 [] (XL hd1.view_39 []) (Hook.says kH) kR kLaw [] fun f vs=>PySem.call f vs):PySem.Challenge.rw_pg0165_01.Holds:=by
  w_on
  refine holds_law kSaid fun said=>?_
  refine holds_open (q:=hd1.view_39) (loose:= []) (Xt:=fun s=>xlAt hd1.view_39 [] s&&recOk kR.records s) (XP:=XL hd1.view_39 []) (Yf:=Hook.obs kH) (Ya:=Hook.val kH) (YP:=Hook.says kH) (d:=kLaw) (kwd:= []) (N:=2000) ?hl (Hook.of kH) (Hook.keeps kH) (fun s e=>xl_of s (Bool.and_eq_true_iff.mp e).1) XL.keeps (by kernel_rfl) (by kernel_rfl) (by kernel_rfl) (fun s e=>recFacts_of (Bool.and_eq_true_iff.mp e).2) (by kernel_rfl) said (by decide +kernel) ⟨rfl,rfl,rfl,rfl,rfl,by decide +kernel⟩ ?hw call
  case hl=>
    intro w
    kernel_rfl
  case hw=>w_witness2
end Mi
namespace Mi
theorem xe02{P0 P1:Prop}{C:Prop}(h:P0∧P1)(k:P0→P1→C):C:=k h.1 h.2
theorem xe03{P0 P1 P2:Prop}{C:Prop}(h:P0∧P1∧P2)(k:P0→P1→P2→C):C:=k h.1 h.2.1 h.2.2
theorem xe11{α0:Sort _}{P0:α0→Prop}{C:Prop}(h:∃a,P0 a)(k:∀a,P0 a→C):C:=h.elim fun a h=>k a h
theorem xe12{α0:Sort _}{P0 P1:α0→Prop}{C:Prop}(h:∃a,P0 a∧P1 a)(k:∀a,P0 a→P1 a→C):C:=h.elim fun a h=>k a h.1 h.2
theorem xe13{α0:Sort _}{P0 P1 P2:α0→Prop}{C:Prop}(h:∃a,P0 a∧P1 a∧P2 a)(k:∀a,P0 a→P1 a→P2 a→C):C:=h.elim fun a h=>k a h.1 h.2.1 h.2.2
theorem xe14{α0:Sort _}{P0 P1 P2 P3:α0→Prop}{C:Prop}(h:∃a,P0 a∧P1 a∧P2 a∧P3 a)(k:∀a,P0 a→P1 a→P2 a→P3 a→C):C:=h.elim fun a h=>k a h.1 h.2.1 h.2.2.1 h.2.2.2
theorem xe15{α0:Sort _}{P0 P1 P2 P3 P4:α0→Prop}{C:Prop}(h:∃a,P0 a∧P1 a∧P2 a∧P3 a∧P4 a)(k:∀a,P0 a→P1 a→P2 a→P3 a→P4 a→C):C:=h.elim fun a h=>k a h.1 h.2.1 h.2.2.1 h.2.2.2.1 h.2.2.2.2
theorem xe21{α0:Sort _}{α1:Sort _}{P0:α0→α1→Prop}{C:Prop}(h:∃a b,P0 a b)(k:∀a b,P0 a b→C):C:=h.elim fun a h=>h.elim fun b h=>k a b h
theorem xe22{α0:Sort _}{α1:Sort _}{P0 P1:α0→α1→Prop}{C:Prop}(h:∃a b,P0 a b∧P1 a b)(k:∀a b,P0 a b→P1 a b→C):C:=h.elim fun a h=>h.elim fun b h=>k a b h.1 h.2
theorem xe23{α0:Sort _}{α1:Sort _}{P0 P1 P2:α0→α1→Prop}{C:Prop}(h:∃a b,P0 a b∧P1 a b∧P2 a b)(k:∀a b,P0 a b→P1 a b→P2 a b→C):C:=h.elim fun a h=>h.elim fun b h=>k a b h.1 h.2.1 h.2.2
theorem xe24{α0:Sort _}{α1:Sort _}{P0 P1 P2 P3:α0→α1→Prop}{C:Prop}(h:∃a b,P0 a b∧P1 a b∧P2 a b∧P3 a b)(k:∀a b,P0 a b→P1 a b→P2 a b→P3 a b→C):C:=h.elim fun a h=>h.elim fun b h=>k a b h.1 h.2.1 h.2.2.1 h.2.2.2
theorem xe25{α0:Sort _}{α1:Sort _}{P0 P1 P2 P3 P4:α0→α1→Prop}{C:Prop}(h:∃a b,P0 a b∧P1 a b∧P2 a b∧P3 a b∧P4 a b)(k:∀a b,P0 a b→P1 a b→P2 a b→P3 a b→P4 a b→C):C:=h.elim fun a h=>h.elim fun b h=>k a b h.1 h.2.1 h.2.2.1 h.2.2.2.1 h.2.2.2.2
theorem xe26{α0:Sort _}{α1:Sort _}{P0 P1 P2 P3 P4 P5:α0→α1→Prop}{C:Prop}(h:∃a b,P0 a b∧P1 a b∧P2 a b∧P3 a b∧P4 a b∧P5 a b)(k:∀a b,P0 a b→P1 a b→P2 a b→P3 a b→P4 a b→P5 a b→C):C:=h.elim fun a h=>h.elim fun b h=>k a b h.1 h.2.1 h.2.2.1 h.2.2.2.1 h.2.2.2.2.1 h.2.2.2.2.2
theorem xe27{α0:Sort _}{α1:Sort _}{P0 P1 P2 P3 P4 P5 P6:α0→α1→Prop}{C:Prop}(h:∃a b,P0 a b∧P1 a b∧P2 a b∧P3 a b∧P4 a b∧P5 a b∧P6 a b)(k:∀a b,P0 a b→P1 a b→P2 a b→P3 a b→P4 a b→P5 a b→P6 a b→C):C:=h.elim fun a h=>h.elim fun b h=>k a b h.1 h.2.1 h.2.2.1 h.2.2.2.1 h.2.2.2.2.1 h.2.2.2.2.2.1 h.2.2.2.2.2.2
theorem xe31{α0:Sort _}{α1:Sort _}{α2:Sort _}{P0:α0→α1→α2→Prop}{C:Prop}(h:∃a b c,P0 a b c)(k:∀a b c,P0 a b c→C):C:=h.elim fun a h=>h.elim fun b h=>h.elim fun c h=>k a b c h
theorem xe32{α0:Sort _}{α1:Sort _}{α2:Sort _}{P0 P1:α0→α1→α2→Prop}{C:Prop}(h:∃a b c,P0 a b c∧P1 a b c)(k:∀a b c,P0 a b c→P1 a b c→C):C:=h.elim fun a h=>h.elim fun b h=>h.elim fun c h=>k a b c h.1 h.2
theorem xe33{α0:Sort _}{α1:Sort _}{α2:Sort _}{P0 P1 P2:α0→α1→α2→Prop}{C:Prop}(h:∃a b c,P0 a b c∧P1 a b c∧P2 a b c)(k:∀a b c,P0 a b c→P1 a b c→P2 a b c→C):C:=h.elim fun a h=>h.elim fun b h=>h.elim fun c h=>k a b c h.1 h.2.1 h.2.2
theorem xe34{α0:Sort _}{α1:Sort _}{α2:Sort _}{P0 P1 P2 P3:α0→α1→α2→Prop}{C:Prop}(h:∃a b c,P0 a b c∧P1 a b c∧P2 a b c∧P3 a b c)(k:∀a b c,P0 a b c→P1 a b c→P2 a b c→P3 a b c→C):C:=h.elim fun a h=>h.elim fun b h=>h.elim fun c h=>k a b c h.1 h.2.1 h.2.2.1 h.2.2.2
theorem xe35{α0:Sort _}{α1:Sort _}{α2:Sort _}{P0 P1 P2 P3 P4:α0→α1→α2→Prop}{C:Prop}(h:∃a b c,P0 a b c∧P1 a b c∧P2 a b c∧P3 a b c∧P4 a b c)(k:∀a b c,P0 a b c→P1 a b c→P2 a b c→P3 a b c→P4 a b c→C):C:=h.elim fun a h=>h.elim fun b h=>h.elim fun c h=>k a b c h.1 h.2.1 h.2.2.1 h.2.2.2.1 h.2.2.2.2
theorem xe37{α0:Sort _}{α1:Sort _}{α2:Sort _}{P0 P1 P2 P3 P4 P5 P6:α0→α1→α2→Prop}{C:Prop}(h:∃a b c,P0 a b c∧P1 a b c∧P2 a b c∧P3 a b c∧P4 a b c∧P5 a b c∧P6 a b c)(k:∀a b c,P0 a b c→P1 a b c→P2 a b c→P3 a b c→P4 a b c→P5 a b c→P6 a b c→C):C:=h.elim fun a h=>h.elim fun b h=>h.elim fun c h=>k a b c h.1 h.2.1 h.2.2.1 h.2.2.2.1 h.2.2.2.2.1 h.2.2.2.2.2.1 h.2.2.2.2.2.2
theorem xe38{α0:Sort _}{α1:Sort _}{α2:Sort _}{P0 P1 P2 P3 P4 P5 P6 P7:α0→α1→α2→Prop}{C:Prop}(h:∃a b c,P0 a b c∧P1 a b c∧P2 a b c∧P3 a b c∧P4 a b c∧P5 a b c∧P6 a b c∧P7 a b c)(k:∀a b c,P0 a b c→P1 a b c→P2 a b c→P3 a b c→P4 a b c→P5 a b c→P6 a b c→P7 a b c→C):C:=h.elim fun a h=>h.elim fun b h=>h.elim fun c h=>k a b c h.1 h.2.1 h.2.2.1 h.2.2.2.1 h.2.2.2.2.1 h.2.2.2.2.2.1 h.2.2.2.2.2.2.1 h.2.2.2.2.2.2.2
theorem xe41{α0:Sort _}{α1:Sort _}{α2:Sort _}{α3:Sort _}{P0:α0→α1→α2→α3→Prop}{C:Prop}(h:∃a b c d,P0 a b c d)(k:∀a b c d,P0 a b c d→C):C:=h.elim fun a h=>h.elim fun b h=>h.elim fun c h=>h.elim fun d h=>k a b c d h
theorem xe42{α0:Sort _}{α1:Sort _}{α2:Sort _}{α3:Sort _}{P0 P1:α0→α1→α2→α3→Prop}{C:Prop}(h:∃a b c d,P0 a b c d∧P1 a b c d)(k:∀a b c d,P0 a b c d→P1 a b c d→C):C:=h.elim fun a h=>h.elim fun b h=>h.elim fun c h=>h.elim fun d h=>k a b c d h.1 h.2
theorem xe43{α0:Sort _}{α1:Sort _}{α2:Sort _}{α3:Sort _}{P0 P1 P2:α0→α1→α2→α3→Prop}{C:Prop}(h:∃a b c d,P0 a b c d∧P1 a b c d∧P2 a b c d)(k:∀a b c d,P0 a b c d→P1 a b c d→P2 a b c d→C):C:=h.elim fun a h=>h.elim fun b h=>h.elim fun c h=>h.elim fun d h=>k a b c d h.1 h.2.1 h.2.2
theorem xe44{α0:Sort _}{α1:Sort _}{α2:Sort _}{α3:Sort _}{P0 P1 P2 P3:α0→α1→α2→α3→Prop}{C:Prop}(h:∃a b c d,P0 a b c d∧P1 a b c d∧P2 a b c d∧P3 a b c d)(k:∀a b c d,P0 a b c d→P1 a b c d→P2 a b c d→P3 a b c d→C):C:=h.elim fun a h=>h.elim fun b h=>h.elim fun c h=>h.elim fun d h=>k a b c d h.1 h.2.1 h.2.2.1 h.2.2.2
theorem xe45{α0:Sort _}{α1:Sort _}{α2:Sort _}{α3:Sort _}{P0 P1 P2 P3 P4:α0→α1→α2→α3→Prop}{C:Prop}(h:∃a b c d,P0 a b c d∧P1 a b c d∧P2 a b c d∧P3 a b c d∧P4 a b c d)(k:∀a b c d,P0 a b c d→P1 a b c d→P2 a b c d→P3 a b c d→P4 a b c d→C):C:=h.elim fun a h=>h.elim fun b h=>h.elim fun c h=>h.elim fun d h=>k a b c d h.1 h.2.1 h.2.2.1 h.2.2.2.1 h.2.2.2.2
theorem xe46{α0:Sort _}{α1:Sort _}{α2:Sort _}{α3:Sort _}{P0 P1 P2 P3 P4 P5:α0→α1→α2→α3→Prop}{C:Prop}(h:∃a b c d,P0 a b c d∧P1 a b c d∧P2 a b c d∧P3 a b c d∧P4 a b c d∧P5 a b c d)(k:∀a b c d,P0 a b c d→P1 a b c d→P2 a b c d→P3 a b c d→P4 a b c d→P5 a b c d→C):C:=h.elim fun a h=>h.elim fun b h=>h.elim fun c h=>h.elim fun d h=>k a b c d h.1 h.2.1 h.2.2.1 h.2.2.2.1 h.2.2.2.2.1 h.2.2.2.2.2
theorem xe51{α0:Sort _}{α1:Sort _}{α2:Sort _}{α3:Sort _}{α4:Sort _}{P0:α0→α1→α2→α3→α4→Prop}{C:Prop}(h:∃a b c d e,P0 a b c d e)(k:∀a b c d e,P0 a b c d e→C):C:=h.elim fun a h=>h.elim fun b h=>h.elim fun c h=>h.elim fun d h=>h.elim fun e h=>k a b c d e h
theorem xe53{α0:Sort _}{α1:Sort _}{α2:Sort _}{α3:Sort _}{α4:Sort _}{P0 P1 P2:α0→α1→α2→α3→α4→Prop}{C:Prop}(h:∃a b c d e,P0 a b c d e∧P1 a b c d e∧P2 a b c d e)(k:∀a b c d e,P0 a b c d e→P1 a b c d e→P2 a b c d e→C):C:=h.elim fun a h=>h.elim fun b h=>h.elim fun c h=>h.elim fun d h=>h.elim fun e h=>k a b c d e h.1 h.2.1 h.2.2
theorem xe54{α0:Sort _}{α1:Sort _}{α2:Sort _}{α3:Sort _}{α4:Sort _}{P0 P1 P2 P3:α0→α1→α2→α3→α4→Prop}{C:Prop}(h:∃a b c d e,P0 a b c d e∧P1 a b c d e∧P2 a b c d e∧P3 a b c d e)(k:∀a b c d e,P0 a b c d e→P1 a b c d e→P2 a b c d e→P3 a b c d e→C):C:=h.elim fun a h=>h.elim fun b h=>h.elim fun c h=>h.elim fun d h=>h.elim fun e h=>k a b c d e h.1 h.2.1 h.2.2.1 h.2.2.2
@[elab_as_elim] theorem se1{α0:Type _}{a u:α0}{M:α0→Prop}(h:some a=some u)(k:M a):M u:=by cases h; exact k
@[elab_as_elim] theorem sr1{α0:Type _}{a u:α0}{M:α0→Prop}(h:some a=some u)(k:M u):M a:=by cases h; exact k
@[elab_as_elim] theorem se2{α0:Type _}{α1:Type _}{a u:α0}{b v:α1}{M:α0→α1→Prop}(h:some (a,b)=some (u,v))(k:M a b):M u v:=by cases h; exact k
@[elab_as_elim] theorem sr2{α0:Type _}{α1:Type _}{a u:α0}{b v:α1}{M:α0→α1→Prop}(h:some (a,b)=some (u,v))(k:M u v):M a b:=by cases h; exact k
@[elab_as_elim] theorem pe2{α0:Type _}{α1:Type _}{a u:α0}{b v:α1}{M:α0→α1→Prop}(h:(a,b)=(u,v))(k:M a b):M u v:=by cases h; exact k
@[elab_as_elim] theorem pr2{α0:Type _}{α1:Type _}{a u:α0}{b v:α1}{M:α0→α1→Prop}(h:(a,b)=(u,v))(k:M u v):M a b:=by cases h; exact k
@[elab_as_elim] theorem se3{α0:Type _}{α1:Type _}{α2:Type _}{a u:α0}{b v:α1}{c w:α2}{M:α0→α1→α2→Prop}(h:some (a,b,c)=some (u,v,w))(k:M a b c):M u v w:=by cases h; exact k
@[elab_as_elim] theorem pe3{α0:Type _}{α1:Type _}{α2:Type _}{a u:α0}{b v:α1}{c w:α2}{M:α0→α1→α2→Prop}(h:(a,b,c)=(u,v,w))(k:M a b c):M u v w:=by cases h; exact k
@[elab_as_elim] theorem pr3{α0:Type _}{α1:Type _}{α2:Type _}{a u:α0}{b v:α1}{c w:α2}{M:α0→α1→α2→Prop}(h:(a,b,c)=(u,v,w))(k:M u v w):M a b c:=by cases h; exact k
@[elab_as_elim] theorem rg{α:Sort _}{a b:α}{M:α→Prop}(h:a=b)(k:M b):M a:=h▸k
@[elab_as_elim] theorem rl{α:Sort _}{a b:α}{M:α→Prop}(h:a=b)(k:M a):M b:=h▸k
end Mi
namespace Mi
theorem runs_size{M:Model}{Γ:Ctx}{p:Pos}{t:Sem Fin}{fs:List Frame}{s s':Shared}{e:End}(h:Runs M Γ p t fs s e s'):s.heap.objs.size≤s'.heap.objs.size:=by
  induction h <;> (try simp only [Shared.setGen,Heap.size_push,Heap.size_after_update] at *) <;> omega
theorem wakes_size{M:Model}{Γ:Ctx}{p:Pos}{g:Nat}{r:Resume}{s s':Shared}{res:GenResult}(h:Wakes M Γ p g r s res s'):s.heap.objs.size≤s'.heap.objs.size:=by
  unfold Wakes at h
  split at h
  · exact h.elim
  · split at h
    · obtain ⟨e₁,s₁,hr,_,_,rfl⟩:=h; exact (runs_size hr:(s.setGen g .running).heap.objs.size≤s₁.heap.objs.size)
    · refine rg h.2 ?_; exact Nat.le_refl _
    · refine rg h.2 ?_; exact Nat.le_refl _
  · obtain ⟨e₁,s₁,hr,_,_,rfl⟩:=h; exact (runs_size hr:(s.setGen g .running).heap.objs.size≤s₁.heap.objs.size)
  · refine rg h.2 ?_; exact Nat.le_refl _
  · refine rg h.2 ?_; exact Nat.le_refl _
theorem wp_size{α:Type}(M:Model)(Γ:Ctx)(n:Nat)(t:Sem α):∀(Q:α→Pos→Shared→Prop) (E:Value→Pos→Shared→Prop) (p:Pos) (s:Shared),n≤s.heap.objs.size→Sem.wp M Γ t Q E p s→
    Sem.wp M Γ t (fun a p' s'=>n≤s'.heap.objs.size∧Q a p' s') (fun e p' s'=>n≤s'.heap.objs.size∧E e p' s') p s:=by
  induction t with
  | pure a=>intro Q E p s hn h; exact ⟨hn,h⟩
  | raise e=>intro Q E p s hn h; exact ⟨hn,h⟩
  | unsupported _=>intro Q E p s _ h; exact h
  | finish _=>intro Q E p s _ h; exact h
  | rule _ k ih=>intro Q E p s hn h; exact ih () Q E p s hn h
  | «at» p' k ih=>intro Q E p s hn h; exact ih () Q E p' s hn h
  | load a _ k ih=>intro Q E p s hn h; refine xe12 h fun o ho h=>?_; exact ⟨o,ho,ih o Q E p s hn h⟩
  | update a _ f k ih=>intro Q E p s hn h; exact ⟨h.1,ih () Q E p _ (by simpa using hn) h.2⟩
  | loadIfAlive a k ih=>intro Q E p s hn h; exact ih _ Q E p s hn h
  | point _ k ih=>intro Q E p s hn h; exact ih () Q E p s hn h
  | register _ _=>intro Q E p s _ h; exact h
  | alloc o k ih=>intro Q E p s hn h; exact ih _ Q E p _ (by simp only [Heap.size_push]; solve_by_elim [Nat.le_of_lt,Nat.lt_of_lt_of_le,Nat.lt_of_le_of_lt]) h
  | fresh k ih=>intro Q E p s hn h; exact ih _ Q E p _ hn h
  | ask k ih=>intro Q E p s hn h; exact ih _ Q E p s hn h
  | choose src m k ih=>intro Q E p s hn h; exact ⟨h.1,ih _ Q E p _ hn h.2⟩
  | os q _ k ih=>intro Q E p s hn h; exact ih _ Q E p _ hn h
  | call c hd _ _ k ih=>intro Q E p s hn h; refine xe22 h fun r s' hr h=>?_; exact ⟨r,s',hr,ih r Q E p s' (Nat.le_trans hn (runs_size hr)) h⟩
  | handled own k ih=>intro Q E p s hn h; exact ih _ Q E p s hn h
  | genState g k ih=>intro Q E p s hn h; refine xe12 h fun st hs h=>?_; exact ⟨st,hs,ih _ Q E p s hn h⟩
  | newGen c k ih=>intro Q E p s hn h; exact ih _ Q E p _ hn h
  | resume g r _ k ih=>intro Q E p s hn h; refine xe22 h fun res s' hw h=>?_; exact ⟨res,s',hw,ih res Q E p s' (Nat.le_trans hn (wakes_size hw)) h⟩
  | yield _ _ _ _=>intro Q E p s _ h; exact h
  | stack k ih=>intro Q E p s hn h; exact ih _ Q E p s hn h
  | fork _ _=>intro Q E p s _ h; exact h
  | thread k ih=>intro Q E p s hn h; exact ih _ Q E p s hn h
  | await _ _ _ _ _=>intro Q E p s _ h; exact h
theorem yk{α:Type}{M:Model}{A:Around}{s:Shared}{t:Sem α}{Q:α→Shared→Prop}{E:Value→Shared→Prop}
    (h:wpAny M A t (fun a s'=>s.heap.objs.size≤s'.heap.objs.size→Q a s') E s):wpAny M A t Q E s:=
  fun Γ p hΓ=>Sem.wp_mono M Γ t (fun _ _ _ x=>x.2 x.1) (fun _ _ _ x=>x.2) p s (wp_size M Γ _ t _ _ p s (Nat.le_refl _) (h Γ p hΓ))
inductive V where
  | undef
  | none
  | bool (b:Bool)
  | int (i:Int)
  | str (x:List Nat)
  | tup (vs:List V)
  | lst (vs:List V)
  | loc (l:Nat)
  | cst (n:Nat)
inductive AObj where
  | list (vs:List V)
  | ns (fs:List (Str × V))
  | bnd
  | cit (live:Bool) (lb:Nat)
structure Gd where
  prog:Program
  w:World
  h0:Heap
  os:OsState
  mg:Str→Option Value
  mb:Str→Option Value
  cst:Nat→Addr
  fix:List Addr
  bnd:Obj
structure GOk(G:Gd):Prop where
  g:G.h0.Ns mainGlobals G.mg
  b:G.h0.Ns builtinsNs G.mb
  builtins:∀x:Str,x≠"__name__"→G.mb x=bootBuiltins x
  nolimit:G.h0.NoLimit
  nodigits:∃mc,G.h0.Ns cStatics mc∧mc "sys.int_max_str_digits"=none
noncomputable abbrev zN(items:List Value)(n:Nat):Obj:={cls:= .type "list",dict:=none,data:= .seq items.toArray n,slots:= #[]}
noncomputable abbrev tupObj(items:List Value)(n:Nat):Obj:={cls:= .type "tuple",dict:=none,data:= .seq items.toArray n,slots:= #[]}
noncomputable abbrev LIM:Nat:=1048576
theorem zv:LIM=1048576:=rfl
noncomputable def okS(l:List Nat):Prop:=l.length≤LIM∧∀c∈l,c<1114112
mutual
noncomputable def VR(G:Gd)(μ:List Addr)(h:Heap):V→Value→Prop
  | .undef,_=>False
  | .none,x=>x = .none
  | .bool b,x=>x = .bool b
  | .int i,x=> ∃t,x = .int i t
  | .str l,x=>okS l∧∃t,x = .str ⟨l.toArray⟩ t
  | .tup vs,x=> ∃a items n,x = .ref a∧a∉μ∧h.get? a=some (tupObj items n)∧vs.length≤LIM∧VRs G μ h vs items
  | .lst vs,x=> ∃a items n,x = .ref a∧a∉μ∧h.get? a=some (zN items n)∧vs.length≤LIM∧VRs G μ h vs items
  | .loc l,x=> ∃a,μ[l]?=some a∧x = .ref a
  | .cst n,x=>x = .ref (G.cst n)
noncomputable def VRs(G:Gd)(μ:List Addr)(h:Heap):List V→List Value→Prop
  | [],xs=>xs= []
  | v::vs,xs=> ∃y ys,xs=y::ys∧VR G μ h v y∧VRs G μ h vs ys
end
noncomputable def Imm(o:Obj):Prop:=match o.data with
  | .dict .. | .cell _ | .fields _=>False
  | _=>True
structure Step(W:Addr→Prop)(μ μ':List Addr)(h h':Heap):Prop where
  pre:∃ν,μ'=μ++ν∧∀a∈ν,h.objs.size≤a
  sz:h.objs.size≤h'.objs.size
  keep:∀a o,a∉μ→¬W a→h.get? a=some o→h'.get? a=some o
  imm:∀a o,a∉μ→Imm o→h.get? a=some o→h'.get? a=some o
noncomputable abbrev W0:Addr→Prop:=fun _=>False
section
variable {G:Gd}{W W':Addr→Prop}{μ μ' μ'':List Addr}{h h' h'':Heap}
theorem Step.refl:Step W μ μ h h:=⟨⟨[],by simp,by simp⟩,Nat.le_refl _,fun _ _ _ _ e=>e,fun _ _ _ _ e=>e⟩
theorem Step.notin(x:Step W μ μ' h h'){a:Addr}{o:Obj}(ha:a∉μ)(e:h.get? a=some o):a∉μ':=by
  obtain ⟨ν,rfl,hν⟩:=x.pre
  intro hm
  rcases List.mem_append.mp hm with hm | hm
  · exact ha hm
  · exact absurd (Heap.lt_size e) (Nat.not_lt.mpr (hν a hm))
theorem Step.trans(x:Step W μ μ' h h')(y:Step W μ' μ'' h' h''):Step W μ μ'' h h'' where
  pre:=by
    obtain ⟨ν,rfl,hν⟩:=x.pre
    obtain ⟨ν',rfl,hν'⟩:=y.pre
    refine ⟨ν++ν',by simp,fun a ha=>?_⟩
    rcases List.mem_append.mp ha with ha | ha
    · exact hν a ha
    · exact Nat.le_trans x.sz (hν' a ha)
  sz:=Nat.le_trans x.sz y.sz
  keep:=fun a o ha hw e=>y.keep a o (x.notin ha e) hw (x.keep a o ha hw e)
  imm:=fun a o ha hi e=>y.imm a o (x.notin ha e) hi (x.imm a o ha hi e)
theorem Step.weaken(x:Step W μ μ' h h')(hw:∀a,a<h.objs.size→W a→W' a):Step W' μ μ' h h':=
  ⟨x.pre,x.sz,fun a o ha hn e=>x.keep a o ha (fun q=>hn (hw a (Heap.lt_size e) q)) e,x.imm⟩
theorem Step.of0(x:Step W0 μ μ' h h'):Step W μ μ' h h':=x.weaken fun _ _ q=>q.elim
theorem Step.getl(x:Step W μ μ' h h'){l:Nat}{a:Addr}(e:μ[l]?=some a):μ'[l]?=some a:=by
  obtain ⟨ν,rfl,_⟩:=x.pre
  have hl:l<μ.length:=by
    rcases Nat.lt_or_ge l μ.length with q | q
    · exact q
    · rw [List.getElem?_eq_none q] at e; contradiction
  refine rg (List.getElem?_append_left hl) ?_; exact e
mutual
theorem VR.step(x:Step W μ μ' h h'):∀{v:V} {y:Value},VR G μ h v y→VR G μ' h' v y
  | .undef=>fun q=>q.elim
  | .none=>fun q=>q
  | .bool _=>fun q=>q
  | .int _=>fun q=>q
  | .str _=>fun q=>q
  | .tup _=>fun q=>xe35 q fun a items n e1 e2 e3 e0 e4=>⟨a,items,n,e1,x.notin e2 e3,x.imm _ _ e2 trivial e3,e0,VRs.step x e4⟩
  | .lst _=>fun q=>xe35 q fun a items n e1 e2 e3 e0 e4=>⟨a,items,n,e1,x.notin e2 e3,x.imm _ _ e2 trivial e3,e0,VRs.step x e4⟩
  | .loc _=>fun q=>xe12 q fun a e1 e2=>⟨a,x.getl e1,e2⟩
  | .cst _=>fun q=>q
theorem VRs.step(x:Step W μ μ' h h'):∀{vs:List V} {ys:List Value},VRs G μ h vs ys→VRs G μ' h' vs ys
  | []=>fun q=>q
  | _::_=>fun q=>xe23 q fun y ys e1 e2 e3=>⟨y,ys,e1,VR.step x e2,VRs.step x e3⟩
end
theorem VRs.length:∀{vs:List V} {ys:List Value},VRs G μ h vs ys→ys.length=vs.length
  | [],_,q=>by simp [show _= [] from q]
  | _::_,_,⟨_,_,e1,_,e3⟩=>by refine rg e1 ?_; refine rg List.length_cons ?_; refine rg List.length_cons ?_; refine rg (VRs.length e3) ?_; rfl
theorem VRs.get:∀{vs:List V} {ys:List Value},VRs G μ h vs ys→∀{i:Nat} {v:V},vs[i]?=some v→∃y,ys[i]?=some y∧VR G μ h v y
  | []=>fun _=>nofun
  | v::vs=>fun q i w e=>xe23 q fun y ys e1 e2 e3=>by
    subst e1
    cases i with
    | zero=>exact se1 e ⟨y,rfl,e2⟩
    | succ i=>exact VRs.get e3 e
theorem VRs.append:∀{vs vs':List V} {ys ys':List Value},VRs G μ h vs ys→VRs G μ h vs' ys'→VRs G μ h (vs++vs') (ys++ys')
  | []=>fun q q'=>(show _= [] from q)▸q'
  | _::_=>fun q q'=>xe23 q fun y ys e1 e2 e3=>⟨y,ys++_,e1▸rfl,e2,VRs.append e3 q'⟩
theorem VRs.one{v:V}{y:Value}(q:VR G μ h v y):VRs G μ h [v] [y]:=⟨y, [],rfl,q,rfl⟩
theorem VRs.take:∀{vs:List V} {ys:List Value} (n:Nat),VRs G μ h vs ys→VRs G μ h (vs.take n) (ys.take n)
  | []=>fun n q=>by rw [show _= [] from q]; cases n <;> rfl
  | v::vs=>fun n q=>by
    cases n with
    | zero=>rfl
    | succ n=>exact xe23 q fun y ys e1 e2 e3=>e1▸⟨y,ys.take n,rfl,e2,VRs.take n e3⟩
theorem VRs.drop:∀{vs:List V} {ys:List Value} (n:Nat),VRs G μ h vs ys→VRs G μ h (vs.drop n) (ys.drop n)
  | []=>fun n q=>by rw [show _= [] from q]; cases n <;> rfl
  | v::vs=>fun n q=>by
    cases n with
    | zero=>exact q
    | succ n=>exact xe23 q fun y ys e1 e2 e3=>e1▸VRs.drop n e3
theorem VRs.set:∀{vs:List V} {ys:List Value} (n:Nat) {v:V} {y:Value},VRs G μ h vs ys→VR G μ h v y→VRs G μ h (vs.set n v) (ys.set n y)
  | []=>fun n _ _ q _=>by rw [show _= [] from q]; rfl
  | _::_=>fun n _ _ q r=>by
    cases n with
    | zero=>exact xe23 q fun y ys e1 e2 e3=>e1▸⟨_,ys,rfl,r,e3⟩
    | succ n=>exact xe23 q fun y ys e1 e2 e3=>e1▸⟨y,_,rfl,e2,VRs.set n e3 r⟩
theorem VRs.reverse:∀{vs:List V} {ys:List Value},VRs G μ h vs ys→VRs G μ h vs.reverse ys.reverse
  | []=>fun q=>by rw [show _= [] from q]; rfl
  | _::_=>fun q=>xe23 q fun y ys e1 e2 e3=>by
    refine rg e1 ?_; refine rg List.reverse_cons ?_; refine rg List.reverse_cons ?_; exact VRs.append (VRs.reverse e3) (VRs.one e2)
end
noncomputable def ORel(G:Gd)(μ:List Addr)(h:Heap)(a:Addr):AObj→Prop
  | .list vs=> ∃items n,h.get? a=some (zN items n)∧vs.length≤LIM∧VRs G μ h vs items
  | .ns fs=> ∃m,h.Ns1 a m∧(∀x,fs.lookup x=none→m x=none)∧∀x v,fs.lookup x=some v→∃y,m x=some y∧VR G μ h v y
  | .bnd=>h.get? a=some G.bnd
  | .cit live lb=> ∃m t,μ[lb]?=some m∧h.get? a=some {cls:= .type "callable_iterator",dict:=none,data:= .fields (if live then #[.ref m, .str ⟨#[]⟩ t, .bool false] else #[.none, .none, .bool true]),slots:= #[]}
theorem ORel.step{G:Gd}{W:Addr→Prop}{μ μ':List Addr}{h h':Heap}{a:Addr}{o:AObj}(x:Step W μ μ' h h')(e:∀ob,h.get? a=some ob→h'.get? a=some ob)(q:ORel G μ h a o):ORel G μ' h' a o:=by
  cases o with
  | list vs=>exact xe23 q fun items n e3 e0 e4=>⟨items,n,e _ e3,e0,e4.step x⟩
  | ns fs=>exact xe13 q fun m e3 e4 e5=>⟨m,e3.at e,e4,fun z v hz=>xe12 (e5 z v hz) fun y e6 e7=>⟨y,e6,e7.step x⟩⟩
  | bnd=>exact e _ q
  | cit live lb=>exact xe22 q fun m t e1 e2=>⟨m,t,x.getl e1,e _ e2⟩
structure Inv(G:Gd)(μ:List Addr)(σ:List AObj)(s:Shared):Prop where
  base:∀a o,G.h0.get? a=some o→s.heap.get? a=some o
  new:∀a∈μ,G.h0.get? a=none∧a<s.heap.objs.size
  nodup:μ.Nodup
  len:μ.length=σ.length
  obj:∀(l:Nat) (a:Addr) (o:AObj),μ[l]?=some a→σ[l]?=some o→ORel G μ s.heap a o
  gens:s.gens= #[]
  os:s.os=G.os
  fix:∃ν,μ=G.fix++ν
noncomputable def Good(G:Gd)(μ:List Addr)(s:Shared)(v:V)(σ':List AObj)(y:Value)(s':Shared):Prop:=
  ∃μ',Step W0 μ μ' s.heap s'.heap∧Inv G μ' σ' s'∧VR G μ' s'.heap v y
end Mi
namespace Mi
inductive VK where
  | loc | cel | fre
  deriving DecidableEq
structure Cx where
  names:List (Str × NameKind)
  xs:List (Str × VK)
noncomputable def Cx.okVar(names:List (Str × NameKind))(p:Str × VK):Bool:=
  (match p.2,names.lookup p.1 with
    | .loc,some .local=>true
    | .cel,some .cell=>true
    | .fre,some .cell=>true
    | .fre,some .free=>true
    | _,_=>false)&& !(p.1==("__debug__":Str))&& !(p.1==("__classdict__":Str))
noncomputable def Cx.nodup:List Str→Bool
  | []=>true
  | x::r=> !r.contains x&&Cx.nodup r
noncomputable def Cx.ok(cx:Cx):Bool:=cx.xs.all (Cx.okVar cx.names)&&Cx.nodup (cx.xs.map (·.1))
structure Fm where
  env:Env
  cs:List (Option Addr)
structure FmOk(cx:Cx)(fm:Fm):Prop where
  ok:cx.ok=true
  kind:fm.env.scope.kind = .function
  names:fm.env.scope.names=cx.names
  glob:fm.env.globals=mainGlobals
  blt:fm.env.builtins=builtinsNs
  loc:∀(i:Nat) (x:Str),cx.xs[i]?=some (x, .loc)→fm.cs[i]?=some none
  cel:∀(i:Nat) (x:Str) (k:VK),cx.xs[i]?=some (x,k)→k ≠ .loc→∃c,fm.cs[i]?=some (some c)∧fm.env.cells.lookup x=some c
  dist:∀(i j:Nat) (c:Addr),fm.cs[i]?=some (some c)→fm.cs[j]?=some (some c)→i=j
noncomputable def Own(cx:Cx)(fm:Fm)(a:Addr):Prop:=a=fm.env.locals∨∃(i:Nat) (x:Str),cx.xs[i]?=some (x, .cel)∧fm.cs[i]?=some (some a)
structure FRm(G:Gd)(cx:Cx)(fm:Fm)(μ:List Addr)(h:Heap)(ρ:List V)(m:Str→Option Value):Prop where
  ns:h.Ns fm.env.locals m
  lmu:fm.env.locals∉μ
  own0:∀a,Own cx fm a→G.h0.get? a=none
  cells:∀(i:Nat) (c:Addr),fm.cs[i]?=some (some c)→c∉μ∧c≠fm.env.locals∧∃o,h.IsCell c o
  len:ρ.length=cx.xs.length
  locv:∀(i:Nat) (x:Str) (v:V),cx.xs[i]?=some (x, .loc)→ρ[i]?=some v→v ≠ .undef→∃y,m x=some y∧VR G μ h v y
  celv:∀(i:Nat) (c:Addr) (v:V),fm.cs[i]?=some (some c)→ρ[i]?=some v→v ≠ .undef→∃y,h.IsCell c (some y)∧VR G μ h v y
noncomputable def FR(G:Gd)(cx:Cx)(fm:Fm)(μ:List Addr)(h:Heap)(ρ:List V):Prop:= ∃m,FRm G cx fm μ h ρ m
theorem zG{α:Type}{l:List α}{i:Nat}{x:α}(e:l[i]?=some x):x∈l:=List.mem_of_getElem? e
theorem nodup_inj:∀{l:List Str},Cx.nodup l=true→∀{i j:Nat} {x:Str},l[i]?=some x→l[j]?=some x→i=j
  | []=>fun _=>nofun
  | y::r=>fun hn i j x e e'=>by
    have hn:=Bool.and_eq_true_iff.mp hn
    have hy:y∉r:=by simpa using hn.1
    cases i with
    | zero=>
      cases j with
      | zero=>rfl
      | succ j=>exact absurd (zG (l:=r) e') (Option.some.inj e▸hy)
    | succ i=>
      cases j with
      | zero=>exact absurd (zG (l:=r) e) (Option.some.inj e'▸hy)
      | succ j=>exact congrArg (· + 1) (nodup_inj hn.2 e e')
section
variable {G:Gd}{cx:Cx}{fm:Fm}{W:Addr→Prop}{μ μ':List Addr}{h h':Heap}{ρ:List V}{M:Model}{A:Around}{E:Value→Shared→Prop}{s:Shared}
theorem FmOk.var(O:FmOk cx fm){i:Nat}{x:Str}{k:VK}(e:cx.xs[i]?=some (x,k)):Cx.okVar cx.names (x,k)=true:=by
  have:=O.ok
  rw [Cx.ok,Bool.and_eq_true,List.all_eq_true] at this
  exact this.1 _ (zG e)
theorem Cx.inj(O:cx.ok=true){i j:Nat}{x:Str}{k k':VK}(e:cx.xs[i]?=some (x,k))(e':cx.xs[j]?=some (x,k')):i=j:=by
  simp only [Cx.ok,Bool.and_eq_true] at O
  exact nodup_inj O.2 (x:=x) (by refine rg List.getElem?_map ?_; refine rg e ?_; rfl) (by refine rg List.getElem?_map ?_; refine rg e' ?_; rfl)
theorem FmOk.inj(O:FmOk cx fm){i j:Nat}{x:Str}{k k':VK}(e:cx.xs[i]?=some (x,k))(e':cx.xs[j]?=some (x,k')):i=j:=Cx.inj O.ok e e'
theorem FmOk.kindOf(O:FmOk cx fm)(x:Str):fm.env.kindOf x=cx.names.lookup x:=by unfold Env.kindOf; refine rg O.names ?_; rfl
theorem FmOk.kmatch(O:FmOk cx fm){i:Nat}{x:Str}{k:VK}(e:cx.xs[i]?=some (x,k)):(match (generalizing:=false) k,fm.env.kindOf x with
    | .loc,some .local=>true
    | .cel,some .cell=>true
    | .fre,some .cell=>true
    | .fre,some .free=>true
    | _,_=>false)=true:=by
  rw [O.kindOf]; exact (Bool.and_eq_true_iff.mp (Bool.and_eq_true_iff.mp (O.var e)).1).1
theorem FmOk.klocal(O:FmOk cx fm){i:Nat}{x:Str}(e:cx.xs[i]?=some (x, .loc)):fm.env.kindOf x=some .local:=by
  have:=O.kmatch e
  revert this
  cases fm.env.kindOf x with
  | none=>exact nofun
  | some k=>cases k <;> first | exact fun _=>rfl | exact nofun
theorem FmOk.kcel(O:FmOk cx fm){i:Nat}{x:Str}(e:cx.xs[i]?=some (x, .cel)):fm.env.kindOf x=some .cell:=by
  have:=O.kmatch e
  revert this
  cases fm.env.kindOf x with
  | none=>exact nofun
  | some k=>cases k <;> first | exact fun _=>rfl | exact nofun
theorem FmOk.kcell(O:FmOk cx fm){i:Nat}{x:Str}{k:VK}(e:cx.xs[i]?=some (x,k))(hk:k ≠ .loc):fm.env.kindOf x=some .cell∨fm.env.kindOf x=some .free:=by
  have:=O.kmatch e
  revert this
  cases k with
  | loc=>exact absurd rfl hk
  | cel=>exact fun _=> .inl (O.kcel e)
  | fre=>cases fm.env.kindOf x with
    | none=>exact nofun
    | some k=>cases k <;> first | exact fun _=> .inl rfl | exact fun _=> .inr rfl | exact nofun
theorem FmOk.nodebug(O:FmOk cx fm){i:Nat}{x:Str}{k:VK}(e:cx.xs[i]?=some (x,k)):(x==("__debug__":Str))=false∧(x==("__classdict__":Str))=false:=by
  have:=O.var e
  have:=Bool.and_eq_true_iff.mp this
  exact ⟨Bool.not_eq_true' _▸(Bool.and_eq_true_iff.mp this.1).2,Bool.not_eq_true' _▸this.2⟩
theorem Heap.IsCell.step(x:Step W μ μ' h h'){c:Addr}{o:Option Value}(q:h.IsCell c o)(hc:c∉μ)(hw:¬W c):h'.IsCell c o:=by
  refine xe12 q fun oc e d=>?_
  exact ⟨oc,x.keep _ _ hc hw e,d⟩
theorem FR.step(x:Step W μ μ' h h')(F:FR G cx fm μ h ρ)(hl:¬W fm.env.locals)(hc:∀(i:Nat) (c:Addr),fm.cs[i]?=some (some c)→¬W c):FR G cx fm μ' h' ρ:=
  F.elim fun m F=>⟨m,F.ns.at' fun o e=>x.keep _ _ F.lmu hl e,F.ns.elim fun o h=>xe21 h fun _ _ h=>x.notin F.lmu h.1,F.own0,
    fun i c e=>(F.cells i c e).elim fun h1 h=>h.elim fun h2 h=>h.elim fun o q=>⟨q.elim fun _ q=>x.notin h1 q.1,h2,o,Heap.IsCell.step x q h1 (hc i c e)⟩,F.len,fun i y v e1 e2 e3=>xe12 (F.locv i y v e1 e2 e3) fun z e4 e5=>⟨z,e4,e5.step x⟩,
    fun i c v e1 e2 e3=>xe12 (F.celv i c v e1 e2 e3) fun z e4 e5=>⟨z,Heap.IsCell.step x e4 (F.cells i c e1).1 (hc i c e1),e5.step x⟩⟩
theorem FR.step0(x:Step W0 μ μ' h h')(F:FR G cx fm μ h ρ):FR G cx fm μ' h' ρ:=F.step x (fun q=>q) fun _ _ _ q=>q
theorem load_var(O:FmOk cx fm)(F:FR G cx fm μ s.heap ρ){i:Nat}{x:Str}{k:VK}{v:V}(e:cx.xs[i]?=some (x,k))(ev:ρ[i]?=some v)(hv:v ≠ .undef){Q:Value→Shared→Prop}
    (h:∀y,VR G μ s.heap v y→Q y s):wpAny M A (loadName fm.env x) Q E s:=by
  refine xe11 F fun m F=>?_
  by_cases hk:k = .loc
  · subst hk
    refine xe12 (F.locv i x v e ev hv) fun y e1 e2=>?_
    exact wpAny_loadName_local O.kind (O.klocal e) F.ns e1 (h y e2)
  · refine xe12 (O.cel i x k e hk) fun c e1 e2=>?_
    refine xe12 (F.celv i c v e1 ev hv) fun y e3 e4=>?_
    rcases O.kcell e hk with q | q
    · exact wpAny_loadName_cell O.kind q e2 e3 (h y e4)
    · exact wpAny_loadName_free O.kind q e2 e3 (h y e4) (O.nodebug e).2
theorem imm_ne_cell{h:Heap}{a c:Addr}{o:Obj}{v:Option Value}(ho:h.get? a=some o)(hi:Imm o)(q:h.IsCell c v):a≠c:=by
  rintro rfl
  refine xe12 q fun oc e d=>?_
  rw [ho] at e; cases e
  unfold Imm at hi; rw [d] at hi; exact hi
theorem imm_ne_ns{h:Heap}{a c:Addr}{o:Obj}{m:Str→Option Value}(ho:h.get? a=some o)(hi:Imm o)(q:h.Ns c m):a≠c:=by
  rintro rfl
  refine xe33 q fun oc es ep e d _=>?_
  rw [ho] at e; cases e
  unfold Imm at hi; rw [d] at hi; exact hi
theorem step_same{μ:List Addr}{h h':Heap}{a:Addr}(hs:Heap.SameBut a h h')(hi:∀o,h.get? a=some o→¬Imm o):Step (· = a) μ μ h h':=
  ⟨⟨[],by simp,by simp⟩,Nat.le_of_eq hs.1.symm,fun b o _ hb e=>(hs.2 b hb).trans e,fun b o _ hI e=>(hs.2 b (fun q=>hi o (q▸e) hI)).trans e⟩
theorem Inv.stepW{σ:List AObj}{s':Shared}(I:Inv G μ σ s)(x:Step W μ μ s.heap s'.heap)(h0:∀a,W a→G.h0.get? a=none)(hm:∀a∈μ,s'.heap.get? a=s.heap.get? a)
    (hg:s'.gens=s.gens) (ho:s'.os=s.os):Inv G μ σ s' where
  base:=fun a o e=>x.keep a o (fun q=>by rw [(I.new a q).1] at e; contradiction) (fun q=>by rw [h0 a q] at e; contradiction) (I.base a o e)
  new:=fun a ha=>⟨(I.new a ha).1,Nat.lt_of_lt_of_le (I.new a ha).2 x.sz⟩
  nodup:=I.nodup
  len:=I.len
  obj:=fun l a o e1 e2=>by
    exact (I.obj l a o e1 e2).step x fun ob e=>(hm a (zG e1)).trans e
  gens:=hg.trans I.gens
  os:=ho.trans I.os
  fix:=I.fix
theorem set_get{j i:Nat}{v w:V}(e:(ρ.set i v)[j]?=some w):(i=j∧v=w)∨(i≠j∧ρ[j]?=some w):=by
  by_cases h:i=j
  · subst h
    rw [List.getElem?_set_self'] at e
    exact xe12 (Option.map_eq_some_iff.mp e) fun _ _ e=> .inl ⟨rfl,e⟩
  · exact .inr ⟨h,(List.getElem?_set_ne h).symm.trans e⟩
theorem fr_loc{m:Str→Option Value}(O:FmOk cx fm)(F:FRm G cx fm μ h ρ m){i:Nat}{x:Str}{v:V}{y:Value}(e:cx.xs[i]?=some (x, .loc))(hv:VR G μ h v y)(st:Step (· = fm.env.locals) μ μ h h')(hn:h'.Ns fm.env.locals fun z=>if z=x then some y else m z)(hs:Heap.SameBut fm.env.locals h h'):FR G cx fm μ h' (ρ.set i v):=
  ⟨_,hn,F.lmu,F.own0,fun j c ej=>(F.cells j c ej).elim fun h1 h=>h.elim fun h2 h=>h.elim fun o q=>⟨h1,h2,o,q.sameBut hs h2⟩,List.length_set.trans F.len,
    fun j z w e1 e2 e3=>(set_get e2).elim (fun q=>⟨y,if_pos (Prod.mk.inj (Option.some.inj (e1.symm.trans (q.1▸e)))).1,q.2▸hv.step st⟩) fun q=>xe12 (F.locv j z w e1 q.2 e3) fun y' e4 e5=>⟨y',(if_neg fun q'=>q.1 (O.inj e (q'▸e1))).trans e4,e5.step st⟩,
    fun j c w e1 e2 e3=>(set_get e2).elim (fun q=>absurd ((O.loc i x e).symm.trans (q.1.symm▸e1:fm.cs[i]?=some (some c))) nofun) fun q=>xe12 (F.celv j c w e1 q.2 e3) fun y' e4 e5=>⟨y',e4.sameBut hs (F.cells j c e1).2.1,e5.step st⟩⟩
theorem fr_cel{m:Str→Option Value}(O:FmOk cx fm)(F:FRm G cx fm μ h ρ m){i:Nat}{x:Str}{v:V}{y:Value}{c:Addr}(e:cx.xs[i]?=some (x, .cel))(e1:fm.cs[i]?=some (some c))(h2:c≠fm.env.locals)(hv:VR G μ h v y)(st:Step (· = c) μ μ h h')(hc:h'.IsCell c (some y))(hs:Heap.SameBut c h h'):FR G cx fm μ h' (ρ.set i v):=
  ⟨m,F.ns.sameBut hs (Ne.symm h2),F.lmu,F.own0,fun j d ej=>(F.cells j d ej).elim fun g1 h=>h.elim fun g2 h=>h.elim fun o q=>⟨g1,g2,(Classical.em (d=c)).elim (fun q'=>⟨_,q'▸hc⟩) fun hdc=>⟨o,q.sameBut hs hdc⟩⟩,List.length_set.trans F.len,
    fun j z w e3 e4 e5=>(set_get e4).elim (fun q=>absurd (e.symm.trans (q.1.symm▸e3:cx.xs[i]?=some (z, .loc))) nofun) fun q=>xe12 (F.locv j z w e3 q.2 e5) fun y' e6 e7=>⟨y',e6,e7.step st⟩,
    fun j d w e3 e4 e5=>(set_get e4).elim (fun q=>⟨y,Option.some.inj (Option.some.inj (e1.symm.trans (q.1▸e3)))▸hc,q.2▸hv.step st⟩) fun q=>xe12 (F.celv j d w e3 q.2 e5) fun y' e6 e7=>⟨y',e6.sameBut hs fun q'=>q.1 (O.dist i j c e1 (q'▸e3)),e7.step st⟩⟩
theorem store_var(O:FmOk cx fm)(F:FR G cx fm μ s.heap ρ){σ:List AObj}(I:Inv G μ σ s){i:Nat}{x:Str}{k:VK}{v:V}{y:Value}(e:cx.xs[i]?=some (x,k))(hk:k ≠ .fre)(hv:VR G μ s.heap v y){Q:Unit→Shared→Prop}
    (h:∀s',Step (Own cx fm) μ μ s.heap s'.heap→(k = .loc→Step (· = fm.env.locals) μ μ s.heap s'.heap)→FR G cx fm μ s'.heap (ρ.set i v)→Inv G μ σ s'→Q () s'):wpAny M A (storeName fm.env x y) Q E s:=by
  refine F.elim fun m F=>?_
  cases k with
  | fre=>exact absurd rfl hk
  | loc=>
    refine wpAny_storeName_local (O.klocal e) F.ns (fun h' hn hs=>?_) (by refine rg O.kind ?_; rfl)
    have st:Step (· = fm.env.locals) μ μ s.heap h':=step_same hs fun o ho hi=>(imm_ne_ns ho hi F.ns) rfl
    exact h _ (st.weaken fun a _ q=> .inl q) (fun _=>st) (fr_loc O F e hv st hn hs) (I.stepW (W:=(· = fm.env.locals)) st (fun a q=>F.own0 a (.inl q)) (fun a ha=>hs.2 a fun q=>F.lmu (q▸ha)) rfl rfl)
  | cel=>
    refine xe12 (O.cel i x .cel e nofun) fun c e1 e2=>xe02 (F.cells i c e1) fun h1 h2=>h2.elim fun h2 h3=>h3.elim fun o q=>wpAny_storeName_cell O.kind (O.kcel e) e2 q fun h' hc hs=>?_
    have st:Step (· = c) μ μ s.heap h':=step_same hs fun o ho hi=>(imm_ne_cell ho hi q) rfl
    exact h _ (st.weaken fun a _ q=> .inr ⟨i,x,e,q▸e1⟩) nofun (fr_cel O F e e1 h2 hv st hc hs) (I.stepW (W:=(· = c)) st (fun a q=>F.own0 a (.inr ⟨i,x,e,q▸e1⟩)) (fun a ha=>hs.2 a fun q=>h1 (q▸ha)) rfl rfl)
end
end Mi
namespace Mi
structure AOk(r:Nat)(A:Around):Prop where
  handled:A.handled=none
  depth:A.depth+10*r≤800
  units:A.units+200*r≤9000
theorem AOk.in1{r:Nat}{A:Around}(h:AOk (r+1) A):AOk r A.in1:=⟨h.handled,by have:=h.depth; show A.depth+_≤_; lia,by have:=h.units; show A.units+1+_≤_; lia⟩
theorem AOk.le{r r':Nat}{A:Around}(h:AOk r A)(hr:r'≤r):AOk r' A:=⟨h.handled,by have:=h.depth; lia,by have:=h.units; lia⟩
theorem AOk.deeper{r:Nat}{A:Around}(h:AOk (r+1) A)(env:Env):AOk r (A.deeper env):=⟨h.handled,by have:=h.depth; show A.depth+1+_≤_; lia,by have:=h.units; show A.units+3+_≤_; lia⟩
theorem AOk.room{r:Nat}{A:Around}(h:AOk r A):A.depth<recursionLimit:=by have:=h.depth; show A.depth<1000; lia
theorem AOk.cline{r:Nat}{A:Around}(h:AOk r A):A.units+500<cLine:=by have:=h.units; show A.units+500<9900; lia
noncomputable abbrev EF:=List V→List AObj→Option (V × List AObj)
noncomputable abbrev BF:=List V→List AObj→Option (Bool × List AObj)
noncomputable abbrev EsF:=List V→List AObj→Option (List V × List AObj)
noncomputable def SE(G:Gd)(r:Nat)(cx:Cx)(e:Expr)(f:EF):Prop:=
  ∀(A:Around) (fm:Fm) (μ:List Addr) (ρ:List V) (σ:List AObj) (s:Shared) (v:V) (σ':List AObj),AOk r A→FmOk cx fm→Inv G μ σ s→FR G cx fm μ s.heap ρ→f ρ σ=some (v,σ')→
    wpAny (model G.prog G.w) A (eval e fm.env) (Good G μ s v σ') (fun _ _=>False) s
noncomputable def GoodB(G:Gd)(μ:List Addr)(s:Shared)(b:Bool)(σ':List AObj)(y:Bool)(s':Shared):Prop:=
  y=b∧∃μ',Step W0 μ μ' s.heap s'.heap∧Inv G μ' σ' s'
noncomputable def SB(G:Gd)(r:Nat)(cx:Cx)(e:Expr)(f:BF):Prop:=
  ∀(A:Around) (fm:Fm) (μ:List Addr) (ρ:List V) (σ:List AObj) (s:Shared) (b:Bool) (σ':List AObj),AOk r A→FmOk cx fm→Inv G μ σ s→FR G cx fm μ s.heap ρ→f ρ σ=some (b,σ')→
    wpAny (model G.prog G.w) A (isTrue e fm.env (eval e fm.env)) (GoodB G μ s b σ') (fun _ _=>False) s
noncomputable def GoodL(G:Gd)(μ:List Addr)(s:Shared)(vs:List V)(σ':List AObj)(ys:List Value)(s':Shared):Prop:=
  ∃μ',Step W0 μ μ' s.heap s'.heap∧Inv G μ' σ' s'∧VRs G μ' s'.heap vs ys
noncomputable def SEs(G:Gd)(r:Nat)(cx:Cx)(es:List Expr)(f:EsF):Prop:=
  ∀(A:Around) (fm:Fm) (μ:List Addr) (ρ:List V) (σ:List AObj) (s:Shared) (vs:List V) (σ':List AObj) (pos:Pos),AOk r A→FmOk cx fm→Inv G μ σ s→FR G cx fm μ s.heap ρ→f ρ σ=some (vs,σ')→
    wpAny (model G.prog G.w) A (spliced (backTo pos (starEach es fm.env))) (GoodL G μ s vs σ') (fun _ _=>False) s
section
variable {G:Gd}{r:Nat}{cx:Cx}{fm:Fm}{W:Addr→Prop}{μ μ':List Addr}{h h':Heap}{ρ:List V}{σ σ' σ₁:List AObj}{A:Around}{E:Value→Shared→Prop}{s s':Shared}{v:V}{b:Bool}{e:Expr}
theorem SE.use{f:EF}(H:SE G r cx e f)(a:AOk r A)(O:FmOk cx fm)(I:Inv G μ σ s)(F:FR G cx fm μ s.heap ρ)(hf:f ρ σ=some (v,σ₁)){Q:Value→Shared→Prop}
    (k:∀y s₁ μ₁,Step W0 μ μ₁ s.heap s₁.heap→Inv G μ₁ σ₁ s₁→FR G cx fm μ₁ s₁.heap ρ→VR G μ₁ s₁.heap v y→Q y s₁):wpAny (model G.prog G.w) A (eval e fm.env) Q E s:=
  wpAny_mono (H A fm μ ρ σ s v σ₁ a O I F hf) (fun y s₁ ⟨μ₁,st,I₁,q⟩=>k y s₁ μ₁ st I₁ (F.step0 st) q) fun _ _ x=>x.elim
theorem SB.use{f:BF}(H:SB G r cx e f)(a:AOk r A)(O:FmOk cx fm)(I:Inv G μ σ s)(F:FR G cx fm μ s.heap ρ)(hf:f ρ σ=some (b,σ₁)){Q:Bool→Shared→Prop}
    (k:∀s₁ μ₁,Step W0 μ μ₁ s.heap s₁.heap→Inv G μ₁ σ₁ s₁→FR G cx fm μ₁ s₁.heap ρ→Q b s₁):wpAny (model G.prog G.w) A (isTrue e fm.env (eval e fm.env)) Q E s:=
  wpAny_mono (H A fm μ ρ σ s b σ₁ a O I F hf) (fun y s₁ ⟨e,μ₁,st,I₁⟩=>e▸k s₁ μ₁ st I₁ (F.step0 st)) fun _ _ x=>x.elim
theorem SEs.use{es:List Expr}{f:EsF}{vs:List V}{pos:Pos}(H:SEs G r cx es f)(a:AOk r A)(O:FmOk cx fm)(I:Inv G μ σ s)(F:FR G cx fm μ s.heap ρ)(hf:f ρ σ=some (vs,σ₁)){Q:List Value→Shared→Prop}
    (k:∀ys s₁ μ₁,Step W0 μ μ₁ s.heap s₁.heap→Inv G μ₁ σ₁ s₁→FR G cx fm μ₁ s₁.heap ρ→VRs G μ₁ s₁.heap vs ys→Q ys s₁):wpAny (model G.prog G.w) A (spliced (backTo pos (starEach es fm.env))) Q E s:=
  wpAny_mono (H A fm μ ρ σ s vs σ₁ pos a O I F hf) (fun y s₁ ⟨μ₁,st,I₁,q⟩=>k y s₁ μ₁ st I₁ (F.step0 st) q) fun _ _ x=>x.elim
theorem Inv.toks(I:Inv G μ σ s)(t:Nat):Inv G μ σ {s with toks:=t}:=⟨I.base,I.new,I.nodup,I.len,I.obj,I.gens,I.os,I.fix⟩
theorem yX{h:Heap}{a:Addr}(o:Obj)(ha:a<h.objs.size):(h.push o).get? a=h.get? a:=by
  obtain ⟨objs,l⟩:=h
  unfold Heap.get? Heap.push
  simp only
  have:(objs.push o)[a]?=objs[a]?:=by
    refine rg Array.getElem?_push ?_
    have:a≠objs.size:=Nat.ne_of_lt ha
    simp [this]
  refine rg this ?_; rfl
theorem Step.push(o:Obj):Step W0 μ μ h (h.push o):=
  ⟨⟨[],by simp,by simp⟩,by simp,fun a _ _ _ e=>(yX o (Heap.lt_size e)).trans e,fun a _ _ _ e=>(yX o (Heap.lt_size e)).trans e⟩
theorem Inv.push(I:Inv G μ σ s)(o:Obj)(t:Nat):Inv G μ σ {s with heap:=s.heap.push o,toks:=t}:=
  I.stepW (W:=W0) (Step.push o) (fun _ q=>q.elim) (fun a ha=>yX o (I.new a ha).2) rfl rfl
theorem Inv.fresh(I:Inv G μ σ s):s.heap.objs.size∉μ:=fun q=>Nat.lt_irrefl _ (I.new _ q).2
theorem Good.same(I:Inv G μ σ s){y:Value}(t:Nat)(q:VR G μ s.heap v y):Good G μ s v σ y {s with toks:=t}:=⟨μ,Step.refl,I.toks t,q⟩
theorem Good.same0(I:Inv G μ σ s){y:Value}(q:VR G μ s.heap v y):Good G μ s v σ y s:=⟨μ,Step.refl,I,q⟩
theorem Good.after{s₁:Shared}{y:Value}(st:Step W0 μ μ' s.heap s₁.heap)(g:Good G μ' s₁ v σ' y s'):Good G μ s v σ' y s':=by
  refine xe13 g fun μ'' st' I q=>?_
  exact ⟨μ'',st.trans st',I,q⟩
theorem GoodB.after{s₁:Shared}{y:Bool}(st:Step W0 μ μ' s.heap s₁.heap)(g:GoodB G μ' s₁ b σ' y s'):GoodB G μ s b σ' y s':=by
  obtain ⟨e,μ'',st',I⟩:=g
  exact ⟨e,μ'',st.trans st',I⟩
theorem Good.tup(I:Inv G μ σ s){vs:List V}{ys:List Value}(t n:Nat)(q:VRs G μ s.heap vs ys)(hl:vs.length≤LIM) :
    Good G μ s (.tup vs) σ (.ref s.heap.objs.size) {s with heap:=s.heap.push (tupObj ys n),toks:=t}:=
  ⟨μ,Step.push _,I.push _ t,⟨_,ys,n,rfl,I.fresh,Heap.get?_push_size _ rfl,hl,q.step (Step.push _)⟩⟩
theorem Good.lst(I:Inv G μ σ s){vs:List V}{ys:List Value}(t n:Nat)(q:VRs G μ s.heap vs ys)(hl:vs.length≤LIM) :
    Good G μ s (.lst vs) σ (.ref s.heap.objs.size) {s with heap:=s.heap.push (zN ys n),toks:=t}:=
  ⟨μ,Step.push _,I.push _ t,⟨_,ys,n,rfl,I.fresh,Heap.get?_push_size _ rfl,hl,q.step (Step.push _)⟩⟩
theorem step_new(o:Obj):Step W0 μ (μ++ [h.objs.size]) h (h.push o):=
  ⟨⟨[h.objs.size],rfl,by simp⟩,by simp,fun a _ _ _ e=>(yX o (Heap.lt_size e)).trans e,fun a _ _ _ e=>(yX o (Heap.lt_size e)).trans e⟩
theorem Inv.newloc(K:GOk G)(I:Inv G μ σ s)(o:Obj)(ob:AObj)(t:Nat)(hob:ORel G (μ++ [s.heap.objs.size]) (s.heap.push o) s.heap.objs.size ob) :
    Inv G (μ++ [s.heap.objs.size]) (σ++ [ob]) {s with heap:=s.heap.push o,toks:=t} where
  base:=fun a o' e=>(yX o (Heap.lt_size (I.base a o' e))).trans (I.base a o' e)
  new:=fun a ha=>by
    rcases List.mem_append.mp ha with ha | ha
    · exact ⟨(I.new a ha).1,Nat.lt_of_lt_of_le (I.new a ha).2 (by simp)⟩
    · have:a=s.heap.objs.size:=by simpa using ha
      subst this
      refine ⟨?_,by simp⟩
      cases hq:G.h0.get? s.heap.objs.size with
      | none=>rfl
      | some o'=>exact absurd (Heap.lt_size (I.base _ _ hq)) (Nat.lt_irrefl _)
  nodup:=by
    rw [List.nodup_append]
    refine ⟨I.nodup,by simp,fun a ha b hb=>?_⟩
    have:b=s.heap.objs.size:=by simpa using hb
    subst this
    exact fun q=>I.fresh (q▸ha)
  len:=by simp [I.len]
  obj:=fun l a o' e1 e2=>by
    rcases Nat.lt_trichotomy l μ.length with q | q | q
    · rw [List.getElem?_append_left q] at e1
      rw [List.getElem?_append_left (by rw [←I.len]; exact q)] at e2
      exact (I.obj l a o' e1 e2).step (step_new o) fun _ e=>(yX o (I.new a (zG e1)).2).trans e
    · subst q
      rw [List.getElem?_append_right (Nat.le_refl _)] at e1
      rw [List.getElem?_append_right (by rw [I.len]; exact Nat.le_refl _)] at e2
      simp at e1
      rw [I.len] at e2
      simp at e2
      subst e1 e2
      exact hob
    · rw [List.getElem?_eq_none (by rw [List.length_append,List.length_singleton]; assumption)] at e1
      contradiction
  gens:=I.gens
  os:=I.os
  fix:=by obtain ⟨ν,h⟩:=I.fix; exact ⟨ν++ [s.heap.objs.size],by rw [h,List.append_assoc]⟩
theorem Good.newlist(K:GOk G)(I:Inv G μ σ s){vs:List V}{ys:List Value}(t n:Nat)(q:VRs G μ s.heap vs ys)(hl:vs.length≤LIM) :
    Good G μ s (.loc σ.length) (σ++ [.list vs]) (.ref s.heap.objs.size) {s with heap:=s.heap.push (zN ys n),toks:=t}:=
  ⟨μ++ [s.heap.objs.size],step_new _,I.newloc K _ _ t ⟨ys,n,Heap.get?_push_size _ rfl,hl,q.step (step_new _)⟩,⟨s.heap.objs.size,by refine rl I.len ?_; simp,rfl⟩⟩
theorem step_upd{a:Addr}(ha:a∈μ)(hs:Heap.SameBut a h h'):Step W0 μ μ h h':=
  ⟨⟨[],by simp,by simp⟩,Nat.le_of_eq hs.1.symm,fun b o hb _ e=>(hs.2 b fun q=>hb (q▸ha)).trans e,fun b o hb _ e=>(hs.2 b fun q=>hb (q▸ha)).trans e⟩
theorem Inv.upd(I:Inv G μ σ s){l:Nat}{a:Addr}{ob:AObj}(e:μ[l]?=some a)(hs:Heap.SameBut a s.heap h')(hob:ORel G μ h' a ob)(t:Nat):Inv G μ (σ.set l ob) {s with heap:=h',toks:=t} where
  base:=fun b o' q=>(hs.2 b fun q'=>by rw [q',(I.new a (zG e)).1] at q; contradiction).trans (I.base b o' q)
  new:=fun b hb=>⟨(I.new b hb).1,Nat.lt_of_lt_of_le (I.new b hb).2 (Nat.le_of_eq hs.1.symm)⟩
  nodup:=I.nodup
  len:=by simp [I.len]
  obj:=fun j b o' e1 e2=>by
    by_cases hj:l=j
    · subst hj
      rw [e] at e1; cases e1
      have hlt:l<σ.length:=by refine rl I.len ?_; exact (List.getElem?_eq_some_iff.mp e).1
      rw [List.getElem?_set_self hlt] at e2; cases e2
      exact hob
    · rw [List.getElem?_set_ne hj] at e2
      have hab:b≠a:=fun q=>by
        subst q
        have h1:=(List.getElem?_eq_some_iff.mp e)
        have h2:=(List.getElem?_eq_some_iff.mp e1)
        refine xe11 h1 fun l1 g1=>?_
        refine xe11 h2 fun l2 g2=>?_
        exact hj ((List.getElem_inj I.nodup).mp (g1.trans g2.symm))
      exact (I.obj j b o' e1 e2).step (step_upd (zG e) hs) fun _ e=>(hs.2 b hab).trans e
  gens:=I.gens
  os:=I.os
  fix:=I.fix
noncomputable def za(v:V):EF:=fun _ σ=>some (v,σ)
noncomputable def fVar(i:Nat):EF:=fun ρ σ=>match ρ[i]? with
  | some .undef=>none
  | some v=>some (v,σ)
  | none=>none
theorem zl{i:Int}{k:Nat}{pos:Pos}:SE G r cx (.Constant (.int i) k pos) (za (.int i)):=fun A fm μ ρ σ s v σ' _ _ I _ hf=>by
  cases hf
  exact wpAny_Constant_int (Good.same I _ ⟨_,rfl⟩)
theorem se_bool{b:Bool}{k:Nat}{pos:Pos}:SE G r cx (.Constant (.bool b) k pos) (za (.bool b)):=fun A fm μ ρ σ s v σ' _ _ I _ hf=>by
  cases hf
  exact wpAny_Constant_bool (Good.same0 I rfl)
theorem se_none{k:Nat}{pos:Pos}:SE G r cx (.Constant .none k pos) (za .none):=fun A fm μ ρ σ s v σ' _ _ I _ hf=>by
  cases hf
  exact wpAny_Constant_none (Good.same0 I rfl)
theorem yz{x:Str}{l:List Nat}{k:Nat}{pos:Pos}(hx:x=⟨l.toArray⟩)(hl:okS l):SE G r cx (.Constant (.str x) k pos) (za (.str l)):=fun A fm μ ρ σ s v σ' _ _ I _ hf=>by
  cases hf
  subst hx
  exact wpAny_Constant_str (Good.same I _ ⟨hl,_,rfl⟩)
theorem fVar_some{i:Nat}(hf:fVar i ρ σ=some (v,σ')):ρ[i]?=some v∧v ≠ .undef∧σ'=σ:=by
  unfold fVar at hf
  cases hq:ρ[i]? with
  | none=>rw [hq] at hf; contradiction
  | some w=>
    rw [hq] at hf
    refine (Classical.em (w = .undef)).elim (fun e=>by subst e; contradiction) fun hw=>?_
    have key:(match (some w:Option V) with | some .undef=>none | some v=>some (v,σ) | none=>none)=some (w,σ):=by cases w <;> first | rfl | exact absurd rfl hw
    exact se2 (key.symm.trans hf) ⟨rfl,hw,rfl⟩
theorem zb{i:Nat}{x:Str}{k:VK}{pos:Pos}(e:cx.xs[i]?=some (x,k)):SE G r cx (.Name x pos) (fVar i):=fun A fm μ ρ σ s v σ' _ O I F hf=>
  xe03 (fVar_some hf) fun e1 e2 e3=>e3▸wpAny_Name (load_var O F e e1 e2 fun y q=>Good.same0 I q) (O.nodebug e).1
theorem oE{γ:Type}{x:Option (V × List AObj)}{F:V→List AObj→Option γ}{r:γ}{C:Prop}(h:(match x with | some (a,b)=>F a b | none=>none)=some r)(k:∀a b,x=some (a,b)→F a b=some r→C):C:=by
  cases x with
  | none=>contradiction
  | some p=>exact k p.1 p.2 rfl h
theorem oS{γ:Type}{x:Option (List V × List AObj)}{F:List V→List AObj→Option γ}{r:γ}{C:Prop}(h:(match x with | some (a,b)=>F a b | none=>none)=some r)(k:∀a b,x=some (a,b)→F a b=some r→C):C:=by
  cases x with
  | none=>contradiction
  | some p=>exact k p.1 p.2 rfl h
theorem oM{α:Type}{x:Option α}{σ σ':List AObj}{v:α}{C:Prop}(h:x.map (·,σ)=some (v,σ'))(k:x=some v→σ=σ'→C):C:=by
  cases x with
  | none=>contradiction
  | some p=>exact k (congrArg some (Prod.mk.inj (Option.some.inj h)).1) (Prod.mk.inj (Option.some.inj h)).2
noncomputable def fBin(op:V→V→Option V)(f g:EF):EF:=fun ρ σ=>match f ρ σ with
  | some (a,σ)=>match g ρ σ with
    | some (b,σ)=>(op a b).map (·,σ)
    | none=>none
  | none=>none
theorem fBin_some{op:V→V→Option V}{f g:EF}(hf:fBin op f g ρ σ=some (v,σ')):∃a b σ₁,f ρ σ=some (a,σ₁)∧g ρ σ₁=some (b,σ')∧op a b=some v:=
  oE hf fun a σ₁ e1 hf=>oE hf fun b _ e2 hf=>oM hf fun e3 e=>⟨a,b,σ₁,e1,e▸e2,e3⟩
noncomputable def opAdd:V→V→Option V
  | .int a, .int b=>some (.int (a+b))
  | .str x, .str y=>if x.length+y.length≤LIM then some (.str (x++y)) else none
  | .lst x, .lst y=>if x.length+y.length≤LIM then some (.lst (x++y)) else none
  | _,_=>none
noncomputable def opSub:V→V→Option V
  | .int a, .int b=>some (.int (a-b))
  | _,_=>none
noncomputable def opMul:V→V→Option V
  | .int a, .int b=>if -1000000<a∧a<1000000 then some (.int (a*b)) else none
  | _,_=>none
noncomputable def opFdiv:V→V→Option V
  | .int a, .int b=>if 0<b∧b<1000000000 then some (.int (a/b)) else none
  | _,_=>none
noncomputable def opMod:V→V→Option V
  | .int a, .int b=>if 0<b then some (.int (a%b)) else none
  | _,_=>none
noncomputable def opShr:V→V→Option V
  | .int a, .int b=>if b=1 then some (.int (a/2)) else none
  | _,_=>none
noncomputable def opPow:V→V→Option V
  | .int a, .int b=>if 0≤b∧b≤1000∧ -1000000<a∧a<1000000 then some (.int (a ^ b.toNat)) else none
  | _,_=>none
noncomputable def opOf:Operator→V→V→Option V
  | .Add=>opAdd | .Sub=>opSub | .Mult=>opMul | .FloorDiv=>opFdiv | .Mod=>opMod | .RShift=>opShr | .Pow=>opPow
  | _=>fun _ _=>none
theorem okS.append{x y:List Nat}(hx:okS x)(hy:okS y)(h:x.length+y.length≤LIM):okS (x++y):=
  ⟨by simpa using h,fun c hc=>(List.mem_append.mp hc).elim (hx.2 c) (hy.2 c)⟩
theorem yd:LIM≤sizeLine:=by decide +kernel
theorem oIf{α:Type}{c:Prop} [Decidable c] {x v:α}{C:Prop}(h:(if c then some x else none)=some v)(k:c→x=v→C):C:=by
  by_cases hc:c
  · rw [if_pos hc] at h; exact k hc (Option.some.inj h)
  · rw [if_neg hc] at h; contradiction
@[elab_as_elim] theorem oInt{γ:Type}{v:γ}{F:Int→Int→Option γ}{a b:V}{P:V→V→Prop}(h:(match a,b with | .int a, .int b=>F a b | _,_=>none)=some v)(k:∀i j,F i j=some v→P (.int i) (.int j)):P a b:=by
  cases a with
  | int i=>cases b with
    | int j=>exact k i j h
    | _=>contradiction
  | _=>contradiction
theorem oLoc{γ:Type}{v:γ}{F:Nat→Option γ}{a:V}{C:Prop}(h:(match a with | .loc i=>F i | _=>none)=some v)(k:∀i,a = .loc i→F i=some v→C):C:=by
  cases a with
  | loc i=>exact k i rfl h
  | _=>contradiction
theorem oStr{γ:Type}{v:γ}{F:List Nat→Option γ}{a:V}{C:Prop}(h:(match a with | .str i=>F i | _=>none)=some v)(k:∀i,a = .str i→F i=some v→C):C:=by
  cases a with
  | str i=>exact k i rfl h
  | _=>contradiction
theorem oNum{γ:Type}{v:γ}{F:Int→Option γ}{a:V}{C:Prop}(h:(match a with | .int i=>F i | _=>none)=some v)(k:∀i,a = .int i→F i=some v→C):C:=by
  cases a with
  | int i=>exact k i rfl h
  | _=>contradiction
theorem oLst{γ:Type}{v:γ}{F:List V→Option γ}{a:V}{C:Prop}(h:(match a with | .lst i=>F i | _=>none)=some v)(k:∀i,a = .lst i→F i=some v→C):C:=by
  cases a with
  | lst i=>exact k i rfl h
  | _=>contradiction
theorem oOne{γ:Type}{v:γ}{F:V→Option γ}{a:List V}{C:Prop}(h:(match a with | [i]=>F i | _=>none)=some v)(k:∀i,a= [i]→F i=some v→C):C:=by
  cases a with
  | nil=>contradiction
  | cons x r=>cases r with
    | nil=>exact k x rfl h
    | cons _ _=>contradiction
theorem oObj{γ:Type}{v:γ}{F:List V→Option γ}{a:Option AObj}{C:Prop}(h:(match a with | some (.list i)=>F i | _=>none)=some v)(k:∀i,a=some (.list i)→F i=some v→C):C:=by
  cases a with
  | none=>contradiction
  | some x=>cases x with
    | list i=>exact k i rfl h
    | _=>contradiction
@[elab_as_elim] theorem oInt2{γ:Type}{v:γ}{F:Int→Int→Option γ}{a b:V}{y z:Value}{P:Value→Value→Prop}(h:(match a,b with | .int a, .int b=>F a b | _,_=>none)=some v)(qa:VR G μ s.heap a y)(qb:VR G μ s.heap b z)(k:∀i j t u,F i j=some v→P (.int i t) (.int j u)):P y z:=by
  refine oInt (P:=fun a b=>VR G μ s.heap a y→VR G μ s.heap b z→P y z) h (fun i j h qa qb=>?_) qa qb
  exact Exists.elim qa fun t e1=>Exists.elim qb fun u e2=>e1▸e2▸k i j t u h
inductive Added:V→V→V→Prop
  | int {i j:Int}:Added (.int i) (.int j) (.int (i+j))
  | str {x y:List Nat}:x.length+y.length≤LIM→Added (.str x) (.str y) (.str (x++y))
  | lst {x y:List V}:x.length+y.length≤LIM→Added (.lst x) (.lst y) (.lst (x++y))
theorem opAdd_inv{a b:V}(h:opAdd a b=some v):Added a b v:=by
  cases a with
  | int i=>cases b with
    | int j=>exact se1 h .int
    | _=>contradiction
  | str x=>cases b with
    | str y=>exact oIf h fun hl e=>e ▸ .str hl
    | _=>contradiction
  | lst x=>cases b with
    | lst y=>exact oIf h fun hl e=>e ▸ .lst hl
    | _=>contradiction
  | _=>contradiction
theorem Good.strs(I:Inv G μ σ s){x y:List Nat}{t u t':Tok}(hx:okS x)(hy:okS y)(hl:x.length+y.length≤LIM)(tk:Nat):Good G μ s (.str (x++y)) σ (.str (Str.append ⟨x.toArray⟩ ⟨y.toArray⟩) t') {s with toks:=tk}:=
  Good.same I tk ⟨hx.append hy hl,t',congrArg (fun c=>Value.str ⟨c⟩ t') (List.append_toArray x y)⟩
theorem op_sound{op:Operator}{a b:V}{y z:Value}(I:Inv G μ σ s)(qa:VR G μ s.heap a y)(qb:VR G μ s.heap b z)(h:opOf op a b=some v) :
    wpAny (model G.prog G.w) A (binaryOp op y z) (Good G μ s v σ) (fun _ _=>False) s:=by
  cases op with
  | Add=>
    have h:=opAdd_inv h
    cases h with
    | int=>exact Exists.elim qa fun t e1=>Exists.elim qb fun u e2=>e1▸e2▸P.add_int (Good.same I _ ⟨_,rfl⟩)
    | @str x y hl=>exact Exists.elim (And.right qa) fun t e1=>Exists.elim (And.right qb) fun u e2=>e1▸e2▸PyProof.Rows.add_str (fun t' tk=>Good.strs I (t:=t) (u:=u) (And.left qa) (And.left qb) hl tk) (Nat.le_trans hl yd)
    | lst hl=>
      refine xe33 qa fun a1 xs n e1 _ g=>xe33 qb fun a2 ys k e2 _ g'=>e1▸e2▸P.add_list g.1 g'.1 ?_ (Nat.le_trans (Nat.le_of_eq ?_) (Nat.le_trans hl yd))
      · exact (List.append_toArray xs ys)▸Good.lst I s.toks 0 (g.2.2.append g'.2.2) (List.length_append▸hl)
      · exact congrArg (fun n=>n+ys.length) g.2.2.length |>.trans (congrArg _ g'.2.2.length)
  | Sub=>exact oInt2 h qa qb fun i j t u h=>se1 h (P.sub_int (Good.same I _ ⟨_,rfl⟩))
  | Mult=>exact oInt2 h qa qb fun i j t u h=>oIf h fun hc e=>e▸P.mul_int (Good.same I _ ⟨_,rfl⟩) (IntMulOk.of_left (intBits_le_64 (by omega) (by omega)))
  | Mod=>exact oInt2 h qa qb fun i j t u h=>oIf h fun hc e=>e▸PyProof.Rows.mod_int' (by lia) (Good.same I _ ⟨s.toks,congrArg (Value.int · _) (Int.fmod_eq_emod_of_nonneg _ (Int.le_of_lt hc))⟩)
  | Pow=>
    refine oInt2 h qa qb fun i j t u h=>oIf h fun hc e=>e▸PyProof.Rows.pow_int (by omega) ?_ (Good.same I _ ⟨_,rfl⟩)
    have h1:=intBits_le_64 (k:=i) (by omega) (by omega)
    have h2:(Builtin.Int.intBits i:Int)≤64:=by lia
    refine Int.le_trans (Int.mul_le_mul_of_nonneg_right h2 (by omega)) ?_
    omega
  | RShift=>exact oInt2 h qa qb fun i j t u h=>oIf h fun hc e=>e▸hc▸PyProof.Rows.rshift_int (by solve_by_elim [Nat.le_of_lt,Nat.lt_of_lt_of_le,Nat.lt_of_le_of_lt]) (Good.same I _ ⟨s.toks,congrArg (Value.int · _) (PySem.fdiv_two _)⟩)
  | FloorDiv=>exact oInt2 h qa qb fun i j t u h=>oIf h fun hc e=>e▸PyProof.Rows.floordiv_int (by lia) (Good.same I _ ⟨s.toks,congrArg (Value.int · _) (Int.fdiv_eq_ediv_of_nonneg _ (Int.le_of_lt hc.1))⟩) (hp:= .inl (PyProof.noPylong_small (by omega)))
  | _=>contradiction
theorem zq{op:Operator}{l rr:Expr}{pos:Pos}{f g:EF}(hl:SE G r cx l f)(hr:SE G r cx rr g):SE G r cx (.BinOp l op rr pos) (fBin (opOf op) f g):=fun A fm μ ρ σ s v σ' a O I F hf=>by
  refine xe33 (fBin_some hf) fun x y σ₁ e1 e2 e3=>wpAny_BinOp (hl.use a O I F e1 fun p s₁ μ₁ st₁ I₁ F₁ q₁=>hr.use a O I₁ F₁ e2 fun q s₂ μ₂ st₂ I₂ F₂ q₂=>?_)
  exact wpAny_mono (op_sound I₂ (q₁.step st₂) q₂ e3) (fun _ _ g=>g.after (st₁.trans st₂)) fun _ _ x=>x
end
end Mi
namespace Mi
mutual
noncomputable def V.pd(n:Nat):V→Bool
  | .none=>true
  | .bool _=>true
  | .int _=>true
  | .str _=>true
  | .tup vs=>match n with
    | 0=>false
    | n+1=>V.pdAll n vs
  | .lst vs=>match n with
    | 0=>false
    | n+1=>V.pdAll n vs
  | .undef=>false
  | .loc _=>false
  | .cst _=>false
noncomputable def V.pdAll(n:Nat):List V→Bool
  | []=>true
  | v::vs=>V.pd n v&&V.pdAll n vs
end
mutual
noncomputable def V.data:V→PyData
  | .bool b=> .bool b
  | .int i=> .int i
  | .str x=> .str ⟨x.toArray⟩
  | .tup vs=> .tuple (V.datas vs)
  | .lst vs=> .list (V.datas vs)
  | _=> .none
noncomputable def V.datas:List V→List PyData
  | []=> []
  | v::vs=>V.data v::V.datas vs
end
mutual
noncomputable def V.eqv:V→V→Bool
  | .none, .none=>true
  | .bool a, .bool b=>a==b
  | .bool a, .int j=>(if a then 1 else 0)==j
  | .int i, .bool b=>i==(if b then 1 else 0)
  | .int i, .int j=>i==j
  | .str x, .str y=>x==y
  | .tup xs, .tup ys=>V.eqvs xs ys
  | .lst xs, .lst ys=>V.eqvs xs ys
  | _,_=>false
noncomputable def V.eqvs:List V→List V→Bool
  | [], []=>true
  | x::xs,y::ys=>V.eqv x y&&V.eqvs xs ys
  | _,_=>false
end
theorem str_beq(x y:List Nat):((⟨x.toArray⟩:Str)==⟨y.toArray⟩)=(x==y):=by
  have:((⟨x.toArray⟩:Str)==⟨y.toArray⟩)=decide ((⟨x.toArray⟩:Str)=⟨y.toArray⟩):=rfl
  refine rg this ?_
  by_cases h:x=y
  · subst h; simp
  · have:¬(⟨x.toArray⟩:Str)=⟨y.toArray⟩:=fun q=>h (by simpa using congrArg Str.cps q)
    refine rg (decide_eq_false this) ?_
    simp [h]
theorem pd_tup{n:Nat}{vs:List V}(h:V.pd n (.tup vs)=true):∃k,n=k+1∧V.pdAll k vs=true:=by
  cases n with
  | zero=>contradiction
  | succ n=>exact ⟨n,rfl,h⟩
theorem pd_lst{n:Nat}{vs:List V}(h:V.pd n (.lst vs)=true):∃k,n=k+1∧V.pdAll k vs=true:=pd_tup h
mutual
theorem data_eqv:∀(v w:V) (n k:Nat),V.pd n v=true→V.pd k w=true→PyData.eqv (V.data v) (V.data w)=V.eqv v w
  | .tup xs=>fun w n k h h'=>by
    cases w with
    | tup ys=>exact xe12 (pd_tup h) fun n _ h=>xe12 (pd_tup h') fun k _ h'=>datas_eqv xs ys n k h h'
    | _=>first | rfl | exact nomatch h'
  | .lst xs=>fun w n k h h'=>by
    cases w with
    | lst ys=>exact xe12 (pd_lst h) fun n _ h=>xe12 (pd_lst h') fun k _ h'=>datas_eqv xs ys n k h h'
    | _=>first | rfl | exact nomatch h'
  | .str x=>fun w _ _ _ h'=>by
    cases w with
    | str y=>exact str_beq x y
    | _=>first | rfl | exact nomatch h'
  | .none=>fun w _ _ _ h'=>by cases w <;> first | rfl | exact nomatch h'
  | .bool _=>fun w _ _ _ h'=>by cases w <;> first | rfl | exact nomatch h'
  | .int _=>fun w _ _ _ h'=>by cases w <;> first | rfl | exact nomatch h'
  | .undef=>fun _ _ _ h _=>nomatch h
  | .loc _=>fun _ _ _ h _=>nomatch h
  | .cst _=>fun _ _ _ h _=>nomatch h
theorem datas_eqv:∀(vs ws:List V) (n k:Nat),V.pdAll n vs=true→V.pdAll k ws=true→PyData.eqvAll (V.datas vs) (V.datas ws)=V.eqvs vs ws
  | []=>fun ws _ _ _ _=>by cases ws <;> rfl
  | v::vs=>fun ws n k h h'=>by
    cases ws with
    | nil=>rfl
    | cons w ws=>exact congr (congrArg (· && ·) (data_eqv v w n k (Bool.and_eq_true_iff.mp h).1 (Bool.and_eq_true_iff.mp h').1)) (datas_eqv vs ws n k (Bool.and_eq_true_iff.mp h).2 (Bool.and_eq_true_iff.mp h').2)
end
mutual
theorem data_depth:∀(v:V) (n:Nat),V.pd n v=true→(V.data v).depth≤n
  | .tup vs=>fun n h=>xe12 (pd_tup h) fun k e h=>e▸Nat.succ_le_succ (datas_depth vs k h)
  | .lst vs=>fun n h=>xe12 (pd_lst h) fun k e h=>e▸Nat.succ_le_succ (datas_depth vs k h)
  | .none=>fun n _=>Nat.zero_le n
  | .bool _=>fun n _=>Nat.zero_le n
  | .int _=>fun n _=>Nat.zero_le n
  | .str _=>fun n _=>Nat.zero_le n
  | .undef=>fun n _=>Nat.zero_le n
  | .loc _=>fun n _=>Nat.zero_le n
  | .cst _=>fun n _=>Nat.zero_le n
theorem datas_depth:∀(vs:List V) (n:Nat),V.pdAll n vs=true→PyData.depthAll (V.datas vs)≤n
  | []=>fun n _=>Nat.zero_le n
  | v::vs=>fun n h=>Nat.max_le.mpr ⟨data_depth v n (Bool.and_eq_true_iff.mp h).1,datas_depth vs n (Bool.and_eq_true_iff.mp h).2⟩
end
section
variable {G:Gd}{r:Nat}{cx:Cx}{fm:Fm}{μ μ':List Addr}{h h':Heap}{ρ:List V}{σ σ' σ₁:List AObj}{A:Around}{E:Value→Shared→Prop}{s s':Shared}{v w:V}{b:Bool}{e:Expr}
theorem str_lays{x:List Nat}(hx:okS x):PyData.canLay0 (.str ⟨x.toArray⟩)=true:=by
  simp only [PyData.canLay0,PyData.strOk]
  rw [Array.all_eq_true_iff_forall_mem]
  intro c hc; simpa using hx.2 c (by simpa using hc)
mutual
theorem VR.reads:∀(v:V) (n:Nat) (y:Value),V.pd n v=true→VR G μ h v y→(V.data v).canLay0=true∧∃as,Reads h y (V.data v) as
  | .none=>fun _ y _ q=>⟨rfl, [],(q:y=_) ▸ .none⟩
  | .bool b=>fun _ y _ q=>⟨rfl, [],(q:y=_) ▸ .bool b⟩
  | .int i=>fun _ _ _ q=>⟨rfl, [],Exists.elim q fun t q=>q ▸ .int i t⟩
  | .str x=>fun _ _ _ q=>⟨str_lays (And.left q), [],Exists.elim (And.right q) fun t q=>q ▸ .str _ t⟩
  | .tup vs=>fun n _ hp q=>xe33 q fun a items k q _ h=>xe12 (pd_tup hp) fun n _ hp=>(VRs.reads vs n items hp h.2.2).elim fun h1 h2=>h2.elim fun as h2=>⟨h1,as,q ▸ .tuple h.1 rfl rfl h2⟩
  | .lst vs=>fun n _ hp q=>xe33 q fun a items k q _ h=>xe12 (pd_lst hp) fun n _ hp=>(VRs.reads vs n items hp h.2.2).elim fun h1 h2=>h2.elim fun as h2=>⟨h1,a::as,q ▸ .list h.1 rfl rfl h2⟩
  | .undef=>fun _ _ hp _=>nomatch hp
  | .loc _=>fun _ _ hp _=>nomatch hp
  | .cst _=>fun _ _ hp _=>nomatch hp
theorem VRs.reads:∀(vs:List V) (n:Nat) (ys:List Value),V.pdAll n vs=true→VRs G μ h vs ys→PyData.canLayAll0 (V.datas vs)=true∧∃as,ReadsAll h ys (V.datas vs) as
  | []=>fun _ ys _ q=>⟨rfl, [],(q:ys=_) ▸ .nil⟩
  | v::vs=>fun n _ hp q=>xe23 q fun y ys q1 q2 q3=>(VR.reads v n y (Bool.and_eq_true_iff.mp hp).1 q2).elim fun h1 h2=>(VRs.reads vs n ys (Bool.and_eq_true_iff.mp hp).2 q3).elim fun h3 h4=>
    h2.elim fun as h2=>h4.elim fun bs h4=>⟨Bool.and_eq_true_iff.mpr ⟨h1,h3⟩,as++bs,by rw [q1]; exact ReadsAll.cons h2 h4⟩
end
theorem datas_any(d:V)(n k:Nat)(hd:V.pd k d=true):∀(vs:List V),V.pdAll n vs=true→(V.datas vs).any (fun y=>PyData.eqv y (V.data d))=vs.any (fun y=>V.eqv y d)
  | []=>fun _=>rfl
  | v::vs=>fun h=>congr (congrArg (· || ·) (data_eqv v d n k (Bool.and_eq_true_iff.mp h).1 hd)) (datas_any d n k hd vs (Bool.and_eq_true_iff.mp h).2)
noncomputable def yx(σ:List AObj):V→Option V
  | .loc l=>match σ[l]? with
    | some (.list vs)=>some (.lst vs)
    | _=>none
  | v=>some v
noncomputable def yM(σ:List AObj):V→Option (List V)
  | .loc l=>match σ[l]? with
    | some (.list vs)=>some vs
    | _=>none
  | .lst vs=>some vs
  | .tup vs=>some vs
  | _=>none
theorem vlook_inv(h:yx σ v=some w):(v=w∧∀l,v ≠ .loc l)∨∃l vs,v = .loc l∧σ[l]?=some (.list vs)∧w = .lst vs:=by
  cases v with
  | loc l=>
    have h:(match σ[l]? with | some (.list vs)=>some (V.lst vs) | _=>none)=some w:=h
    cases e:σ[l]? with
    | none=>rw [e] at h; contradiction
    | some o=>
      rw [e] at h
      cases o with
      | list vs=>exact .inr ⟨l,vs,rfl,e,(Option.some.inj h).symm⟩
      | _=>contradiction
  | _=>exact .inl ⟨Option.some.inj h,nofun⟩
theorem VR.islist(I:Inv G μ σ s){y:Value}{vs:List V}(q:VR G μ s.heap v y)(hv:yx σ v=some (.lst vs)) :
    ∃a items n,y = .ref a∧s.heap.get? a=some (zN items n)∧vs.length≤LIM∧VRs G μ s.heap vs items:=by
  rcases vlook_inv hv with ⟨rfl,_⟩ | ⟨l,ws,rfl,e,e'⟩
  · exact xe33 q fun a items n e1 _ h=>⟨a,items,n,e1,h⟩
  · exact xe12 q fun a e1 e2=>xe21 (I.obj l a _ e1 e) fun items n h=>⟨a,items,n,e2,V.lst.inj e'▸h⟩
theorem look_reads(I:Inv G μ σ s){y:Value}{n:Nat}(q:VR G μ s.heap v y)(hv:yx σ v=some w)(hp:V.pd n w=true):(V.data w).canLay0=true∧∃as,Reads s.heap y (V.data w) as:=by
  rcases vlook_inv hv with ⟨rfl,_⟩ | ⟨l,vs,e,_,rfl⟩
  · exact VR.reads _ n y hp q
  · exact xe33 (q.islist I hv) fun a items k e1 e2 h=>xe12 (pd_lst hp) fun n _ hp=>(VRs.reads vs n items hp h.2).elim fun h1 h2=>h2.elim fun as h2=>⟨h1,a::as,e1 ▸ .list e2 rfl rfl h2⟩
noncomputable def Zd(σ:List AObj)(a b:V):Option Bool:=match yx σ a,yx σ b with
  | some x,some y=>if V.pd 8 x∧V.pd 8 y then some (V.eqv x y) else none
  | _,_=>none
noncomputable def zM:List V→Option (List Int)
  | []=>some []
  | .int i::r=>(zM r).map (i:: ·)
  | _::_=>none
noncomputable def Zs:List Int→List Int→Bool
  | [], []=>false
  | [],_::_=>true
  | _::_, []=>false
  | a::r,b::t=>if a=b then Zs r t else decide (a<b)
noncomputable def cmpLt:V→V→Option Bool
  | .int a, .int b=>some (decide (a<b))
  | .tup a, .tup b=>match zM a,zM b with
    | some x,some y=>some (Zs x y)
    | _,_=>none
  | _,_=>none
noncomputable def cmpIn(σ:List AObj)(a b:V):Option Bool:=match b with
  | .str x=>match a with
    | .str [c]=>some (x.contains c)
    | _=>none
  | .tup vs=>if V.pd 8 a∧V.pdAll 8 vs then some (vs.any fun y=>V.eqv y a) else none
  | b=>match yx σ b with
    | some (.lst vs)=>if V.pd 8 a∧V.pdAll 8 vs then some (vs.any fun y=>V.eqv y a) else none
    | _=>none
noncomputable def cmpOf(op:CmpOp)(σ:List AObj)(a b:V):Option Bool:=match op with
  | .Eq=>Zd σ a b
  | .NotEq=>(Zd σ a b).map (!·)
  | .Lt=>cmpLt a b
  | .LtE=>match a,b with
    | .int a, .int b=>some (decide (a≤b))
    | _,_=>none
  | .Gt=>match a,b with
    | .int a, .int b=>some (decide (b<a))
    | _,_=>none
  | .GtE=>match a,b with
    | .int a, .int b=>some (decide (b≤a))
    | _,_=>none
  | .In=>cmpIn σ a b
  | .NotIn=>(cmpIn σ a b).map (!·)
  | _=>none
theorem shaped_of{d:PyData}(h:d.canLay0=true)(h8:d.depth≤8):SeqAt.shaped d=true:=by
  dsimp only [SeqAt.shaped,h,Bool.true_and,decide_eq_true_eq]; lia
theorem cmpEq_reads(I:Inv G μ σ s){a b:V}{y z:Value}(qa:VR G μ s.heap a y)(qb:VR G μ s.heap b z){c:Bool}(h:Zd σ a b=some c) :
    ∃d1 d2 as bs,Reads s.heap y d1 as∧Reads s.heap z d2 bs∧SeqAt.shaped d1=true∧SeqAt.shaped d2=true∧PyData.eqv d1 d2=c:=by
  have hx:∃x w,yx σ a=some x∧yx σ b=some w∧(V.pd 8 x=true∧V.pd 8 w=true)∧V.eqv x w=c:=by
    unfold Zd at h
    split at h
    · rename_i x w e1 e2; exact oIf h fun hp e=>⟨x,w,e1,e2,hp,e⟩
    · contradiction
  exact xe24 hx fun x w e1 e2 hp e=>(look_reads I qa e1 hp.1).elim fun h1 h2=>(look_reads I qb e2 hp.2).elim fun h3 h4=>h2.elim fun as h2=>h4.elim fun bs h4=>
    ⟨_,_,as,bs,h2,h4,shaped_of h1 (data_depth x 8 hp.1),shaped_of h3 (data_depth w 8 hp.2),(data_eqv x w 8 8 hp.1 hp.2).trans e⟩
end
end Mi
namespace Mi
open AutoSeq1 (wpAny_loadPart')
open MeetsSeq MeetsSeq2 MeetsSeq3 SeqRoads2 SeqAt
theorem ints_ne{a b:Int}{t u:Tok}(h:¬a=b):EqGives (.int a t) (.int b u) false:=by
  have:=EqGives.int a b t u
  have e:(a==b)=false:=by simpa using h
  rwa [e] at this
noncomputable def TL(l1 l2:Nat)(P:Bool→Prop)(rest:List (Value × Value)):Prop:=
  ∃as bs xs ys k,rest=List.zip as bs∧IntsAre as xs∧IntsAre bs ys∧l1=as.length+k∧l2=bs.length+k∧P (Zs xs ys)
theorem TL.nil{l1 l2:Nat}{P:Bool→Prop}(h:TL l1 l2 P []):P (decide (l1<l2)):=by
  refine xe54 h fun as bs xs ys k e1 ha hb h=>?_
  obtain ⟨e2,e3,hP⟩:=h
  subst e2 e3
  cases ha with
  | nil=>cases hb with
    | nil=>exact decide_eq_false (Nat.lt_irrefl _)▸hP
    | cons=>exact decide_eq_true (Nat.add_lt_add_right (Nat.succ_pos _) k)▸hP
  | cons=>cases hb with
    | nil=>exact decide_eq_false (Nat.not_lt.mpr (Nat.add_le_add_right (Nat.zero_le _) k))▸hP
    | cons=>contradiction
theorem TL.cons{l1 l2:Nat}{P:Bool→Prop}{y x:Value}{rest:List (Value × Value)}(h:TL l1 l2 P ((y,x)::rest)):∃i j t u,y = .int i t∧x = .int j u∧((i=j∧TL l1 l2 P rest)∨(¬i=j∧P (decide (i<j)))):=by
  refine xe54 h fun as bs xs ys k e1 ha hb h=>?_
  cases ha with
  | nil=>contradiction
  | cons a ta ha=>cases hb with
    | nil=>contradiction
    | cons c tc hb=>
      rw [List.zip_cons_cons] at e1
      have e2:=Prod.mk.inj (List.cons.inj e1).1
      refine ⟨a,c,ta,tc,e2.1,e2.2,?_⟩
      by_cases hac:a=c
      · refine .inl ⟨hac,_,_,_,_,k+1,(List.cons.inj e1).2,ha,hb,h.1.trans (Nat.add_right_comm _ 1 k),h.2.1.trans (Nat.add_right_comm _ 1 k),?_⟩
        subst hac; simpa [Zs] using h.2.2
      · exact .inr ⟨hac,by simpa [Zs,hac] using h.2.2⟩
theorem tuple_lt_ints(l b:Addr)(items items2:List Value)(n n2:Nat)(xs ys:List Int)(hx:IntsAre items xs)(hy:IntsAre items2 ys) :
    Meets (Builtin.«tuple.__lt__» ⟨[.ref l, .ref b], []⟩)
      (fun A R s=>s.heap.get? l=some (tupObj items n)∧s.heap.get? b=some (tupObj items2 n2)∧R (.ok (.ret (.bool (Zs xs ys)))) s):=
  .of_wp fun prog w A R s h=>by
    obtain ⟨hp,g,d,tk,os⟩:=s; refine xe03 h fun hl hb h=>?_
    have f2:=AutoSeq1.sub_tuple_tuple
    wp_walk using wpAny_loadPart' hl,wpAny_loadPart' hb,wpAny_forIn_list _ (fun rest b s'=>b.1=none∧s'=⟨hp,g,d,tk,os⟩∧TL items.length items2.length (fun b=>R (.ok (.ret (.bool b))) ⟨hp,g,d,tk,os⟩) rest) _
    case turn=>
      rintro ⟨y,x⟩ rest b s' ⟨hb',rfl,hT⟩
      obtain ⟨a,c,ta,tc,rfl,rfl,h⟩:=hT.cons
      clear hT hx hy hl hb f2
      rcases h with ⟨rfl,hT⟩ | ⟨hac,hR⟩
      · refine wpAny_bind (EqGives.int a a ta tc prog w _ _ _ _ ?_)
        dsimp only [beq_self_eq_true]
        wp_walk
        exact ⟨rfl,rfl,hT⟩
      · refine wpAny_bind (ints_ne hac prog w _ _ _ _ ?_)
        dsimp only [Bool.not_false,if_true]
        refine wpAny_bind (wpAny_rule ?_)
        refine wpAny_bind (show wpAny (model prog w) _ (compareOp .Lt (.int a ta) (.int c tc)) _ _ _ from P.lt_int ?_)
        wp_walk
        exact ⟨_,rfl,hR⟩
    case fin=>
      rintro ⟨b1,b2⟩ s' ⟨hb',rfl,hT⟩
      simp only at hb'
      subst hb'
      wp_walk
      exact ⟨_,rfl,hT.nil⟩
    case h=>
      exact ⟨rfl,rfl,items,items2,xs,ys,0,rfl,hx,hy,rfl,rfl,h⟩
section
variable {G:Gd}{r:Nat}{cx:Cx}{fm:Fm}{μ μ':List Addr}{h h':Heap}{ρ:List V}{σ σ' σ₁:List AObj}{A:Around}{E:Value→Shared→Prop}{s s':Shared}{v w:V}{b:Bool}{e:Expr}
theorem yG:∀{vs:List V} {xs:List Int} {ys:List Value},zM vs=some xs→VRs G μ h vs ys→IntsAre ys xs
  | []=>fun e q=>(q:_= [])▸Option.some.inj e ▸ .nil
  | v::vs=>fun e q=>xe23 q fun y ys' e1 e2 e3=>by
    cases v with
    | int i=>exact xe12 (Option.map_eq_some_iff.mp e) fun r h1 h2=>Exists.elim e2 fun t e2=>e1▸e2▸h2 ▸ .cons i t (yG h1 e3)
    | _=>contradiction
inductive InN (A:Around) (h:Heap) (y z:Value):Bool→Prop
  | str {c:Nat} {x:List Nat} {t u:Tok}:y = .str ⟨#[c]⟩ t→z = .str ⟨x.toArray⟩ u→InN A h y z (x.contains c)
  | tup {xs:List PyData} {d:PyData} {as bs:List Addr}:Reads h z (.tuple xs) as→Reads h y d bs→PyData.canLayAll0 xs=true→d.canLay0=true→A.units+1+min (PyData.depthAll xs) d.depth<cLine→InN A h y z (xs.any fun e=>PyData.eqv e d)
  | lst {xs:List PyData} {d:PyData} {as bs:List Addr}:Reads h z (.list xs) as→Reads h y d bs→PyData.canLayAll0 xs=true→d.canLay0=true→A.units+1+min (PyData.depthAll xs) d.depth<cLine→InN A h y z (xs.any fun e=>PyData.eqv e d)
theorem in_room{n m:Nat}(a1:A.units+500<cLine)(h:m≤8):A.units+1+min n m<cLine:=by lia
theorem cmpIn_inv{a c:V}(h:cmpIn σ a c=some b):(∃u x,a = .str [u]∧c = .str x∧x.contains u=b)∨∃vs,(c = .tup vs∨yx σ c=some (.lst vs))∧(V.pd 8 a=true∧V.pdAll 8 vs=true)∧(vs.any fun y=>V.eqv y a)=b:=by
  cases c with
  | str x=>cases a with
    | str y=>cases y with
      | nil=>contradiction
      | cons u t=>cases t with
        | nil=>exact .inl ⟨u,x,rfl,rfl,Option.some.inj h⟩
        | cons _ _=>contradiction
    | _=>contradiction
  | tup vs=>exact .inr (oIf h fun hp e=>⟨vs, .inl rfl,hp,e⟩)
  | lst vs=>exact .inr (oIf h fun hp e=>⟨vs, .inr rfl,hp,e⟩)
  | loc l=>
    have h:(match yx σ (.loc l) with | some (.lst vs)=>if V.pd 8 a∧V.pdAll 8 vs then some (vs.any fun y=>V.eqv y a) else none | _=>none)=some b:=h
    cases e:yx σ (.loc l) with
    | none=>rw [e] at h; contradiction
    | some w=>
      rw [e] at h
      cases w with
      | lst vs=>exact .inr (oIf h fun hp e=>⟨vs, .inr rfl,hp,e⟩)
      | _=>contradiction
  | _=>contradiction
theorem cmpIn_norm{a c:V}{y z:Value}(a1:A.units+500<cLine)(I:Inv G μ σ s)(qa:VR G μ s.heap a y)(qb:VR G μ s.heap c z)(h:cmpIn σ a c=some b):InN A s.heap y z b:=by
  rcases cmpIn_inv h with ⟨u,x,rfl,rfl,rfl⟩ | ⟨vs,hv,hp,rfl⟩
  · exact Exists.elim (And.right qa) fun _ e1=>Exists.elim (And.right qb) fun _ e2=> .str e1 e2
  · refine (VR.reads _ 8 _ hp.1 qa).elim fun h1 h2=>h2.elim fun as h2=>datas_any _ _ _ hp.1 _ hp.2▸hv.elim (fun e=>?_) fun e=>?_
    · subst e
      exact xe33 qb fun a2 items n e _ g=>(VRs.reads _ 8 _ hp.2 g.2.2).elim fun h3 h4=>h4.elim fun bs h4=>e ▸ .tup (.tuple g.1 rfl rfl h4) h2 h3 h1 (in_room a1 (data_depth _ 8 hp.1))
    · exact xe33 (qb.islist I e) fun a2 items n e g2 g=>(VRs.reads _ 8 _ hp.2 g.2).elim fun h3 h4=>h4.elim fun bs h4=>e ▸ .lst (.list g2 rfl rfl h4) h2 h3 h1 (in_room a1 (data_depth _ 8 hp.1))
theorem in_sound{y z:Value}(N:InN A s.heap y z b){Q:Value→Shared→Prop}(hQ:Q (.bool b) s):wpAny (model G.prog G.w) A (compareOp .In y z) Q E s:=by
  cases N with
  | str e1 e2=>exact e1▸e2▸PyProof.Rows.in_str (by rw [StrLaws.found_one]; simpa using hQ)
  | tup h1 h2 h3 h4 h5=>exact SeqAt.in_tuple_reads h1 h2 h3 h4 h5 hQ
  | lst h1 h2 h3 h4 h5=>exact SeqAt.in_list_reads h1 h2 h3 h4 h5 hQ
theorem notIn_sound{y z:Value}(N:InN A s.heap y z b){Q:Value→Shared→Prop}(hQ:Q (.bool (!b)) s):wpAny (model G.prog G.w) A (compareOp .NotIn y z) Q E s:=by
  cases N with
  | str e1 e2=>exact e1▸e2▸PyProof.Rows.notIn_str (by rw [StrLaws.found_one]; simpa using hQ)
  | tup h1 h2 h3 h4 h5=>exact SeqAt.notIn_tuple_reads h1 h2 h3 h4 h5 hQ
  | lst h1 h2 h3 h4 h5=>exact SeqAt.notIn_list_reads h1 h2 h3 h4 h5 hQ
inductive LtN:V→V→Bool→Prop
  | int {i j:Int}:LtN (.int i) (.int j) (decide (i<j))
  | tup {vs ws:List V} {xs ys:List Int}:zM vs=some xs→zM ws=some ys→LtN (.tup vs) (.tup ws) (Zs xs ys)
theorem cmpLt_inv{a c:V}(h:cmpLt a c=some b):LtN a c b:=by
  cases a with
  | int i=>cases c with
    | int j=>exact se1 h .int
    | _=>contradiction
  | tup vs=>cases c with
    | tup ws=>
      cases e1:zM vs with
      | none=>unfold cmpLt at h; simp only [e1] at h; contradiction
      | some xs=>cases e2:zM ws with
        | none=>unfold cmpLt at h; simp only [e1,e2] at h; contradiction
        | some ys=>unfold cmpLt at h; simp only [e1,e2] at h; exact se1 h (.tup e1 e2)
    | _=>contradiction
  | _=>contradiction
theorem cmp_sound{op:CmpOp}{a c:V}{y z:Value}(a1:A.units+500<cLine)(I:Inv G μ σ s)(qa:VR G μ s.heap a y)(qb:VR G μ s.heap c z)(h:cmpOf op σ a c=some b){Q:Value→Shared→Prop}(hQ:Q (.bool b) s) :
    wpAny (model G.prog G.w) A (compareOp op y z) Q E s:=by
  have hu:A.units+64<cLine:=by lia
  cases op with
  | Eq=>exact xe45 (cmpEq_reads I qa qb h) fun d1 d2 as bs r1 r2 h1 h2 e=>PyProof.Rows.eq_dataH r1 r2 h1 h2 hu (e▸hQ)
  | NotEq=>exact xe12 (Option.map_eq_some_iff.mp h) fun c h e'=>xe45 (cmpEq_reads I qa qb h) fun d1 d2 as bs r1 r2 h1 h2 e=>PyProof.Rows.ne_dataH r1 r2 h1 h2 hu (e▸e'▸hQ)
  | Lt=>
    have h:=cmpLt_inv h
    cases h with
    | int=>exact Exists.elim qa fun t e1=>Exists.elim qb fun u e2=>e1▸e2▸P.lt_int hQ
    | tup e1 e2=>
      refine xe33 qa fun a1' items n e _ g=>xe33 qb fun a2 items2 n2 e' _ g'=>e▸e'▸?_
      exact show wpAny _ _ (richCompare .Lt _ _) _ _ _ from richCompare_meets_room (op:= .Lt) ⟨_,g.1,rfl⟩ ⟨_,g'.1,rfl⟩ F.slot_tuple_lt F.entry_tuple_lt (F.args_tuple_lt_2 _ _)
          (tuple_lt_ints _ _ items items2 n n2 _ _ (yG e1 g.2.2) (yG e2 g'.2.2)) ⟨g.1,g'.1,(show Value.bool _≠Value.notImplemented∧Q (.bool _) s from ⟨(fun x=>nomatch x),hQ⟩)⟩ (by lia)
  | LtE=>exact oInt2 h qa qb fun i j t u h=>P.le_int (Option.some.inj h▸hQ)
  | Gt=>exact oInt2 h qa qb fun i j t u h=>P.gt_int (Option.some.inj h▸hQ)
  | GtE=>exact oInt2 h qa qb fun i j t u h=>P.ge_int (Option.some.inj h▸hQ)
  | In=>exact in_sound (cmpIn_norm a1 I qa qb h) hQ
  | NotIn=>exact xe12 (Option.map_eq_some_iff.mp h) fun c h e=>notIn_sound (cmpIn_norm a1 I qa qb h) (e▸hQ)
  | _=>contradiction
noncomputable def Zx(σ:List AObj):V→Option Bool
  | .none=>some false
  | .bool b=>some b
  | .int i=>some (i != 0)
  | .str x=>some (!x.isEmpty)
  | .tup vs=>some (!vs.isEmpty)
  | .lst vs=>some (!vs.isEmpty)
  | .loc l=>match σ[l]? with
    | some (.list vs)=>some (!vs.isEmpty)
    | _=>none
  | _=>none
theorem isEmpty_len{α β:Type}:∀{a:List α} {b:List β},a.length=b.length→(!a.toArray.isEmpty)= !b.isEmpty
  | [], []=>fun _=>rfl
  | _::_,_::_=>fun _=>by rfl
  | [],_::_=>nofun
  | _::_, []=>nofun
theorem small_len{n m:Nat}(h:n=m)(hl:m≤LIM):(n:Int)<2 ^ 63:=by have:=zv; lia
theorem truth_list{y:Value}{vs:List V}(hq:∃a items n,y = .ref a∧s.heap.get? a=some (zN items n)∧vs.length≤LIM∧VRs G μ s.heap vs items){Q:Bool→Shared→Prop}(hQ:∀t,Q (!vs.isEmpty) {s with toks:=t}) :
    wpAny (model G.prog G.w) A (truthy y) Q E s:=
  xe33 hq fun a items n e e1 h=>e▸wpAny_truthy_list ⟨_,e1,rfl,n,rfl⟩ (small_len h.2.length h.1) (isEmpty_len h.2.length▸hQ _)
theorem ZI{y:Value}(I:Inv G μ σ s)(q:VR G μ s.heap v y)(h:Zx σ v=some b){Q:Bool→Shared→Prop}(hQ:∀t,Q b {s with toks:=t}) :
    wpAny (model G.prog G.w) A (truthy y) Q E s:=by
  cases v with
  | undef=>exact q.elim
  | none=>exact (q:y=_)▸PyProof.Rows.truthy_none (Option.some.inj h▸hQ s.toks)
  | bool c=>exact (q:y=_)▸wpAny_truthy_bool (Option.some.inj h▸hQ s.toks)
  | int i=>exact Exists.elim q fun t e=>e▸P.truthy_int (Option.some.inj h▸hQ s.toks)
  | str x=>
    refine Exists.elim (And.right q) fun t e=>e▸P.truthy_str (Int.not_le.mpr (small_len rfl (And.left q).1)) ?_
    have:(((⟨x.toArray⟩:Str).length:Int) != 0)= !x.isEmpty:=by
      cases x with
      | nil=>rfl
      | cons a r=>simp [Str.length]; lia
    exact this▸Option.some.inj h▸hQ _
  | tup vs=>exact xe33 q fun a items n e _ g=>e▸PyProof.Rows.truthy_tuple (items:=items.toArray) ⟨_,g.1,rfl,n,rfl⟩ (small_len g.2.2.length g.2.1) (isEmpty_len g.2.2.length▸Option.some.inj h▸hQ _)
  | lst vs=>exact truth_list (VR.islist I q rfl) (Option.some.inj h▸hQ)
  | loc l=>
    have h:(match σ[l]? with | some (.list vs)=>some (!vs.isEmpty) | _=>none)=some b:=h
    cases e:σ[l]? with
    | none=>rw [e] at h; contradiction
    | some o=>
      rw [e] at h
      cases o with
      | list vs=>exact truth_list (VR.islist I q (show (match σ[l]? with | some (.list vs)=>some (V.lst vs) | _=>none)=_ by refine rg e ?_; rfl)) (Option.some.inj h▸hQ)
      | _=>contradiction
  | cst n=>contradiction
end
end Mi
namespace Mi
section
variable {G:Gd}{r:Nat}{cx:Cx}{fm:Fm}{μ μ':List Addr}{h h':Heap}{ρ:List V}{σ σ' σ₁:List AObj}{A:Around}{E:Value→Shared→Prop}{s s':Shared}{v w:V}{b:Bool}{e:Expr}
noncomputable def fCmp(op:CmpOp)(f g:EF):BF:=fun ρ σ=>match f ρ σ with
  | some (a,σ)=>match g ρ σ with
    | some (b,σ)=>(cmpOf op σ a b).map (·,σ)
    | none=>none
  | none=>none
theorem fCmp_some{op:CmpOp}{f g:EF}(hf:fCmp op f g ρ σ=some (b,σ')):∃x y σ₁,f ρ σ=some (x,σ₁)∧g ρ σ₁=some (y,σ')∧cmpOf op σ' x y=some b:=by
  unfold fCmp at hf
  split at hf
  · rename_i a σ₁ e1
    split at hf
    · rename_i b σ₂ e2
      rw [Option.map_eq_some_iff] at hf
      refine xe12 hf fun w h1 h2=>?_
      cases h2
      exact ⟨a,b,σ₁,e1,e2,h1⟩
    · contradiction
  · contradiction
noncomputable def fBool(f:BF):EF:=fun ρ σ=>(f ρ σ).map fun p=>(.bool p.1,p.2)
theorem fBool_some{f:BF}(hf:fBool f ρ σ=some (v,σ')):∃b,f ρ σ=some (b,σ')∧v = .bool b:=by
  unfold fBool at hf
  rw [Option.map_eq_some_iff] at hf
  refine xe12 hf ?_; rintro ⟨b,σ₁⟩ h1 h2
  cases h2
  exact ⟨b,h1,rfl⟩
noncomputable def yr(f:EF):BF:=fun ρ σ=>match f ρ σ with
  | some (v,σ)=>(Zx σ v).map (·,σ)
  | none=>none
theorem fTruth_some{f:EF}(hf:yr f ρ σ=some (b,σ')):∃v,f ρ σ=some (v,σ')∧Zx σ' v=some b:=by
  unfold yr at hf
  split at hf
  · rename_i a σ₁ e1
    rw [Option.map_eq_some_iff] at hf
    refine xe12 hf fun w h1 h2=>?_
    cases h2
    exact ⟨a,e1,h1⟩
  · contradiction
theorem se_cmp{op:CmpOp}{l rr:Expr}{pos:Pos}{f g:EF}(hl:SE G r cx l f)(hr:SE G r cx rr g)(hm:behindInMarks op rr=false:=by rfl):SE G r cx (.Compare l [op] [rr] pos) (fBool (fCmp op f g)):=fun A fm μ ρ σ s v σ' a O I F hf=>by
  obtain ⟨b,hf',rfl⟩:=fBool_some hf
  refine xe33 (fCmp_some hf') fun x y σ₁ e1 e2 e3=>?_
  refine wpAny_Compare1 (hl.use a O I F e1 fun p s₁ μ₁ st₁ I₁ F₁ q₁=>hr.use a O I₁ F₁ e2 fun q s₂ μ₂ st₂ I₂ F₂ q₂=>?_) hm
  exact cmp_sound a.cline I₂ (q₁.step st₂) q₂ e3 (Good.after (st₁.trans st₂) (Good.same0 I₂ rfl))
theorem zC{op:CmpOp}{l rr:Expr}{pos:Pos}{f g:EF}(hl:SE G r cx l f)(hr:SE G r cx rr g)(hm:behindInMarks op rr=false:=by rfl):SB G r cx (.Compare l [op] [rr] pos) (fCmp op f g):=fun A fm μ ρ σ s b σ' a O I F hf=>by
  refine xe33 (fCmp_some hf) fun x y σ₁ e1 e2 e3=>?_
  refine wpAny_isTrue_Compare1 (hl.use a O I F e1 fun p s₁ μ₁ st₁ I₁ F₁ q₁=>hr.use a O I₁ F₁ e2 fun q s₂ μ₂ st₂ I₂ F₂ q₂=>?_) hm
  exact cmp_sound a.cline I₂ (q₁.step st₂) q₂ e3 (wpAny_truthy_bool ⟨rfl,μ₂,st₁.trans st₂,I₂⟩)
theorem sb_val{f:EF}(hl:SE G r cx e f)(he:∀env whole,isTrue e env whole=(do let v ←whole; standAt e.pos; holding [v] (truthy v)):=by exact fun _ _=>rfl):SB G r cx e (yr f):=fun A fm μ ρ σ s b σ' a O I F hf=>by
  refine xe12 (fTruth_some hf) fun v e1 e2=>?_
  refine wpAny_isTrue_value (hl.use a O I F e1 fun p s₁ μ₁ st₁ I₁ F₁ q₁=>?_) (he _ _)
  exact ZI I₁ q₁ e2 fun t=>⟨rfl,μ₁,st₁,I₁.toks t⟩
noncomputable def fNot(f:BF):BF:=fun ρ σ=>(f ρ σ).map fun p=>(!p.1,p.2)
theorem sb_not{x:Expr}{pos:Pos}{f:BF}(hx:SB G r cx x f):SB G r cx (.UnaryOp .Not x pos) (fNot f):=fun A fm μ ρ σ s b σ' a O I F hf=>by
  unfold fNot at hf
  rw [Option.map_eq_some_iff] at hf
  refine xe12 hf ?_; rintro ⟨b,σ₁⟩ h1 h2
  cases h2
  exact wpAny_isTrue_Not (hx.use a O I F h1 fun s₁ μ₁ st₁ I₁ F₁=>⟨rfl,μ₁,st₁,I₁⟩)
noncomputable def SAll(G:Gd)(r:Nat)(cx:Cx)(op:BoolOp)(es:List Expr)(f:BF):Prop:=
  ∀(A:Around) (fm:Fm) (μ:List Addr) (ρ:List V) (σ:List AObj) (s:Shared) (b:Bool) (σ':List AObj),AOk r A→FmOk cx fm→Inv G μ σ s→FR G cx fm μ s.heap ρ→f ρ σ=some (b,σ')→
    wpAny (model G.prog G.w) A (allTrue op es fm.env) (GoodB G μ s b σ') (fun _ _=>False) s
noncomputable def fAnd(f g:BF):BF:=fun ρ σ=>match f ρ σ with
  | some (true,σ)=>g ρ σ
  | some (false,σ)=>some (false,σ)
  | none=>none
noncomputable def fOr(f g:BF):BF:=fun ρ σ=>match f ρ σ with
  | some (false,σ)=>g ρ σ
  | some (true,σ)=>some (true,σ)
  | none=>none
noncomputable def Zz:BF:=fun _ σ=>some (true,σ)
noncomputable def fFalse:BF:=fun _ σ=>some (false,σ)
theorem yn:SAll G r cx .And [] Zz:=fun A fm μ ρ σ s b σ' a O I F hf=>by
  cases hf
  exact wpAny_allTrue_And_nil ⟨rfl,μ,Step.refl,I⟩
theorem sall_or_nil:SAll G r cx .Or [] fFalse:=fun A fm μ ρ σ s b σ' a O I F hf=>by
  cases hf
  exact wpAny_allTrue_Or_nil ⟨rfl,μ,Step.refl,I⟩
theorem zt{x:Expr}{es:List Expr}{f g:BF}(hx:SB G r cx x f)(hs:SAll G r cx .And es g):SAll G r cx .And (x::es) (fAnd f g):=fun A fm μ ρ σ s b σ' a O I F hf=>by
  unfold fAnd at hf
  split at hf
  · rename_i σ₁ e1
    refine wpAny_allTrue_And_cons (hx.use a O I F e1 fun s₁ μ₁ st₁ I₁ F₁=>?_)
    exact wpAny_mono (hs A fm μ₁ ρ σ₁ s₁ b σ' a O I₁ F₁ hf) (fun _ _ g=>g.after st₁) fun _ _ x=>x
  · rename_i σ₁ e1
    cases hf
    exact wpAny_allTrue_And_cons (hx.use a O I F e1 fun s₁ μ₁ st₁ I₁ F₁=>⟨rfl,μ₁,st₁,I₁⟩)
  · contradiction
theorem ZU{x:Expr}{es:List Expr}{f g:BF}(hx:SB G r cx x f)(hs:SAll G r cx .Or es g):SAll G r cx .Or (x::es) (fOr f g):=fun A fm μ ρ σ s b σ' a O I F hf=>by
  unfold fOr at hf
  split at hf
  · rename_i σ₁ e1
    refine wpAny_allTrue_Or_cons (hx.use a O I F e1 fun s₁ μ₁ st₁ I₁ F₁=>?_)
    exact wpAny_mono (hs A fm μ₁ ρ σ₁ s₁ b σ' a O I₁ F₁ hf) (fun _ _ g=>g.after st₁) fun _ _ x=>x
  · rename_i σ₁ e1
    cases hf
    exact wpAny_allTrue_Or_cons (hx.use a O I F e1 fun s₁ μ₁ st₁ I₁ F₁=>⟨rfl,μ₁,st₁,I₁⟩)
  · contradiction
theorem ZK{op:BoolOp}{es:List Expr}{pos:Pos}{f:BF}(hs:SAll G r cx op es f):SB G r cx (.BoolOp op es pos) f:=fun A fm μ ρ σ s b σ' a O I F hf=>
  wpAny_isTrue_BoolOp (hs A fm μ ρ σ s b σ' a O I F hf)
noncomputable def fAnd2(f g:EF):EF:=fun ρ σ=>match f ρ σ with
  | some (v,σ)=>match Zx σ v with
    | some true=>g ρ σ
    | some false=>some (v,σ)
    | none=>none
  | none=>none
noncomputable def fOr2(f g:EF):EF:=fun ρ σ=>match f ρ σ with
  | some (v,σ)=>match Zx σ v with
    | some false=>g ρ σ
    | some true=>some (v,σ)
    | none=>none
  | none=>none
theorem se_and2{x y:Expr}{pos:Pos}{f g:EF}(hx:SE G r cx x f)(hy:SE G r cx y g):SE G r cx (.BoolOp .And [x,y] pos) (fAnd2 f g):=fun A fm μ ρ σ s v σ' a O I F hf=>by
  unfold fAnd2 at hf
  split at hf
  · rename_i v₁ σ₁ e1
    refine wpAny_And2 (hx.use a O I F e1 fun p s₁ μ₁ st₁ I₁ F₁ q₁=>?_)
    split at hf
    · rename_i e2
      exact ZI I₁ q₁ e2 fun t=>wpAny_mono (hy A fm μ₁ ρ σ₁ _ v σ' a O (I₁.toks t) F₁ hf) (fun _ _ g=>g.after st₁) fun _ _ x=>x
    · rename_i e2
      cases hf
      exact ZI I₁ q₁ e2 fun t=>Good.after st₁ (Good.same I₁ t q₁)
    · contradiction
  · contradiction
theorem se_or2{x y:Expr}{pos:Pos}{f g:EF}(hx:SE G r cx x f)(hy:SE G r cx y g):SE G r cx (.BoolOp .Or [x,y] pos) (fOr2 f g):=fun A fm μ ρ σ s v σ' a O I F hf=>by
  unfold fOr2 at hf
  split at hf
  · rename_i v₁ σ₁ e1
    refine wpAny_Or2 (hx.use a O I F e1 fun p s₁ μ₁ st₁ I₁ F₁ q₁=>?_)
    split at hf
    · rename_i e2
      exact ZI I₁ q₁ e2 fun t=>wpAny_mono (hy A fm μ₁ ρ σ₁ _ v σ' a O (I₁.toks t) F₁ hf) (fun _ _ g=>g.after st₁) fun _ _ x=>x
    · rename_i e2
      cases hf
      exact ZI I₁ q₁ e2 fun t=>Good.after st₁ (Good.same I₁ t q₁)
    · contradiction
  · contradiction
noncomputable def fIf(c:BF)(f g:EF):EF:=fun ρ σ=>match c ρ σ with
  | some (true,σ)=>f ρ σ
  | some (false,σ)=>g ρ σ
  | none=>none
theorem se_ifexp{c x y:Expr}{pos:Pos}{fc:BF}{f g:EF}(hc:SB G r cx c fc)(hx:SE G r cx x f)(hy:SE G r cx y g):SE G r cx (.IfExp c x y pos) (fIf fc f g):=fun A fm μ ρ σ s v σ' a O I F hf=>by
  unfold fIf at hf
  split at hf
  · rename_i σ₁ e1
    refine wpAny_IfExp (hc.use a O I F e1 fun s₁ μ₁ st₁ I₁ F₁=>?_)
    exact wpAny_mono (hx A fm μ₁ ρ σ₁ s₁ v σ' a O I₁ F₁ hf) (fun _ _ g=>g.after st₁) fun _ _ x=>x
  · rename_i σ₁ e1
    refine wpAny_IfExp (hc.use a O I F e1 fun s₁ μ₁ st₁ I₁ F₁=>?_)
    exact wpAny_mono (hy A fm μ₁ ρ σ₁ s₁ v σ' a O I₁ F₁ hf) (fun _ _ g=>g.after st₁) fun _ _ x=>x
  · contradiction
noncomputable def fNeg(f:EF):EF:=fun ρ σ=>match f ρ σ with
  | some (.int i,σ)=>some (.int (-i),σ)
  | _=>none
theorem se_neg{x:Expr}{pos:Pos}{f:EF}(hx:SE G r cx x f):SE G r cx (.UnaryOp .USub x pos) (fNeg f):=fun A fm μ ρ σ s v σ' a O I F hf=>by
  unfold fNeg at hf
  split at hf
  · rename_i i σ₁ e1
    cases hf
    refine wpAny_UnaryOp (hx.use a O I F e1 fun p s₁ μ₁ st₁ I₁ F₁ q₁=>?_)
    obtain ⟨t,rfl⟩:=q₁
    exact P.neg_int (Good.after st₁ (Good.same I₁ _ ⟨_,rfl⟩))
  · contradiction
noncomputable def fNil:EsF:=fun _ σ=>some ([],σ)
noncomputable def zc(f:EF)(g:EsF):EsF:=fun ρ σ=>match f ρ σ with
  | some (v,σ)=>match g ρ σ with
    | some (vs,σ)=>some (v::vs,σ)
    | none=>none
  | none=>none
theorem zg:SEs G r cx [] fNil:=fun A fm μ ρ σ s vs σ' pos a O I F hf=>by
  cases hf
  exact wpAny_items_nil ⟨μ,Step.refl,I,rfl⟩
theorem zd{x:Expr}{es:List Expr}{f:EF}{g:EsF}(hx:SE G r cx x f)(hs:SEs G r cx es g)
    (he:∀env,starEach (x::es) env=(false,eval x env)::starEach es env:=by exact fun _=>rfl):SEs G r cx (x::es) (zc f g):=fun A fm μ ρ σ s vs σ' pos a O I F hf=>by
  unfold zc at hf
  split at hf
  · rename_i v₁ σ₁ e1
    split at hf
    · rename_i vs₂ σ₂ e2
      cases hf
      refine wpAny_items_cons (hx.use a O I F e1 fun p s₁ μ₁ st₁ I₁ F₁ q₁=>hs.use a O I₁ F₁ e2 fun ps s₂ μ₂ st₂ I₂ F₂ q₂=>?_) (he _)
      exact ⟨μ₂,st₁.trans st₂,I₂,_,_,rfl,q₁.step st₂,q₂⟩
    · contradiction
  · contradiction
noncomputable def fTup(g:EsF):EF:=fun ρ σ=>match g ρ σ with
  | some (vs,σ)=>if vs.length≤LIM then some (.tup vs,σ) else none
  | none=>none
noncomputable def fLst(g:EsF):EF:=fun ρ σ=>match g ρ σ with
  | some (vs,σ)=>if vs.length≤LIM then some (.lst vs,σ) else none
  | none=>none
noncomputable def fNew(g:EsF):EF:=fun ρ σ=>match g ρ σ with
  | some (vs,σ)=>if vs.length≤LIM then some (.loc σ.length,σ++ [.list vs]) else none
  | none=>none
theorem yy{es:List Expr}{k:Nat}{pos:Pos}{g:EsF}(hs:SEs G r cx es g):SE G r cx (.Tuple es k pos) (fTup g):=fun A fm μ ρ σ s v σ' a O I F hf=>by
  unfold fTup at hf
  split at hf
  · rename_i vs σ₁ e1
    split at hf
    · rename_i hl
      cases hf
      refine wpAny_Tuple (hs.use a O I F e1 fun ps s₁ μ₁ st₁ I₁ F₁ q₁=>⟨?_,?_⟩)
      · refine rg q₁.length ?_; exact Nat.le_trans hl yd
      · exact Good.after st₁ (Good.tup I₁ s₁.toks 0 q₁ hl)
    · contradiction
  · contradiction
theorem se_lst{es:List Expr}{pos:Pos}{g:EsF}(hs:SEs G r cx es g):SE G r cx (.List es pos) (fLst g):=fun A fm μ ρ σ s v σ' a O I F hf=>by
  unfold fLst at hf
  split at hf
  · rename_i vs σ₁ e1
    split at hf
    · rename_i hl
      cases hf
      refine wpAny_List (hs.use a O I F e1 fun ps s₁ μ₁ st₁ I₁ F₁ q₁=>⟨?_,?_⟩)
      · refine rg q₁.length ?_; exact Nat.le_trans hl yd
      · exact Good.after st₁ (Good.lst I₁ s₁.toks 0 q₁ hl)
    · contradiction
  · contradiction
theorem se_new(K:GOk G){es:List Expr}{pos:Pos}{g:EsF}(hs:SEs G r cx es g):SE G r cx (.List es pos) (fNew g):=fun A fm μ ρ σ s v σ' a O I F hf=>by
  unfold fNew at hf
  split at hf
  · rename_i vs σ₁ e1
    split at hf
    · rename_i hl
      cases hf
      refine wpAny_List (hs.use a O I F e1 fun ps s₁ μ₁ st₁ I₁ F₁ q₁=>⟨?_,?_⟩)
      · refine rg q₁.length ?_; exact Nat.le_trans hl yd
      · exact Good.after st₁ (Good.newlist K I₁ s₁.toks 0 q₁ hl)
    · contradiction
  · contradiction
noncomputable def nth(n:Nat)(k:Int):Option Nat:=if 0≤k∧k<n then some k.toNat else if k<0∧ -(n:Int)≤k then some (k+n).toNat else none
theorem nth_seq{n:Nat}{k:Int}{j:Nat}(h:nth n k=some j):seqIndex? k n=some j∧j<n:=by
  unfold nth at h
  split at h
  · rename_i q; cases h; exact ⟨seqIndex_of q.1 q.2,by omega⟩
  · split at h
    · rename_i q; cases h; exact ⟨seqIndex_neg q.1 q.2,by omega⟩
    · contradiction
theorem nth_range{n:Nat}{k:Int}{j:Nat}(h:nth n k=some j)(hn:n≤LIM): -(2 ^ 63)≤k∧k<2 ^ 63:=by
  have:=zv
  unfold nth at h
  split at h
  · lia
  · split at h
    · lia
    · contradiction
noncomputable def ZR(σ:List AObj)(v w:V):Option V:=match w with
  | .int k=>match v with
    | .str x=>(nth x.length k).bind fun j=>(x[j]?).map fun c=> .str [c]
    | v=>(yM σ v).bind fun vs=>(nth vs.length k).bind fun j=>vs[j]?
  | _=>none
theorem vitems_obj(I:Inv G μ σ s){y:Value}{vs:List V}(q:VR G μ s.heap v y)(hv:yM σ v=some vs) :
    ∃a items n,y = .ref a∧(s.heap.get? a=some (zN items n)∨s.heap.get? a=some (tupObj items n))∧vs.length≤LIM∧VRs G μ s.heap vs items:=by
  cases v with
  | tup ws=>simp only [yM,Option.some.injEq] at hv; subst hv; refine xe35 q fun a items n e1 _ e2 e3 e4=>?_; exact ⟨a,items,n,e1, .inr e2,e3,e4⟩
  | lst ws=>simp only [yM,Option.some.injEq] at hv; subst hv; refine xe35 q fun a items n e1 _ e2 e3 e4=>?_; exact ⟨a,items,n,e1, .inl e2,e3,e4⟩
  | loc l=>
    dsimp only [yM] at hv
    split at hv
    · rename_i ws e
      simp only [Option.some.injEq] at hv; subst hv
      refine xe12 q fun a e1 e2=>?_
      refine xe23 (I.obj l a _ e1 e) fun items n e3 e4 e5=>?_
      exact ⟨a,items,n,e2, .inl e3,e4,e5⟩
    · contradiction
  | _=>contradiction
theorem idx_sound{a c:V}{y z:Value}{value slice:Expr}(I:Inv G μ σ s)(qa:VR G μ s.heap a y)(qb:VR G μ s.heap c z)(h:ZR σ a c=some v)
    (hs:∀o i,subscripted slice false o i=operate [o,i] (getItem o i)):wpAny (model G.prog G.w) A (subscriptTail value slice y z) (Good G μ s v σ) (fun _ _=>False) s:=by
  unfold ZR at h
  split at h
  · rename_i k
    obtain ⟨u,rfl⟩:=qb
    split at h
    · rename_i x
      obtain ⟨hx,t,rfl⟩:=qa
      simp only [Option.bind_eq_some_iff,Option.map_eq_some_iff] at h
      obtain ⟨j,h1,c,h2,rfl⟩:=h
      obtain ⟨h3,h4⟩:=nth_seq h1
      obtain ⟨h5,h6⟩:=nth_range h1 hx.1
      refine tail_any (typeIs_str _ _ _) slot_str_getitem.lookup (PyProof.Rows.getItem_str (c:=c) ?_ ?_ (Good.same I _ ⟨⟨?_,?_⟩,_,rfl⟩)) (hs _ _)
      · rw [Bool.or_eq_false_iff,decide_eq_false_iff_not]; lia
      · simp only [Str.length,List.size_toArray,h3,Option.bind_some]
        simpa using h2
      · have:=zv; simp; exact Nat.succ_pos _
      · intro d hd
        have:d=c:=by simpa using hd
        subst this
        exact hx.2 _ (zG h2)
    · simp only [Option.bind_eq_some_iff] at h
      obtain ⟨vs,h0,j,h1,h2⟩:=h
      obtain ⟨h3,h4⟩:=nth_seq h1
      obtain ⟨ad,items,n,rfl,ho,hl,hr⟩:=vitems_obj I qa h0
      obtain ⟨h5,h6⟩:=nth_range h1 hl
      refine xe12 (hr.get h2) fun y e1 e2=>?_
      have hlen:=hr.length
      rcases ho with ho | ho
      · have hL:s.heap.IsList ad items.toArray:=⟨_,ho,rfl,n,rfl⟩
        refine tail_any hL.typeIs slot_list_getitem.lookup ?_ (hs _ _)
        by_cases hk:0≤k
        · have:j=k.toNat:=by
            unfold nth at h1
            split at h1
            · refine sr1 h1 ?_; rfl
            · split at h1
              · lia
              · contradiction
          subst this
          exact wpAny_getItem_list hL hk h6 (by simpa using e1) (Good.same0 I e2)
        · have: -(vs.length:Int)≤k∧j=(k+vs.length).toNat:=by
            unfold nth at h1
            split at h1
            · lia
            · split at h1
              · rename_i q; refine sr1 h1 ?_; exact ⟨q.2,rfl⟩
              · contradiction
          obtain ⟨h7,rfl⟩:=this
          exact wpAny_getItem_list_neg hL (by lia) (by refine rg List.size_toArray ?_; refine rg hlen ?_; exact h7) h5 (by refine rg List.size_toArray ?_; refine rg hlen ?_; simpa using e1) (Good.same0 I e2)
      · have hT:IsTup s.heap ad items.toArray:=⟨_,ho,rfl,n,rfl⟩
        refine tail_any hT.typeIs slot_tuple_getitem.lookup ?_ (hs _ _)
        exact PyProof.Rows.getItem_tuple hT h5 h6 (j:=j) (by simpa [hlen] using h3) (by simpa using e1) (Good.same0 I e2)
  · contradiction
noncomputable def fIdx(f g:EF):EF:=fun ρ σ=>match f ρ σ with
  | some (a,σ)=>match g ρ σ with
    | some (b,σ)=>(ZR σ a b).map (·,σ)
    | none=>none
  | none=>none
theorem zA{x i:Expr}{pos:Pos}{f g:EF}(hx:SE G r cx x f)(hi:SE G r cx i g)
    (hs:∀o i',subscripted i false o i'=operate [o,i'] (getItem o i'):=by exact fun _ _=>rfl):SE G r cx (.Subscript x i pos) (fIdx f g):=fun A fm μ ρ σ s v σ' a O I F hf=>by
  unfold fIdx at hf
  split at hf
  · rename_i v₁ σ₁ e1
    split at hf
    · rename_i v₂ σ₂ e2
      simp only [Option.map_eq_some_iff] at hf
      refine xe12 hf fun w e3 h2=>?_
      cases h2
      refine PyProof.Rows.Subscript_ (hx.use a O I F e1 fun p s₁ μ₁ st₁ I₁ F₁ q₁=>hi.use a O I₁ F₁ e2 fun q s₂ μ₂ st₂ I₂ F₂ q₂=>?_)
      exact wpAny_mono (idx_sound I₂ (q₁.step st₂) q₂ e3 hs) (fun _ _ g=>g.after (st₁.trans st₂)) fun _ _ x=>x
    · contradiction
  · contradiction
end
end Mi
namespace Mi
section
variable {G:Gd}{r:Nat}{cx:Cx}{fm:Fm}{μ μ':List Addr}{h h':Heap}{ρ:List V}{σ σ' σ₁:List AObj}{A:Around}{E:Value→Shared→Prop}{s s':Shared}{v w:V}{b:Bool}{e:Expr}
noncomputable def sub{α:Type}(xs:List α)(lo hi:Option Int):List α:=
  (xs.drop (lo.elim 0 (clipAt xs.length))).take (hi.elim xs.length (clipAt xs.length)-lo.elim 0 (clipAt xs.length))
noncomputable def pick{α:Type}(xs:List α)(lo hi st:Option Int):List α:=
  (sliceRange (sliceBounds lo hi st xs.length).1 (sliceBounds lo hi st xs.length).2.1 (sliceBounds lo hi st xs.length).2.2).filterMap (xs[·]?)
theorem VRs.filterMap{vs:List V}{ys:List Value}(q:VRs G μ h vs ys):∀(l:List Nat),VRs G μ h (l.filterMap (vs[·]?)) (l.filterMap (ys[·]?))
  | []=>rfl
  | i::l=>by
    have ih:=VRs.filterMap q l
    cases hi:vs[i]? with
    | none=>
      have:ys[i]?=none:=by
        rw [List.getElem?_eq_none_iff] at hi ⊢
        refine rg q.length ?_; exact hi
      simp only [List.filterMap_cons,hi,this]; exact ih
    | some v=>
      refine xe12 (q.get hi) fun y e1 e2=>?_
      simp only [List.filterMap_cons,hi,e1]
      exact ⟨y,_,rfl,e2,ih⟩
theorem pick_slice(items:List Value)(vs:List V)(hl:items.length=vs.length)(lo hi st:Option Int)(q:VRs G μ h vs items) :
    ∃ys:List Value,slicePick items.toArray lo hi st=ys.toArray∧VRs G μ h (pick vs lo hi st) ys:=by
  refine ⟨_,rfl,?_⟩
  unfold pick
  refine rg List.size_toArray ?_; refine rg hl ?_
  have:=q.filterMap (sliceRange (sliceBounds lo hi st vs.length).1 (sliceBounds lo hi st vs.length).2.1 (sliceBounds lo hi st vs.length).2.2)
  simpa using this
theorem pick_plain{α:Type}(xs:List α)(lo hi:Option Int):pick xs lo hi none=sub xs lo hi:=by
  unfold pick sub
  rw [sliceBounds_plain]
  simp only [sliceRange_one]
  have:=pick_run xs.toArray (lo.elim 0 (clipAt xs.length)) (hi.elim xs.length (clipAt xs.length)-lo.elim 0 (clipAt xs.length))
  simpa using this
theorem pick_length(vs:List V)(lo hi st:Option Int):(pick vs lo hi st).length≤vs.length:=by
  have:=slicePick_size_le (vs.map fun _=>Value.none).toArray lo hi st
  unfold slicePick at this
  unfold pick
  simp only [List.size_toArray,List.length_map] at this
  refine Nat.le_trans (Nat.le_of_eq ?_) this
  generalize sliceRange _ _ _=l
  induction l with
  | nil=>rfl
  | cons i l ih=>
    dsimp only [List.filterMap_cons]
    by_cases hi:i<vs.length
    · simp [hi]; simpa using ih
    · have h1:vs[i]?=none:=by simp; lia
      simp [h1]; simpa using ih
theorem clip_le(n:Nat)(i:Int):clipAt n i≤n:=Int.toNat_le.mpr (Int.max_le.mpr ⟨Int.natCast_nonneg n,Int.min_le_right _ _⟩)
theorem sub_mem{α:Type}{xs:List α}{lo hi:Option Int}{x:α}(hm:x∈sub xs lo hi):x∈xs:=List.mem_of_mem_drop (List.mem_of_mem_take hm)
theorem sub_length{α:Type}(xs:List α)(lo hi:Option Int):(sub xs lo hi).length≤xs.length:=
  Nat.le_trans (List.length_take_le' _ _) (Nat.le_trans (Nat.le_of_eq List.length_drop) (Nat.sub_le _ _))
theorem okS.sub{x:List Nat}(hx:okS x)(lo hi:Option Int):okS (Mi.sub x lo hi):=⟨Nat.le_trans (sub_length ..) hx.1,fun c hc=>hx.2 c (sub_mem hc)⟩
theorem str_slice(x:List Nat)(l u:Option (Int × Tok)) :
    (slicePicked ⟨x.toArray⟩ l u none).filterMap ((⟨x.toArray⟩:Str).cps[·]?)=sub x (l.map (·.1)) (u.map (·.1)):=by
  rw [←pick_plain]
  unfold slicePicked pick
  have:Builtin.Str.strSliceIndices (l.map (·.1)) (u.map (·.1)) (((none:Option (Int × Tok)).map (·.1)).getD 1) (⟨x.toArray⟩:Str).length =
      sliceRange (sliceBounds (l.map (·.1)) (u.map (·.1)) none x.length).1 (sliceBounds (l.map (·.1)) (u.map (·.1)) none x.length).2.1 (sliceBounds (l.map (·.1)) (u.map (·.1)) none x.length).2.2:=by
    cases l <;> cases u <;> rfl
  rw [this]
  simp
noncomputable def SP(G:Gd)(r:Nat)(cx:Cx)(x:Option Expr)(f:EF):Prop:=
  ∀(A:Around) (fm:Fm) (μ:List Addr) (ρ:List V) (σ:List AObj) (s:Shared) (v:V) (σ':List AObj),AOk r A→FmOk cx fm→Inv G μ σ s→FR G cx fm μ s.heap ρ→f ρ σ=some (v,σ')→
    wpAny (model G.prog G.w) A (evalPart x fm.env) (Good G μ s v σ') (fun _ _=>False) s
theorem zE:SP G r cx none (za .none):=fun A fm μ ρ σ s v σ' a O I F hf=>by
  cases hf
  simp only [evalPart_none]
  exact wpAny_pure (Good.same0 I rfl)
theorem yi{x:Expr}{f:EF}(hx:SE G r cx x f):SP G r cx (some x) f:=fun A fm μ ρ σ s v σ' a O I F hf=>by
  simp only [evalPart_some]; exact hx A fm μ ρ σ s v σ' a O I F hf
theorem SP.use{x:Option Expr}{f:EF}(H:SP G r cx x f)(a:AOk r A)(O:FmOk cx fm)(I:Inv G μ σ s)(F:FR G cx fm μ s.heap ρ)(hf:f ρ σ=some (v,σ₁)){Q:Value→Shared→Prop}
    (k:∀y s₁ μ₁,Step W0 μ μ₁ s.heap s₁.heap→Inv G μ₁ σ₁ s₁→FR G cx fm μ₁ s₁.heap ρ→VR G μ₁ s₁.heap v y→Q y s₁):wpAny (model G.prog G.w) A (evalPart x fm.env) Q E s:=
  wpAny_mono (H A fm μ ρ σ s v σ₁ a O I F hf) (fun y s₁ ⟨μ₁,st,I₁,q⟩=>k y s₁ μ₁ st I₁ (F.step0 st) q) fun _ _ x=>x.elim
noncomputable def ZB:V→Option (Option Int)
  | .none=>some none
  | .int i=>some (some i)
  | _=>none
theorem part_is{c:V}{y:Value}{p:Option Int}(q:VR G μ h c y)(hp:ZB c=some p):IsPart y p∧∃p':Option (Int × Tok),y=partValue p'∧p'.map (·.1)=p:=by
  cases c <;> simp only [ZB,Option.some.injEq,reduceCtorEq] at hp
  · subst hp; refine rg (show y=_ from q) ?_; exact ⟨.none,none,rfl,rfl⟩
  · subst hp; obtain ⟨t,rfl⟩:=q; exact ⟨.int _ t,some (_,t),rfl,rfl⟩
noncomputable def yE(σ:List AObj)(v:V)(lo hi st:Option Int):Option V:=match v with
  | .str x=>if st=none then some (.str (sub x lo hi)) else none
  | .tup vs=>match lo,hi,st with
    | some a,none,none=>if 1≤a∧a≤vs.length then some (.tup (vs.drop a.toNat)) else none
    | _,_,_=>none
  | v=>match yx σ v with
    | some (.lst vs)=>if st=some 0 then none else some (.lst (pick vs lo hi st))
    | _=>none
theorem picked_range(x:List Nat)(l u:Option (Int × Tok)):slicePicked ⟨x.toArray⟩ l u none=(List.range ((u.map (·.1)).elim x.length (clipAt x.length)-(l.map (·.1)).elim 0 (clipAt x.length))).map fun k=>(l.map (·.1)).elim 0 (clipAt x.length)+k:=by
  have:slicePicked ⟨x.toArray⟩ l u none=sliceRange (sliceBounds (l.map (·.1)) (u.map (·.1)) none x.length).1 (sliceBounds (l.map (·.1)) (u.map (·.1)) none x.length).2.1 (sliceBounds (l.map (·.1)) (u.map (·.1)) none x.length).2.2:=by
    cases l <;> cases u <;> rfl
  rw [this,sliceBounds_plain,sliceRange_one]
theorem str_full{x:List Nat}{l u:Option (Int × Tok)}(e:(slicePicked ⟨x.toArray⟩ l u none).length=x.length):sub x (l.map (·.1)) (u.map (·.1))=x:=by
  rw [picked_range,List.length_map,List.length_range] at e
  have h1:(u.map (·.1)).elim x.length (clipAt x.length)≤x.length:=by
    cases u with
    | none=>exact Nat.le_refl _
    | some q=>exact clip_le _ _
  unfold sub
  cases x with
  | nil=>simp
  | cons a x=>
    have h0:(l.map (·.1)).elim 0 (clipAt (a::x).length)=0:=by have:0<(a::x).length:=Nat.succ_pos _; omega
    refine rg h0 ?_; refine rg List.drop_zero ?_
    exact List.take_of_length_le (by omega)
theorem slice_str{x:List Nat}{tk:Tok}{p1 p2 p3:Option (Int × Tok)}{value:Expr}{lo hi stt:Option Expr}{p:Pos}(I:Inv G μ σ s)(hx:okS x)(ht:p3.map (·.1)=none){ops:List Value}
    (hs:subscripted (.Slice lo hi stt p) false (.str ⟨x.toArray⟩ tk) (.ref s.heap.objs.size)=operate ops (getItem (.str ⟨x.toArray⟩ tk) (.ref s.heap.objs.size))) :
    wpAny (model G.prog G.w) A (subscriptTail value (.Slice lo hi stt p) (.str ⟨x.toArray⟩ tk) (.ref s.heap.objs.size)) (Good G μ s (.str (sub x (p1.map (·.1)) (p2.map (·.1)))) σ) (fun _ _=>False)
      {s with heap:=s.heap.push {cls:= .type "slice",data:= .fields #[partValue p1,partValue p2,partValue p3]}}:=by
  have I':=I.push {cls:= .type "slice",data:= .fields #[partValue p1,partValue p2,partValue p3]} s.toks
  have st:Step W0 μ μ s.heap _:=Step.push {cls:= .type "slice",data:= .fields #[partValue p1,partValue p2,partValue p3]}
  cases p3 with
  | some q=>contradiction
  | none=>
    refine tail_any (typeIs_str _ _ _) F.slot_str_getitem.lookup (wpAny_getItem_str_slice (l:=p1) (u:=p2) (st:=none) (Heap.IsSliceOf.new s.heap _ _ _) rfl ?_) hs
    unfold sliceMade
    split
    · rename_i hw
      rw [Bool.and_eq_true] at hw
      refine rg (str_full (beq_iff_eq.mp hw.2)) ?_
      exact Good.after st (Good.same0 I' ⟨hx,_,rfl⟩)
    · rw [str_slice x p1 p2]
      exact ⟨Nat.le_trans (hx.sub _ _).1 yd,Good.after st (Good.same I' _ ⟨hx.sub _ _,_,rfl⟩)⟩
theorem slice_tup{vs:List V}{ad:Addr}{items:List Value}{n i:Nat}{tk:Tok}{value:Expr}{lo hi stt:Option Expr}{p:Pos}(I:Inv G μ σ s)(g2:s.heap.get? ad=some (tupObj items n))(g3:vs.length≤LIM)(g4:VRs G μ s.heap vs items)(h1:1≤i)(h2:i≤vs.length){ops:List Value}
    (hs:subscripted (.Slice lo hi stt p) false (.ref ad) (.ref s.heap.objs.size)=operate ops (getItem (.ref ad) (.ref s.heap.objs.size))) :
    wpAny (model G.prog G.w) A (subscriptTail value (.Slice lo hi stt p) (.ref ad) (.ref s.heap.objs.size)) (Good G μ s (.tup (vs.drop i)) σ) (fun _ _=>False)
      {s with heap:=s.heap.push {cls:= .type "slice",data:= .fields #[.int (i:Nat) tk, .none, .none]}}:=by
  have hT:IsTup (s.heap.push {cls:= .type "slice",data:= .fields #[.int (i:Nat) tk, .none, .none]}) ad items.toArray:=⟨_,Heap.get?_push_of_some _ g2,rfl,n,rfl⟩
  have hlen:items.toArray.size=vs.length:=g4.length
  refine tail_any hT.typeIs slot_tuple_getitem.lookup (getItem_tuple_from hT (Heap.IsSliceOf.new s.heap _ _ _) h1 (hlen▸h2) ?_ (hlen▸Nat.le_trans g3 yd)) hs
  simp only [List.toList_toArray]
  exact Good.after (s₁:={s with heap:=s.heap.push {cls:= .type "slice",data:= .fields #[.int (i:Nat) tk, .none, .none]}}) (Step.push _) (Good.tup (I.push _ s.toks) s.toks 0 ((g4.step (Step.push _)).drop i) (Nat.le_trans (List.length_drop▸Nat.sub_le _ _) g3))
theorem slice_lst{vs:List V}{ad:Addr}{items:List Value}{n:Nat}{value:Expr}{z1 z2 z3:Value}{l u t:Option Int}{lo hi stt:Option Expr}{p:Pos}(I:Inv G μ σ s)(g2:s.heap.get? ad=some (zN items n))(g3:vs.length≤LIM)(g4:VRs G μ s.heap vs items)(p1:IsPart z1 l)(p2:IsPart z2 u)(p3:IsPart z3 t)(ht:t≠some 0){ops:List Value}
    (hs:subscripted (.Slice lo hi stt p) false (.ref ad) (.ref s.heap.objs.size)=operate ops (getItem (.ref ad) (.ref s.heap.objs.size))) :
    wpAny (model G.prog G.w) A (subscriptTail value (.Slice lo hi stt p) (.ref ad) (.ref s.heap.objs.size)) (Good G μ s (.lst (pick vs l u t)) σ) (fun _ _=>False)
      {s with heap:=s.heap.push {cls:= .type "slice",data:= .fields #[z1,z2,z3]}}:=by
  have hL:(s.heap.push {cls:= .type "slice",data:= .fields #[z1,z2,z3]}).IsList ad items.toArray:=⟨_,Heap.get?_push_of_some _ g2,rfl,n,rfl⟩
  have hlen:items.length=vs.length:=g4.length
  refine tail_any hL.typeIs slot_list_getitem.lookup (wpAny_getItem_list_slice hL (Heap.IsSliceOf.new s.heap _ _ _) p1 p2 p3 ht ?_ (Nat.le_trans (Nat.le_of_eq hlen) (Nat.le_trans g3 yd))) hs
  have st:Step W0 μ μ s.heap _:=Step.push {cls:= .type "slice",data:= .fields #[z1,z2,z3]}
  refine xe12 (pick_slice items vs hlen l u t (g4.step st)) fun ys e1 e2=>?_
  rw [e1]
  exact Good.after st (by simpa [zN] using Good.lst (I.push _ s.toks) s.toks 0 e2 (Nat.le_trans (pick_length ..) g3))
inductive Sliced (σ:List AObj) (l u t:Option Int):V→V→Prop
  | str {x:List Nat}:t=none→Sliced σ l u t (.str x) (.str (sub x l u))
  | tup {vs:List V} {i:Nat}:l=some (i:Int)→u=none→t=none→1≤i→i≤vs.length→Sliced σ l u t (.tup vs) (.tup (vs.drop i))
  | lst {a:V} {vs:List V}:yx σ a=some (.lst vs)→t≠some 0→Sliced σ l u t a (.lst (pick vs l u t))
theorem sliceOf_inv{a:V}{l u t:Option Int}(h:yE σ a l u t=some v):Sliced σ l u t a v:=by
  unfold yE at h
  split at h
  · split at h
    · rename_i ht; exact Option.some.inj h ▸ .str ht
    · contradiction
  · split at h
    · rename_i a
      split at h
      · rename_i ha
        exact Option.some.inj h ▸ .tup (congrArg some (Int.toNat_of_nonneg (by lia)).symm) rfl rfl (by omega) (by grind)
      · contradiction
    · contradiction
  · split at h
    · rename_i vs e
      split at h
      · contradiction
      · rename_i ht; exact Option.some.inj h ▸ .lst e ht
    · contradiction
theorem slice_sound{a c d k:V}{y z1 z2 z3:Value}{value:Expr}{lo hi stt:Option Expr}{p:Pos}{l u t:Option Int}(I:Inv G μ σ s)(qa:VR G μ s.heap a y)(q1:VR G μ s.heap c z1)(q2:VR G μ s.heap d z2)(q3:VR G μ s.heap k z3)
    (h1:ZB c=some l) (h2:ZB d=some u) (h3:ZB k=some t) (h:yE σ a l u t=some v)
    (hs:∀o i,∃ops,subscripted (.Slice lo hi stt p) false o i=operate ops (getItem o i)) :
    wpAny (model G.prog G.w) A (subscriptTail value (.Slice lo hi stt p) y (.ref s.heap.objs.size)) (Good G μ s v σ) (fun _ _=>False)
      {s with heap:=s.heap.push {cls:= .type "slice",data:= .fields #[z1,z2,z3]}}:=by
  have h:=sliceOf_inv h
  have p1:=part_is q1 h1
  have p2:=part_is q2 h2
  have p3:=part_is q3 h3
  refine (hs y (.ref s.heap.objs.size)).elim fun ops hs=>?_
  clear h1 h2 h3 q1 q2 q3
  cases h with
  | str ht=>
    refine qa.2.elim fun tk e=>xe12 p1.2 fun p1' r1 m1=>xe12 p2.2 fun p2' r2 m2=>xe12 p3.2 fun p3' r3 m3=>?_
    subst e r1 m1 r2 m2 r3 m3
    exact slice_str I qa.1 ht hs
  | tup e1 e2 e3 h1 h2=>
    refine xe33 qa fun ad items n e _ g=>?_
    subst e e1 e2 e3
    have p1:=p1.1
    have p2:=p2.1
    have p3:=p3.1
    cases p1; cases p2; cases p3
    exact slice_tup I g.1 g.2.1 g.2.2 h1 h2 hs
  | lst e ht=>
    refine xe33 (qa.islist I e) fun ad items n e g2 g=>?_
    subst e
    exact slice_lst I g2 g.1 g.2 p1.1 p2.1 p3.1 ht hs
noncomputable def zx(f lo hi st:EF):EF:=fun ρ σ=>match f ρ σ with
  | some (a,σ)=>match lo ρ σ with
    | some (b,σ)=>match hi ρ σ with
      | some (c,σ)=>match st ρ σ with
        | some (d,σ)=>match ZB b,ZB c,ZB d with
          | some l,some u,some t=>(yE σ a l u t).map (·,σ)
          | _,_,_=>none
        | none=>none
      | none=>none
    | none=>none
  | none=>none
theorem fSlice_inv{f lo hi st:EF}(h:zx f lo hi st ρ σ=some (v,σ')):∃a b c d,(∃σ₁ σ₂ σ₃,f ρ σ=some (a,σ₁)∧lo ρ σ₁=some (b,σ₂)∧hi ρ σ₂=some (c,σ₃)∧st ρ σ₃=some (d,σ'))∧∃l u t,ZB b=some l∧ZB c=some u∧ZB d=some t∧yE σ' a l u t=some v:=by
  refine oE h fun a σ₁ e1 h=>oE h fun b σ₂ e2 h=>oE h fun c σ₃ e3 h=>oE h fun d σ₄ e4 h=>?_
  cases m1:ZB b with
  | none=>rw [m1] at h; contradiction
  | some l=>cases m2:ZB c with
    | none=>rw [m1,m2] at h; contradiction
    | some u=>cases m3:ZB d with
      | none=>rw [m1,m2,m3] at h; contradiction
      | some t=>
        rw [m1,m2,m3] at h
        exact oM h fun e5 e=>⟨a,b,c,d,⟨σ₁,σ₂,σ₃,e1,e2,e3,e▸e4⟩,l,u,t,m1,m2,m3,e▸e5⟩
theorem ya{x:Expr}{lo hi stt:Option Expr}{pos p:Pos}{f g1 g2 g3:EF}(hx:SE G r cx x f)(h1:SP G r cx lo g1)(h2:SP G r cx hi g2)(h3:SP G r cx stt g3)
    (hs:∀o i,∃ops,subscripted (.Slice lo hi stt p) false o i=operate ops (getItem o i):=by exact fun _ _=>⟨_,rfl⟩) :
    SE G r cx (.Subscript x (.Slice lo hi stt p) pos) (zx f g1 g2 g3):=fun A fm μ ρ σ s v σ' a O I F hf=>by
  refine xe42 (fSlice_inv hf) fun v₁ v₂ v₃ v₄ h h'=>xe34 h fun σ₁ σ₂ σ₃ e1 e2 e3 e4=>xe34 h' fun l u t m1 m2 m3 e5=>?_
  refine PyProof.Rows.Subscript_ (hx.use a O I F e1 fun y s₁ μ₁ st₁ I₁ F₁ q₁=>wpAny_Slice (h1.use a O I₁ F₁ e2 fun z1 s₂ μ₂ st₂ I₂ F₂ q₂=>h2.use a O I₂ F₂ e3 fun z2 s₃ μ₃ st₃ I₃ F₃ q₃=>
    h3.use a O I₃ F₃ e4 fun z3 s₄ μ₄ st₄ I₄ F₄ q₄=>?_))
  exact wpAny_mono (slice_sound I₄ (((q₁.step st₂).step st₃).step st₄) ((q₂.step st₃).step st₄) (q₃.step st₄) q₄ m1 m2 m3 e5 hs)
    (fun _ _ g=>g.after (((st₁.trans st₂).trans st₃).trans st₄)) fun _ _ x=>x
end
end Mi
namespace Mi
inductive Fl where
  | next | brk | cont
  | ret (v:V)
noncomputable abbrev SF:=List V→List AObj→Option (Fl × List V × List AObj)
noncomputable abbrev TF:=V→List V→Option (List V)
section
variable {G:Gd}{r:Nat}{cx:Cx}{fm:Fm}{W W':Addr→Prop}{μ μ' μ₁:List Addr}{h h':Heap}{ρ ρ' ρ₁:List V}{σ σ' σ₁:List AObj}{A:Around}{E:Value→Shared→Prop}{s s' s₁:Shared}{v w:V}{b:Bool}{e:Expr}{fl:Fl}
noncomputable def FlR(G:Gd)(μ:List Addr)(h:Heap):Fl→Flow→Prop
  | .next,f=>f = .next
  | .brk,f=>f = .brk
  | .cont,f=>f = .cont
  | .ret v,f=> ∃y,f = .ret y∧VR G μ h v y
noncomputable def GoodS(G:Gd)(cx:Cx)(fm:Fm)(μ:List Addr)(s:Shared)(fl:Fl)(ρ':List V)(σ':List AObj)(f:Flow)(s':Shared):Prop:=
  ∃μ',Step (Own cx fm) μ μ' s.heap s'.heap∧Inv G μ' σ' s'∧FR G cx fm μ' s'.heap ρ'∧FlR G μ' s'.heap fl f
noncomputable def SS(G:Gd)(r:Nat)(cx:Cx)(st:Stmt)(f:SF):Prop:=
  ∀(A:Around) (fm:Fm) (μ:List Addr) (ρ:List V) (σ:List AObj) (s:Shared) (fl:Fl) (ρ':List V) (σ':List AObj),AOk r A→FmOk cx fm→Inv G μ σ s→FR G cx fm μ s.heap ρ→f ρ σ=some (fl,ρ',σ')→
    wpAny (model G.prog G.w) A (exec st fm.env) (GoodS G cx fm μ s fl ρ' σ') (fun _ _=>False) s
noncomputable def SSs(G:Gd)(r:Nat)(cx:Cx)(st:List Stmt)(f:SF):Prop:=
  ∀(A:Around) (fm:Fm) (μ:List Addr) (ρ:List V) (σ:List AObj) (s:Shared) (fl:Fl) (ρ':List V) (σ':List AObj),AOk r A→FmOk cx fm→Inv G μ σ s→FR G cx fm μ s.heap ρ→f ρ σ=some (fl,ρ',σ')→
    wpAny (model G.prog G.w) A (execs st fm.env) (GoodS G cx fm μ s fl ρ' σ') (fun _ _=>False) s
noncomputable def ST(G:Gd)(r:Nat)(cx:Cx)(t:Expr)(g:TF):Prop:=
  ∀(A:Around) (fm:Fm) (μ:List Addr) (ρ ρ':List V) (σ:List AObj) (s:Shared) (v:V) (y:Value),AOk r A→FmOk cx fm→Inv G μ σ s→FR G cx fm μ s.heap ρ→VR G μ s.heap v y→g v ρ=some ρ'→
    wpAny (model G.prog G.w) A (assign t fm.env y) (fun _ s'=>Step (Own cx fm) μ μ s.heap s'.heap∧FR G cx fm μ s'.heap ρ'∧Inv G μ σ s') (fun _ _=>False) s
theorem GoodS.after{f:Flow}(st:Step (Own cx fm) μ μ₁ s.heap s₁.heap)(g:GoodS G cx fm μ₁ s₁ fl ρ' σ' f s'):GoodS G cx fm μ s fl ρ' σ' f s':=by
  refine xe14 g fun μ' st' I F q=>?_
  exact ⟨μ',st.trans st',I,F,q⟩
noncomputable def zh:SF:=fun ρ σ=>some (.next,ρ,σ)
noncomputable def fSeq(f g:SF):SF:=fun ρ σ=>match f ρ σ with
  | some (.next,ρ,σ)=>g ρ σ
  | some (.brk,ρ,σ)=>some (.brk,ρ,σ)
  | some (.cont,ρ,σ)=>some (.cont,ρ,σ)
  | some (.ret v,ρ,σ)=>some (.ret v,ρ,σ)
  | none=>none
theorem zi:SSs G r cx [] zh:=fun A fm μ ρ σ s fl ρ' σ' a O I F hf=>by
  exact se3 hf (wpAny_execs_nil ⟨μ,Step.refl,I,F,rfl⟩)
theorem fSeq_inv{f g:SF}(h:fSeq f g ρ σ=some (fl,ρ',σ')):(∃ρ₁ σ₁,f ρ σ=some (.next,ρ₁,σ₁)∧g ρ₁ σ₁=some (fl,ρ',σ'))∨(f ρ σ=some (fl,ρ',σ')∧fl ≠ .next):=by
  unfold fSeq at h
  cases e:f ρ σ with
  | none=>rw [e] at h; contradiction
  | some p=>
    rw [e] at h
    cases p with | mk fl₁ p=>cases fl₁ with
    | next=>exact .inl ⟨p.1,p.2,rfl,h⟩
    | _=>exact .inr ⟨h,se2 h nofun⟩
theorem seqQ{f:Flow}{P:Prop}(q:GoodS G cx fm μ s fl ρ' σ' f s')(hn:fl ≠ .next):(match (generalizing:=false) f with | .next=>P | f=>GoodS G cx fm μ s fl ρ' σ' f s'):=by
  cases f with
  | next=>exact xe14 q fun _ _ _ _ q=>by cases fl with
      | next=>exact absurd rfl hn
      | ret v=>exact xe12 q fun _ e _=>by contradiction
      | _=>contradiction
  | _=>exact q
theorem ze{st:Stmt}{sts:List Stmt}{f g:SF}(h1:SS G r cx st f)(h2:SSs G r cx sts g):SSs G r cx (st::sts) (fSeq f g):=fun A fm μ ρ σ s fl ρ' σ' a O I F hf=>
  wpAny_execs_cons ((fSeq_inv hf).elim (fun hf=>xe22 hf fun ρ₁ σ₁ e1 e2=>wpAny_mono (h1 A fm μ ρ σ s _ _ _ a O I F e1) (fun _ s₁ q=>xe14 q fun μ₁ st₁ I₁ F₁ q=>(show _=Flow.next from q)▸wpAny_mono (h2 A fm μ₁ ρ₁ σ₁ s₁ _ _ _ a O I₁ F₁ e2) (fun _ _ g=>g.after st₁) fun _ _ x=>x) fun _ _ x=>x)
    fun hf=>wpAny_mono (h1 A fm μ ρ σ s _ _ _ a O I F hf.1) (fun _ _ q=>seqQ q hf.2) fun _ _ x=>x)
noncomputable def tVar(i:Nat):TF:=fun v ρ=>some (ρ.set i v)
theorem zn{i:Nat}{x:Str}{k:VK}{pos:Pos}(e:cx.xs[i]?=some (x,k))(hk:k ≠ .fre:=by decide):ST G r cx (.Name x pos) (tVar i):=fun A fm μ ρ ρ' σ s v y a O I F q hf=>by
  cases hf
  exact wpAny_assign_Name (store_var O F I e hk q fun s' st _ F' I'=>⟨st,F',I'⟩)
structure STs(G:Gd)(r:Nat)(cx:Cx)(ts:List Expr)(g:List V→List V→Option (List V)):Prop where
  plain:∀env,(assignEach ts env).length=ts.length∧(assignEach ts env).findIdx? (·.1)=none
  len:∀vs ρ ρ',g vs ρ=some ρ'→vs.length=ts.length
  all:∀(A:Around) (fm:Fm) (μ:List Addr) (ρ ρ':List V) (σ:List AObj) (s:Shared) (vs:List V) (ys:List Value),AOk r A→FmOk cx fm→Inv G μ σ s→FR G cx fm μ s.heap ρ→VRs G μ s.heap vs ys→g vs ρ=some ρ'→
    wpAny (model G.prog G.w) A (assignInOrder ((assignEach ts fm.env).map (·.2)) ys) (fun _ s'=>Step (Own cx fm) μ μ s.heap s'.heap∧FR G cx fm μ s'.heap ρ'∧Inv G μ σ s') (fun _ _=>False) s
noncomputable def tNil:List V→List V→Option (List V)
  | [],ρ=>some ρ
  | _,_=>none
noncomputable def zL(g:TF)(gs:List V→List V→Option (List V)):List V→List V→Option (List V)
  | v::vs,ρ=>(g v ρ).bind (gs vs)
  | [],_=>none
theorem sts_nil:STs G r cx [] tNil where
  plain:=fun _=>⟨rfl,rfl⟩
  len:=fun vs ρ ρ' hf=>by
    cases vs with
    | nil=>rfl
    | cons _ _=>contradiction
  all:=fun A fm μ ρ ρ' σ s vs ys a O I F q hf=>by
    cases vs with
    | nil=>
      cases hf
      have q':ys= []:=q
      subst q'
      exact wpAny_pure ⟨Step.refl,F,I⟩
    | cons _ _=>contradiction
theorem yl{t:Expr}{ts:List Expr}{g:TF}{gs:List V→List V→Option (List V)}(h1:ST G r cx t g)(h2:STs G r cx ts gs)
    (he:∀env,assignEach (t::ts) env=(false,assign t env)::assignEach ts env:=by exact fun _=>rfl):STs G r cx (t::ts) (zL g gs) where
  plain:=fun env=>by
    rw [he]
    refine ⟨by simp [(h2.plain env).1],?_⟩
    have:=(h2.plain env).2
    simp only [List.findIdx?_cons,Bool.false_eq_true,if_false,this]; rfl
  len:=fun vs ρ ρ' hf=>by
    cases vs with
    | nil=>contradiction
    | cons v vs=>
      simp only [zL,Option.bind_eq_some_iff] at hf
      refine xe12 hf fun ρ₁ e1 e2=>?_
      simp [h2.len vs ρ₁ ρ' e2]
  all:=fun A fm μ ρ ρ' σ s vs ys a O I F q hf=>by
    cases vs with
    | nil=>contradiction
    | cons v vs=>
      obtain ⟨y,ys,rfl,q1,q2⟩:=q
      simp only [zL,Option.bind_eq_some_iff] at hf
      refine xe12 hf fun ρ₁ e1 e2=>?_
      rw [he]
      show wpAny _ A (do holding ys (assign t fm.env y); assignInOrder ((assignEach ts fm.env).map (·.2)) ys) _ _ s
      refine wpAny_bind (wpAny_holding (wpAny_mono (h1 A fm μ ρ ρ₁ σ s v y a O I F q1 e1) (fun _ s₁ g=>?_) fun _ _ x=>x))
      refine xe03 g fun st F₁ I₁=>?_
      exact wpAny_mono (h2.all A fm μ ρ₁ ρ' σ s₁ vs ys a O I₁ F₁ (q2.step st) e2) (fun _ _ g=>⟨st.trans g.1,g.2⟩) fun _ _ x=>x
noncomputable def tTup(gs:List V→List V→Option (List V)):TF
  | .tup vs,ρ=>gs vs ρ
  | _,_=>none
theorem Inv.kept(I:Inv G μ σ s)(hk:∀b o,s.heap.get? b=some o→h'.get? b=some o)(hz:s.heap.objs.size≤h'.objs.size)(t:Nat):Inv G μ σ {s with heap:=h',toks:=t}∧Step W0 μ μ s.heap h':=by
  have st:Step W0 μ μ s.heap h':=⟨⟨[],by simp,by simp⟩,hz,fun a o _ _ e=>hk a o e,fun a o _ _ e=>hk a o e⟩
  exact ⟨⟨fun a o e=>hk a o (I.base a o e),fun a ha=>⟨(I.new a ha).1,Nat.lt_of_lt_of_le (I.new a ha).2 hz⟩,I.nodup,I.len,fun l a o e1 e2=>(I.obj l a o e1 e2).step st fun _ e=>hk _ _ e,I.gens,I.os,I.fix⟩,st⟩
theorem st_tup{ts:List Expr}{k:Nat}{pos:Pos}{gs:List V→List V→Option (List V)}(hs:STs G r cx ts gs):ST G r cx (.Tuple ts k pos) (tTup gs):=fun A fm μ ρ ρ' σ s v y a O I F q hf=>by
  cases v <;> try (contradiction; done)
  rename_i vs
  obtain ⟨ad,items,n,rfl,_,e1,e2,e3⟩:=q
  have hlen:=hs.len vs ρ ρ' hf
  have hl:=e3.length
  have ht:IsTup s.heap ad items.toArray:=⟨_,e1,rfl,n,rfl⟩
  rw [PyProof.Rows.assign_Tuple]
  refine wpAny_bind (wpAny_standAt ?_)
  unfold unpack
  rw [show (assignEach ts fm.env).length=items.toArray.size by rw [(hs.plain _).1]; simp only [List.size_toArray]; lia,(hs.plain _).2]
  refine wpAny_bind (wpAny_holding (yk (PyProof.Rows.unpackItems_tuple a.handled ht fun h' hk hz=>?_)))
  obtain ⟨I',st⟩:=I.kept (h':=h') (fun b o e=>hk b o (Nat.ne_of_lt (Heap.lt_size e)) e) hz s.toks
  exact wpAny_mono (hs.all A fm μ ρ ρ' σ _ vs items a O I' (F.step0 st) (e3.step st) hf) (fun _ s' g=>⟨(st.of0).trans g.1,g.2⟩) fun _ _ x=>x
noncomputable def fAsg(f:EF)(g:TF):SF:=fun ρ σ=>match f ρ σ with
  | some (v,σ)=>(g v ρ).map fun ρ=>(.next,ρ,σ)
  | none=>none
theorem fAsg_some{f:EF}{g:TF}(hf:fAsg f g ρ σ=some (fl,ρ',σ')):∃v,f ρ σ=some (v,σ')∧g v ρ=some ρ'∧fl = .next:=
  oE hf fun v _ e1 hf=>xe12 (Option.map_eq_some_iff.mp hf) fun _ e2 e3=>pe3 e3 ⟨v,e1,e2,rfl⟩
theorem zu{t value:Expr}{pos:Pos}{f:EF}{g:TF}(hv:SE G r cx value f)(ht:ST G r cx t g)
    (hs:∀env,swapsWithSole [t] value pos.line env=pure false:=by exact fun _=>rfl) (hw:∀env,swappedStores [t] value env=pure none:=by exact fun _=>rfl)
    (he:∀env,(assignEach [t] env).map (·.2)= [assign t env]:=by exact fun _=>rfl) :
    SS G r cx (.Assign [t] value pos) (fAsg f g):=fun A fm μ ρ σ s fl ρ' σ' a O I F hf=>by
  refine xe13 (fAsg_some hf) fun v e1 e2 e=>wpAny_Assign_stores (hv.use a O I F e1 fun y s₁ μ₁ st₁ I₁ F₁ q₁=>?_) (hs _) (hw _)
  rw [he]
  exact wpAny_mono (ht A fm μ₁ ρ ρ' σ' s₁ v y a O I₁ F₁ q₁ e2) (fun _ s₂ g=>⟨μ₁,st₁.of0.trans g.1,g.2.2,g.2.1,e▸rfl⟩) fun _ _ x=>x
noncomputable def isAS:Operator→Bool
  | .Add | .Sub=>true
  | _=>false
theorem iop_sound{op:Operator}{a b:V}{y z:Value}(I:Inv G μ σ s)(qa:VR G μ s.heap a y)(qb:VR G μ s.heap b z)(h:opOf op a b=some v)(hop:isAS op=true)(hl:∀x,a ≠ .lst x) :
    wpAny (model G.prog G.w) A (inplaceOp op y z) (Good G μ s v σ) (fun _ _=>False) s:=by
  cases op with
  | Add=>
    have h:=opAdd_inv h
    cases h with
    | int=>exact Exists.elim qa fun t e1=>Exists.elim qb fun u e2=>e1▸e2▸P.iadd_int (Good.same I _ ⟨_,rfl⟩)
    | @str x y hl'=>exact Exists.elim (And.right qa) fun t e1=>Exists.elim (And.right qb) fun u e2=>e1▸e2▸PyProof.Rows.iadd_str (fun t' tk=>Good.strs I (t:=t) (u:=u) (And.left qa) (And.left qb) hl' tk) (Nat.le_trans hl' yd)
    | lst _=>exact absurd rfl (hl _)
  | Sub=>exact oInt2 h qa qb fun i j t u h=>se1 h (P.isub_int (Good.same I _ ⟨_,rfl⟩))
  | _=>cases hop
noncomputable def noLst:V→Bool
  | .lst _=>false
  | _=>true
noncomputable def fAug(op:Operator)(i:Nat)(f:EF):SF:=fun ρ σ=>match fVar i ρ σ with
  | some (a,σ)=>match f ρ σ with
    | some (b,σ)=>if noLst a then (opOf op a b).map fun v=>(.next,ρ.set i v,σ) else none
    | none=>none
  | none=>none
theorem fAug_inv{op:Operator}{i:Nat}{f:EF}(h:fAug op i f ρ σ=some (fl,ρ',σ')):∃a b v,(fVar i ρ σ=some (a,σ)∧f ρ σ=some (b,σ'))∧noLst a=true∧opOf op a b=some v∧(fl,ρ')=(.next,ρ.set i v):=
  oE h fun a σ₁ e1 h1=>oE h1 fun b σ₂ e2 h2=>by
    clear h h1
    have e:=(fVar_some e1).2.2
    subst e
    by_cases hl:noLst a=true
    · rw [if_pos hl] at h2
      exact xe12 (Option.map_eq_some_iff.mp h2) fun v e3 e=>pe3 e ⟨a,b,v,⟨e1,e2⟩,hl,e3,rfl⟩
    · rw [if_neg hl] at h2; contradiction
theorem ss_aug{i:Nat}{x:Str}{k:VK}{op:Operator}{p pos:Pos}{value:Expr}{f:EF}(e:cx.xs[i]?=some (x,k))(hv:SE G r cx value f)(hk:k ≠ .fre:=by decide)(hop:isAS op=true:=by rfl) :
    SS G r cx (.AugAssign (.Name x p) op value pos) (fAug op i f):=fun A fm μ ρ σ s fl ρ' σ' a O I F hf=>
  xe34 (fAug_inv hf) fun v₁ v₂ w e1 hl e3 e4=>pr2 e4 (xe03 (fVar_some e1.1) fun g1 g2 _=>wpAny_AugAssign_Name (load_var O F e g1 g2 fun y q=>hv.use a O I F e1.2 fun z s₂ μ₂ st₂ I₂ F₂ q₂=>
    wpAny_mono (iop_sound I₂ (q.step st₂) q₂ e3 hop (fun x hx=>by subst hx; contradiction)) (fun r' s₃ g=>xe13 g fun μ₃ st₃ I₃ q₃=>store_var O (F₂.step0 st₃) I₃ e hk q₃ fun s₄ st₄ _ F₄ I₄=>⟨μ₃,((st₂.trans st₃).of0).trans st₄,I₄,F₄,rfl⟩) fun _ _ x=>x.elim))
noncomputable def zX(f:EF):SF:=fun ρ σ=>match f ρ σ with
  | some (.none,σ)=>some (.next,ρ,σ)
  | _=>none
theorem yD{value:Expr}{pos:Pos}{f:EF}(hv:SE G r cx value f)(hs:∀env,swapsWith value none pos.line env=pure false:=by exact fun _=>rfl):SS G r cx (.Expr value pos) (zX f):=fun A fm μ ρ σ s fl ρ' σ' a O I F hf=>by
  have hf':f ρ σ=some (.none,σ')∧(fl,ρ')=(.next,ρ):=by
    unfold zX at hf
    cases e:f ρ σ with
    | none=>rw [e] at hf; contradiction
    | some p=>
      rw [e] at hf
      cases p with | mk v σ₁=>cases v with
      | none=>exact se3 hf ⟨rfl,rfl⟩
      | _=>contradiction
  exact pr2 hf'.2 (wpAny_Expr (hv.use a O I F hf'.1 fun y s₁ μ₁ st₁ I₁ F₁ q₁=>(show y = .none from q₁)▸⟨μ₁,st₁.of0,I₁,F₁,rfl⟩) (by unfold interactive; rw [O.kind]; rfl) (hs _))
noncomputable def fIfS(c:BF)(f g:SF):SF:=fun ρ σ=>match c ρ σ with
  | some (true,σ)=>f ρ σ
  | some (false,σ)=>g ρ σ
  | none=>none
theorem yQ{c:Expr}{b o:List Stmt}{pos:Pos}{fc:BF}{f g:SF}(hc:SB G r cx c fc)(hb:SSs G r cx b f)(ho:SSs G r cx o g):SS G r cx (.If c b o pos) (fIfS fc f g):=fun A fm μ ρ σ s fl ρ' σ' a O I F hf=>by
  have hf':∃b σ₁,fc ρ σ=some (b,σ₁)∧(match b with | true=>f ρ σ₁ | false=>g ρ σ₁)=some (fl,ρ',σ'):=by
    unfold fIfS at hf
    cases e:fc ρ σ with
    | none=>rw [e] at hf; contradiction
    | some p=>
      rw [e] at hf
      cases p with | mk b σ₁=>exact ⟨b,σ₁,rfl,by cases b <;> exact hf⟩
  refine xe22 hf' fun b σ₁ e1 hf=>wpAny_If (hc.use a O I F e1 fun s₁ μ₁ st₁ I₁ F₁=>?_)
  cases b with
  | true=>exact wpAny_mono (hb A fm μ₁ ρ σ₁ s₁ _ _ _ a O I₁ F₁ hf) (fun _ _ g=>g.after st₁.of0) fun _ _ x=>x
  | false=>exact wpAny_mono (ho A fm μ₁ ρ σ₁ s₁ _ _ _ a O I₁ F₁ hf) (fun _ _ g=>g.after st₁.of0) fun _ _ x=>x
noncomputable def fRet(f:EF):SF:=fun ρ σ=>match f ρ σ with
  | some (v,σ)=>some (.ret v,ρ,σ)
  | none=>none
theorem yf{value:Expr}{pos:Pos}{f:EF}(hv:SE G r cx value f):SS G r cx (.Return (some value) pos) (fRet f):=fun A fm μ ρ σ s fl ρ' σ' a O I F hf=>
  oE hf fun v σ₁ e1 hf=>se3 hf (wpAny_Return_some (hv.use a O I F e1 fun y s₁ μ₁ st₁ I₁ F₁ q₁=>⟨μ₁,st₁.of0,I₁,F₁,y,rfl,q₁⟩))
noncomputable def fBrk:SF:=fun ρ σ=>some (.brk,ρ,σ)
noncomputable def fCont:SF:=fun ρ σ=>some (.cont,ρ,σ)
theorem ss_brk{pos:Pos}:SS G r cx (.Break pos) fBrk:=fun A fm μ ρ σ s fl ρ' σ' a O I F hf=>by
  exact se3 hf (wpAny_Break ⟨μ,Step.refl,I,F,rfl⟩)
theorem ss_cont{pos:Pos}:SS G r cx (.Continue pos) fCont:=fun A fm μ ρ σ s fl ρ' σ' a O I F hf=>by
  exact se3 hf (wpAny_Continue ⟨μ,Step.refl,I,F,rfl⟩)
noncomputable def Lx(rest:SF)(x:Fl × List V × List AObj):Fl→List V→List AObj→Prop
  | .next,ρ,σ=>rest ρ σ=some x
  | .cont,ρ,σ=>rest ρ σ=some x
  | .brk,ρ,σ=>x=(.next,ρ,σ)
  | .ret v,ρ,σ=>x=(.ret v,ρ,σ)
noncomputable def lpF(rest:SF):Option (Fl × List V × List AObj)→Option (Fl × List V × List AObj)
  | some (.next,ρ,σ)=>rest ρ σ
  | some (.cont,ρ,σ)=>rest ρ σ
  | some (.brk,ρ,σ)=>some (.next,ρ,σ)
  | some (.ret v,ρ,σ)=>some (.ret v,ρ,σ)
  | none=>none
theorem lpx_of{rest:SF}{x:Fl × List V × List AObj}:∀{y:Option (Fl × List V × List AObj)},lpF rest y=some x→∃fl ρ σ,y=some (fl,ρ,σ)∧Lx rest x fl ρ σ
  | some (.next,_,_),h=>⟨_,_,_,rfl,h⟩
  | some (.cont,_,_),h=>⟨_,_,_,rfl,h⟩
  | some (.brk,_,_),h=>⟨_,_,_,rfl,(Option.some.inj h).symm⟩
  | some (.ret _,_,_),h=>⟨_,_,_,rfl,(Option.some.inj h).symm⟩
theorem lpx_to{rest:SF}{x:Fl × List V × List AObj}:∀{fl:Fl},Lx rest x fl ρ σ→lpF rest (some (fl,ρ,σ))=some x
  | .next,h=>h
  | .cont,h=>h
  | .brk,h=>congrArg some (Eq.symm h)
  | .ret _,h=>congrArg some (Eq.symm h)
theorem Lx.mono{rest rest':SF}{x:Fl × List V × List AObj}(hr:∀ρ σ,rest ρ σ=some x→rest' ρ σ=some x):∀{fl:Fl},Lx rest x fl ρ σ→Lx rest' x fl ρ σ
  | .next,h=>hr _ _ h
  | .cont,h=>hr _ _ h
  | .brk,h=>h
  | .ret _,h=>h
noncomputable def Tl(Q:Flow→Shared→Prop)(P:Shared→Prop)(f:Flow)(s:Shared):Prop:=match f with
  | .next | .cont=>P s
  | .brk=>Q .next s
  | .ret v=>Q (.ret v) s
theorem tl_of{rest:SF}{μ₀:List Addr}{s₀:Shared}{f:Flow}{fl₁:Fl}{P:Shared→Prop}(g:GoodS G cx fm μ s fl₁ ρ₁ σ₁ f s')(hx:Lx rest (fl,ρ',σ') fl₁ ρ₁ σ₁)
    (hs:∀{μ'},Step (Own cx fm) μ μ' s.heap s'.heap→Step (Own cx fm) μ₀ μ' s₀.heap s'.heap)
    (nx:∀μ',Step (Own cx fm) μ μ' s.heap s'.heap→Inv G μ' σ₁ s'→FR G cx fm μ' s'.heap ρ₁→rest ρ₁ σ₁=some (fl,ρ',σ')→P s'):Tl (GoodS G cx fm μ₀ s₀ fl ρ' σ') P f s':=by
  refine xe14 g fun μ' st I F q=>?_
  cases fl₁ with
  | next=>exact (q:f=_)▸nx μ' st I F hx
  | cont=>exact (q:f=_)▸nx μ' st I F hx
  | brk=>exact (q:f=_)▸pr3 hx ⟨μ',hs st,I,F,rfl⟩
  | ret v=>exact xe12 q fun y e q=>e▸pr3 hx ⟨μ',hs st,I,F,y,rfl,q⟩
noncomputable def RS(Q:Flow→Shared→Prop):Result→Shared→Prop
  | .ok f,s=>Q f s
  | .error _,_=>False
noncomputable def wStep(c:BF)(b rest:SF):SF:=fun ρ σ=>match c ρ σ with
  | some (true,σ)=>lpF rest (b ρ σ)
  | some (false,σ)=>some (.next,ρ,σ)
  | none=>none
noncomputable def wIter(c:BF)(b:SF):Nat→SF
  | 0=>fun _ _=>none
  | n+1=>wStep c b (wIter c b n)
theorem wStep_inv{c:BF}{b rest:SF}{x:Fl × List V × List AObj}(h:wStep c b rest ρ σ=some x):(∃σ₁,c ρ σ=some (false,σ₁)∧x=(.next,ρ,σ₁))∨∃σ₁ fl ρ₂ σ₂,c ρ σ=some (true,σ₁)∧b ρ σ₁=some (fl,ρ₂,σ₂)∧Lx rest x fl ρ₂ σ₂:=by
  unfold wStep at h
  split at h
  · rename_i σ₁ e
    refine xe32 (lpx_of h) fun fl ρ₂ σ₂ e1 e2=>?_
    exact .inr ⟨σ₁,fl,ρ₂,σ₂,e,e1,e2⟩
  · rename_i σ₁ e
    exact .inl ⟨σ₁,e,(Option.some.inj h).symm⟩
  · contradiction
theorem wStep_yes{c:BF}{b rest:SF}{fl:Fl}{x:Fl × List V × List AObj}(e:c ρ σ=some (true,σ₁))(eb:b ρ σ₁=some (fl,ρ₁,σ'))(hx:Lx rest x fl ρ₁ σ'):wStep c b rest ρ σ=some x:=by
  unfold wStep; refine rg e ?_; exact (congrArg (lpF rest) eb).trans (lpx_to hx)
theorem wStep_no{c:BF}{b rest:SF}(e:c ρ σ=some (false,σ₁)):wStep c b rest ρ σ=some (.next,ρ,σ₁):=by
  unfold wStep; refine rg e ?_; rfl
open Classical in
noncomputable def lim(it:Nat→SF):SF:=fun ρ σ=>if h:∃n r,it n ρ σ=some r then some (Classical.choose (Classical.choose_spec h)) else none
theorem lim_ex{it:Nat→SF}{x:Fl × List V × List AObj}(h:lim it ρ σ=some x):∃n,it n ρ σ=some x:=by
  unfold lim at h
  by_cases hex:∃n r,it n ρ σ=some r
  · rw [dif_pos hex] at h
    exact ⟨_,(Classical.choose_spec (Classical.choose_spec hex)).trans h⟩
  · rw [dif_neg hex] at h; contradiction
theorem lim_of{it:Nat→SF}(up:∀x n ρ σ,it n ρ σ=some x→it (n+1) ρ σ=some x){n:Nat}{x:Fl × List V × List AObj}(h:it n ρ σ=some x):lim it ρ σ=some x:=by
  have le:∀{n m x},n≤m→it n ρ σ=some x→it m ρ σ=some x:=fun hnm h=>Nat.le.rec h (fun _ ih=>up _ _ _ _ ih) hnm
  have hex:∃n r,it n ρ σ=some r:=⟨n,x,h⟩
  exact (dif_pos hex).trans ((le (Nat.le_max_right n (Classical.choose hex)) (Classical.choose_spec (Classical.choose_spec hex))).symm.trans (le (Nat.le_max_left n (Classical.choose hex)) h))
noncomputable def yA(c:BF)(b:SF):SF:=lim (wIter c b)
theorem wIter_up{c:BF}{b:SF}(x:Fl × List V × List AObj):∀(n:Nat) (ρ:List V) (σ:List AObj),wIter c b n ρ σ=some x→wIter c b (n+1) ρ σ=some x
  | 0=>fun _ _ h=>nomatch h
  | n+1=>fun ρ σ h=>(wStep_inv h).elim (fun h=>xe12 h fun _ e q=>q▸wStep_no e) fun h=>xe43 h fun _ _ _ _ e eb hx=>wStep_yes e eb (hx.mono (wIter_up x n))
theorem fWhile_ex{c:BF}{b:SF}{x:Fl × List V × List AObj}(h:yA c b ρ σ=some x):∃n,wIter c b n ρ σ=some x:=lim_ex h
theorem fWhile_of{c:BF}{b:SF}{n:Nat}{x:Fl × List V × List AObj}(h:wIter c b n ρ σ=some x):yA c b ρ σ=some x:=lim_of wIter_up h
theorem zO{c:BF}{b:SF}(h:c ρ σ=some (false,σ₁)):yA c b ρ σ=some (.next,ρ,σ₁):=fWhile_of (n:=1) (wStep_no h)
theorem z5{c:BF}{b:SF}{ρ₂:List V}{σ₂:List AObj}(h:c ρ σ=some (true,σ₁))(hb:b ρ σ₁=some (.next,ρ₂,σ₂)∨b ρ σ₁=some (.cont,ρ₂,σ₂)){x:Fl × List V × List AObj}(hx:yA c b ρ₂ σ₂=some x):yA c b ρ σ=some x:=
  (fWhile_ex hx).elim fun n hn=>fWhile_of (n:=n+1) (hb.elim (fun hb=>wStep_yes h hb hn) fun hb=>wStep_yes h hb hn)
theorem fWhile_brk{c:BF}{b:SF}{ρ₂:List V}{σ₂:List AObj}(h:c ρ σ=some (true,σ₁))(hb:b ρ σ₁=some (.brk,ρ₂,σ₂)):yA c b ρ σ=some (.next,ρ₂,σ₂):=fWhile_of (n:=1) (wStep_yes h hb rfl)
theorem whileT{prog:Program}{w:World}{test:Expr}{body:List Stmt}{env:Env}{pos:Pos}{Q:Flow→Shared→Prop}(I:Nat→Shared→Prop)
    (turn:∀n s,I n s→wpAny (model prog w) A (isTrue test env (eval test env)) (fun b s₂=>if b then wpAny (model prog w) A (execs body env) (Tl Q fun s₃=> ∃m,m<n∧I m s₃) (fun _ _=>False) s₂ else Q .next s₂) (fun _ _=>False) s)
    (n:Nat) (h:I n s):wpAny (model prog w) A (exec (.While test body [] pos) env) Q (fun _ _=>False) s:=by
  refine wpAny_While (codeAny_mono (R:=RS Q) (codeAny_whileLoop I (fun n s hI=>wpAny_mono (turn n s hI) (fun b s₂ q=>?_) fun _ _ x=>x.elim) n h) fun r s' q=>?_)
  · cases b with
    | true=>exact wpAny_mono q (fun f _ q=>by cases f <;> exact q) fun _ _ x=>x.elim
    | false=>exact wpAny_execs_nil q
  · cases r with
    | ok f=>exact q
    | error e=>exact q.elim
theorem ZT{c:Expr}{b:List Stmt}{pos:Pos}{fc:BF}{f:SF}(hc:SB G r cx c fc)(hb:SSs G r cx b f):SS G r cx (.While c b [] pos) (yA fc f):=fun A fm μ ρ σ s fl ρ' σ' a O I F hf=>by
  refine (fWhile_ex hf).elim fun n hn=>whileT (fun k s₁=> ∃μ₁ ρ₁ σ₁,Step (Own cx fm) μ μ₁ s.heap s₁.heap∧Inv G μ₁ σ₁ s₁∧FR G cx fm μ₁ s₁.heap ρ₁∧wIter fc f k ρ₁ σ₁=some (fl,ρ',σ')) (fun k s₁ h=>xe34 h fun μ₁ ρ₁ σ₁ st₁ I₁ F₁ hk=>?_) n ⟨μ,ρ,σ,Step.refl,I,F,hn⟩
  cases k with
  | zero=>contradiction
  | succ k=>
    exact (wStep_inv hk).elim
      (fun h=>xe12 h fun _ e1 e2=>hc.use a O I₁ F₁ e1 fun _ μ₂ st₂ I₂ F₂=>pr3 e2 ⟨μ₂,st₁.trans st₂.of0,I₂,F₂,rfl⟩)
      fun h=>xe43 h fun _ _ _ _ e1 e2 hx=>hc.use a O I₁ F₁ e1 fun s₂ μ₂ st₂ I₂ F₂=>wpAny_mono (hb A fm μ₂ ρ₁ _ s₂ _ _ _ a O I₂ F₂ e2)
          (fun _ _ q=>tl_of q hx (fun st=>(st₁.trans st₂.of0).trans st) fun μ₃ st₃ I₃ F₃ h=>⟨k,Nat.lt_succ_self k,μ₃,_,_,(st₁.trans st₂.of0).trans st₃,I₃,F₃,h⟩) fun _ _ x=>x.elim
end
end Mi
namespace Mi
noncomputable def okLot(o:Obj):Prop:= ¬Imm o∧(o.cls = .type "list_iterator"∨o.cls = .type "tuple_iterator"∨o.cls = .type "range_iterator"∨o.cls = .type "list_reverseiterator"∨o.cls = .type "str_ascii_iterator"∨o.cls = .type "str_iterator")
section
variable {prog:Program}{w:World}{A:Around}{E:Value→Shared→Prop}{s:Shared}{R:Result→Shared→Prop}
theorem lot_goes{target:Expr}{I:Addr}{v:Value}{o:Obj}{Q:Unit→Shared→Prop}(ho:s.heap.get? I=some o)(hl:okLot o)(h:Q () s):wpAny (model prog w) A (letOwnedTupleGo target (.ref I) v) Q E s:=by
  have key:wpAny (model prog w) A (match (Value.ref I,v) with
      | (.ref r, .ref a)=>do
        let o ←load r
        match o.cls,o.data with
        | .type n, .fields vs=>
          if ["enumerate","zip","dict_itemiterator","dict_reverseitemiterator","odict_iterator","itertools.zip_longest","itertools.pairwise"].contains n&&vs[0]?==some (rawInt a) then
            rule "for.unpacks-the-owned-tuple"
            updateField r 0 .none
        | _,_=>pure ()
      | _=>pure ()) Q E s:=by
    have hc:∃n,o.cls = .type n∧ ["enumerate","zip","dict_itemiterator","dict_reverseitemiterator","odict_iterator","itertools.zip_longest","itertools.pairwise"].contains n=false:=by
      rcases hl.2 with hc | hc | hc | hc | hc | hc <;> exact ⟨_,hc,by decide +kernel⟩
    cases v with
    | ref a=>
      refine wpAny_bind (wpAny_load ho ?_)
      refine xe12 hc fun n h1 h2=>?_
      refine rg h1 ?_
      cases o.data with
      | fields vs=>exact wpAny_ite_split (fun q=>by rw [h2] at q; contradiction) fun _=>wpAny_pure h
      | _=>exact wpAny_pure h
    | _=>exact wpAny_pure h
  cases target <;> first | exact key | exact wpAny_pure h
noncomputable def ForQ(prog:Program)(w:World)(A:Around)(target:Expr)(body:List Stmt)(env:Env)(itv:Value)(Q:Flow→Shared→Prop)(P:Shared→Prop):Option Value→Shared→Prop
  | none,s=>Q .next s
  | some v,s=>wpAny (model prog w) A (letOwnedTupleGo target itv v) (fun _ s=>wpAny (model prog w) A (assign target env v) (fun _ s=>wpAny (model prog w) A (execs body env) (Tl Q P) (fun _ _=>False) s) (fun _ _=>False) s) (fun _ _=>False) s
noncomputable def Less(I:Nat→Shared→Prop)(n:Nat)(s:Shared):Prop:= ∃m,m<n∧I m s
theorem forT{target:Expr}{body:List Stmt}{env:Env}{itv:Value}{Q:Flow→Shared→Prop}(I:Nat→Shared→Prop)
    (turn:∀n s,I n s→wpAny (model prog w) A (pyNext itv) (ForQ prog w A target body env itv Q (Less I n)) (fun _ _=>False) s)
    (n:Nat) (h:I n s):codeAny (model prog w) A (.forLoop target itv body [] env) (RS Q) s:=by
  refine codeAny_loop' rfl I (fun n s hI=>?_) n h
  refine wpAny_noted (m:=forTurn target itv body [] env) ?_
  skip
  refine wpAny_bind (wpAny_standAt (wpAny_bind (wpAny_onRaise (wpAny_mono (turn n s hI) (fun r s₁ h₁=>?_) fun _ _ h'=>h'.elim))))
  cases r with
  | none=>exact wpAny_pure (.inr ⟨rfl,codeAny_block (wpAny_execs_nil h₁)⟩)
  | some v=>
    refine wpAny_bind (wpAny_mono h₁ (fun _ s₁ h₁=>wpAny_bind (wpAny_mono h₁ (fun _ s₂ h₂=>wpAny_bind (wpAny_mono h₂ (fun f s₃ h₃=>?_) fun _ _ h'=>h'.elim)) fun _ _ h'=>h'.elim)) fun _ _ h'=>h'.elim)
    cases f with
    | next=>exact wpAny_pure (.inl ⟨rfl,h₃⟩)
    | cont=>exact wpAny_pure (.inl ⟨rfl,h₃⟩)
    | brk=>exact wpAny_pure h₃
    | ret v=>exact wpAny_pure h₃
end
section
variable {G:Gd}{r:Nat}{cx:Cx}{fm:Fm}{W W':Addr→Prop}{μ μ' μ₁:List Addr}{h h':Heap}{ρ ρ' ρ₁:List V}{σ σ' σ₁:List AObj}{A:Around}{E:Value→Shared→Prop}{s s' s₁:Shared}{v:V}{b:Bool}{e:Expr}{fl:Fl}
structure It(G:Gd)(r:Nat)(μ:List Addr)(h:Heap)(lo:Nat)(I:Addr)(vs:List V)(fp:List Addr)(P:Nat→Value→Prop)(St:Nat→Heap→Prop):Prop where
  walks:∀A,AOk r A→Walks G.prog G.w A I fp [I] vs.length P St
  fresh:lo≤I
  lot:∀i h,St i h→∃o,h.get? I=some o∧okLot o
  val:∀i x,P i x→∃v,vs[i]?=some v∧VR G μ h v x
structure Fp(μ:List Addr)(h:Heap)(I:Addr)(fp:List Addr):Prop where
  notin:I∉μ
  others:∀b∈fp,b≠I→b∉μ∧∃o,h.get? b=some o∧Imm o
  all:∀b∈fp,b<h.objs.size
theorem Fp.step{I:Addr}{fp:List Addr}{o:Obj}(x:Step W μ μ' h h')(f:Fp μ h I fp)(hI:h.get? I=some o):Fp μ' h' I fp:=
  ⟨x.notin f.notin hI,fun b hb hn=>by
    obtain ⟨h1,o,h2,h3⟩:=f.others b hb hn
    exact ⟨x.notin h1 h2,o,x.imm _ _ h1 h3 h2,h3⟩,fun b hb=>Nat.lt_of_lt_of_le (f.all b hb) x.sz⟩
theorem Fp.st{I:Addr}{fp:List Addr}{vs:List V}{P:Nat→Value→Prop}{St:Nat→Heap→Prop}{lo:Nat}{μ₀:List Addr}{h₀:Heap}(J:It G r μ₀ h₀ lo I vs fp P St)(a:AOk r A)(x:Step W μ μ' h h')(f:Fp μ h I fp)(hw:¬W I){i:Nat}(q:St i h):St i h':=
  (J.walks A a).frame i h h' q fun b hb o e=>by
    by_cases hbI:b=I
    · subst hbI; exact x.keep _ _ f.notin hw e
    · obtain ⟨h1,o',h2,h3⟩:=f.others b hb hbI
      rw [e] at h2; cases h2
      exact x.imm _ _ h1 h3 e
noncomputable def ItGood(G:Gd)(r:Nat)(μ:List Addr)(s:Shared)(vs:List V)(σ':List AObj)(it:Value)(s₂:Shared):Prop:=
  ∃μ',Step W0 μ μ' s.heap s₂.heap∧Inv G μ' σ' s₂∧∃I fp P St,it = .ref I∧It G r μ' s₂.heap s.heap.objs.size I vs fp P St∧Fp μ' s₂.heap I fp∧St 0 s₂.heap
noncomputable def SI(G:Gd)(r:Nat)(cx:Cx)(e:Expr)(f:EsF):Prop:=
  (∀env x,foldedSetIterable e env x=pure x) ∧
  ∀(A:Around) (fm:Fm) (μ:List Addr) (ρ:List V) (σ:List AObj) (s:Shared) (vs:List V) (σ':List AObj),AOk r A→FmOk cx fm→Inv G μ σ s→FR G cx fm μ s.heap ρ→f ρ σ=some (vs,σ')→
    wpAny (model G.prog G.w) A (eval e fm.env) (fun x s₁=>wpAny (model G.prog G.w) A (pyIter x) (ItGood G r μ s vs σ') (fun _ _=>False) s₁) (fun _ _=>False) s
theorem it_kept{I:Addr}{fp:List Addr}{o:Obj}(Iv:Inv G μ σ s)(f:Fp μ s.heap I fp)(hn:G.h0.get? I=none)(ho:s.heap.get? I=some o)(hl:okLot o)(hk:∀b o,b∉ [I]→s.heap.get? b=some o→h'.get? b=some o)(hz:s.heap.objs.size≤h'.objs.size)(t:Nat) :
    Step (· = I) μ μ s.heap h'∧Inv G μ σ {s with heap:=h',toks:=t}:=by
  have hk':∀{b o},b≠I→s.heap.get? b=some o→h'.get? b=some o:=fun hb e=>hk _ _ (fun q=>hb (List.mem_singleton.mp q)) e
  have st:Step (· = I) μ μ s.heap h':=⟨⟨[],(List.append_nil _).symm,nofun⟩,hz,fun b o' _ hb e=>hk' hb e,fun b o' _ hI e=>hk' (fun hb=>hl.1 (Option.some.inj (e.symm.trans (hb▸ho))▸hI)) e⟩
  exact ⟨st,⟨fun b o' e=>hk' (fun q=>nomatch (q▸hn).symm.trans e) (Iv.base b o' e),fun b hb=>⟨(Iv.new b hb).1,Nat.lt_of_lt_of_le (Iv.new b hb).2 hz⟩,Iv.nodup,Iv.len,fun l b o' e1 e2=>(Iv.obj l b o' e1 e2).step st fun _ e=>hk' (fun q=>f.notin (q▸zG e1)) e,Iv.gens,Iv.os,Iv.fix⟩⟩
theorem it_next{I:Addr}{fp:List Addr}{vs:List V}{P:Nat→Value→Prop}{St:Nat→Heap→Prop}{lo:Nat}{μ₀:List Addr}{h₀:Heap}(J:It G r μ₀ h₀ lo I vs fp P St)(a:AOk r A)(Iv:Inv G μ σ s)(x:Step W μ₀ μ h₀ s.heap)(f:Fp μ s.heap I fp)
    (hn:G.h0.get? I=none) {i:Nat} (q:St i s.heap) (hi:i<vs.length) {Q:Option Value→Shared→Prop}
    (k:∀v y s',vs[i]?=some v→VR G μ s'.heap v y→Step (· = I) μ μ s.heap s'.heap→Inv G μ σ s'→Fp μ s'.heap I fp→St (i+1) s'.heap→Q (some y) s'):wpAny (model G.prog G.w) A (pyNext (.ref I)) Q E s:=
  xe12 (J.lot i _ q) fun _ ho hl=>yk ((J.walks A a).item i s _ _ hi q fun y _ tk hP hst hk hz=>xe12 (J.val i y hP) fun v e1 e2=>
    (it_kept Iv f hn ho hl hk hz tk).elim fun st I'=>k v y _ e1 ((e2.step x).step st) st I' (f.step st ho) hst)
theorem it_done{I:Addr}{fp:List Addr}{vs:List V}{P:Nat→Value→Prop}{St:Nat→Heap→Prop}{lo:Nat}{μ₀:List Addr}{h₀:Heap}(J:It G r μ₀ h₀ lo I vs fp P St)(a:AOk r A)(Iv:Inv G μ σ s)(f:Fp μ s.heap I fp)
    (hn:G.h0.get? I=none) (q:St vs.length s.heap) {Q:Option Value→Shared→Prop}
    (k:∀s',Step (· = I) μ μ s.heap s'.heap→Inv G μ σ s'→Q none s'):wpAny (model G.prog G.w) A (pyNext (.ref I)) Q E s:=
  xe12 (J.lot _ _ q) fun _ ho hl=>yk ((J.walks A a).done s _ _ q fun _ tk hk hz=>(it_kept Iv f hn ho hl hk hz tk).elim fun st I'=>k _ st I')
theorem Own.lt(F:FR G cx fm μ h ρ){a:Addr}(q:Own cx fm a):a<h.objs.size:=by
  refine xe11 F fun m F=>?_
  rcases q with rfl | ⟨i,x,e1,e2⟩
  · exact F.ns.lt
  · obtain ⟨_,_,o,q⟩:=F.cells i a e2
    exact q.lt
theorem Zp(F:FR G cx fm μ h ρ){i:Nat}{c:Addr}(e:fm.cs[i]?=some (some c)):c<h.objs.size:=by
  refine xe11 F fun m F=>?_
  obtain ⟨_,_,o,q⟩:=F.cells i c e
  exact q.lt
theorem Inv.fresh0(I:Inv G μ σ s){a:Addr}(h:s.heap.objs.size≤a):G.h0.get? a=none:=by
  cases hq:G.h0.get? a with
  | none=>rfl
  | some o=>exact absurd (Heap.lt_size (I.base _ _ hq)) (Nat.not_lt.mpr h)
noncomputable def forL(g:TF)(b:SF):List V→SF
  | [],ρ,σ=>some (.next,ρ,σ)
  | v::vs,ρ,σ=>match g v ρ with
    | some ρ=>match b ρ σ with
      | some (.next,ρ,σ)=>forL g b vs ρ σ
      | some (.cont,ρ,σ)=>forL g b vs ρ σ
      | some (.brk,ρ,σ)=>some (.next,ρ,σ)
      | some (.ret v,ρ,σ)=>some (.ret v,ρ,σ)
      | none=>none
    | none=>none
noncomputable def fFor(f:EsF)(g:TF)(b:SF):SF:=fun ρ σ=>match f ρ σ with
  | some (vs,σ)=>forL g b vs ρ σ
  | none=>none
theorem for_body{t:Expr}{body:List Stmt}{g:TF}{b rest:SF}{ρ₂:List V}{σ₂:List AObj}{fl₁:Fl}{y:Value}{μ₀:List Addr}{s₀:Shared}{P:Shared→Prop}(ht:ST G r cx t g)(hb:SSs G r cx body b)(a:AOk r A)(O:FmOk cx fm)(I:Inv G μ σ s)(F:FR G cx fm μ s.heap ρ)
    (q:VR G μ s.heap v y) (e4:g v ρ=some ρ₁) (e5:b ρ₁ σ=some (fl₁,ρ₂,σ₂)) (hx:Lx rest (fl,ρ',σ') fl₁ ρ₂ σ₂) (hs:∀{μ' h'},Step (Own cx fm) μ μ' s.heap h'→Step (Own cx fm) μ₀ μ' s₀.heap h')
    (nx:∀μ' s',Step (Own cx fm) μ μ' s.heap s'.heap→Inv G μ' σ₂ s'→FR G cx fm μ' s'.heap ρ₂→rest ρ₂ σ₂=some (fl,ρ',σ')→P s') :
    wpAny (model G.prog G.w) A (assign t fm.env y) (fun _ s₂=>wpAny (model G.prog G.w) A (execs body fm.env) (Tl (GoodS G cx fm μ₀ s₀ fl ρ' σ') P) (fun _ _=>False) s₂) (fun _ _=>False) s:=
  wpAny_mono (ht A fm μ ρ ρ₁ σ s v y a O I F q e4) (fun _ s₄ g₄=>wpAny_mono (hb A fm μ ρ₁ σ s₄ _ _ _ a O g₄.2.2 g₄.2.1 e5) (fun _ _ q=>tl_of q hx (fun st=>hs (g₄.1.trans st)) fun μ' st=>nx μ' _ (g₄.1.trans st)) fun _ _ x=>x.elim) fun _ _ x=>x
theorem forL_inv{g:TF}{b:SF}{vs:List V}{x:Fl × List V × List AObj}(h:forL g b (v::vs) ρ σ=some x):∃ρ₁ fl ρ₂ σ₂,g v ρ=some ρ₁∧b ρ₁ σ=some (fl,ρ₂,σ₂)∧Lx (forL g b vs) x fl ρ₂ σ₂:=by
  cases e:g v ρ with
  | none=>rw [forL,e] at h; contradiction
  | some ρ₁=>
    rw [forL,e] at h
    exact xe32 (lpx_of (y:=b ρ₁ σ) h) fun fl ρ₂ σ₂ e1 e2=>⟨ρ₁,fl,ρ₂,σ₂,rfl,e1,e2⟩
theorem forL_end{g:TF}{b:SF}{vs:List V}{x:Fl × List V × List AObj}(h:forL g b vs ρ σ=some x)(e:vs= []):x=(.next,ρ,σ):=by
  subst e; exact (Option.some.inj h).symm
theorem fFor_inv{f:EsF}{g:TF}{b:SF}{x:Fl × List V × List AObj}(h:fFor f g b ρ σ=some x):∃vs σ₀,f ρ σ=some (vs,σ₀)∧forL g b vs ρ σ₀=some x:=by
  unfold fFor at h
  split at h
  · rename_i vs σ₀ e; exact ⟨vs,σ₀,e,h⟩
  · contradiction
structure ForI(G:Gd)(cx:Cx)(fm:Fm)(μ₀:List Addr)(h₀:Heap)(it:Addr)(fp:List Addr)(St:Nat→Heap→Prop)(n:Nat)(R:Nat→List V→List AObj→Prop)(k:Nat)(s:Shared)(i:Nat)(μ₁:List Addr)(ρ₁:List V)(σ₁:List AObj):Prop where
  hk:k+i=n+1
  hi:i≤n
  st:Step (fun a=>Own cx fm a∨a=it) μ₀ μ₁ h₀ s.heap
  I:Inv G μ₁ σ₁ s
  F:FR G cx fm μ₁ s.heap ρ₁
  f:Fp μ₁ s.heap it fp
  q:St i s.heap
  h:R i ρ₁ σ₁
theorem ForI.mk'{μ₀:List Addr}{h₀:Heap}{it:Addr}{fp:List Addr}{St:Nat→Heap→Prop}{n k i:Nat}{R:Nat→List V→List AObj→Prop}{μ₁:List Addr}(hk:k+i=n+1)(hi:i<n)(st:Step (fun a=>Own cx fm a∨a=it) μ₀ μ₁ h₀ s.heap)(I:Inv G μ₁ σ₁ s)(F:FR G cx fm μ₁ s.heap ρ₁)(f:Fp μ₁ s.heap it fp)(q:St (i+1) s.heap)(h:R (i+1) ρ₁ σ₁) :
    Less (fun k s=> ∃i μ₁ ρ₁ σ₁,ForI G cx fm μ₀ h₀ it fp St n R k s i μ₁ ρ₁ σ₁) k s:=by
  cases k with
  | zero=>exact absurd (Nat.zero_add i▸hk) (Nat.ne_of_lt (Nat.lt_succ_of_lt hi))
  | succ k=>exact ⟨k,Nat.lt_succ_self k,i+1,μ₁,ρ₁,σ₁,(Nat.succ_add_eq_add_succ k i).symm.trans hk,hi,st,I,F,f,q,h⟩
theorem RS.to{A:Around}{env:Env}{M:Model}{Q:Flow→Shared→Prop}{c:Code}(h:codeAny M A c (RS Q) s):codeAny M A c (fun r s'=>match r with | .ok f=>Q f s' | .error e=>cameBackBy M A env (fun _ _=>False) e s') s:=
  codeAny_mono h fun r s' q=>by cases r with | ok f=>exact q | error e=>exact q.elim
theorem ss_for{t it:Expr}{body:List Stmt}{pos:Pos}{f:EsF}{g:TF}{b:SF}(hi:SI G r cx it f)(ht:ST G r cx t g)(hb:SSs G r cx body b):SS G r cx (.For t it body [] pos) (fFor f g b):=fun A fm μ ρ σ s fl ρ' σ' a O I F hf=>by
  refine xe22 (fFor_inv hf) fun vs σ₀ e1 hf=>wpAny_For (wpAny_mono (hi.2 A fm μ ρ σ s vs σ₀ a O I F e1) (fun x s₁ q=>wpAny_mono q (fun y s₂ q=>?_) fun _ _ x=>x.elim) fun _ _ x=>x) (hi.1 _)
  refine xe13 q fun μ₀ st₀ I₀ q=>xe44 q fun it fp P St e J f₀ q₀=>?_
  subst e
  have hlo:∀a,a<s.heap.objs.size→a≠it:=fun a q e=>absurd q (Nat.not_lt.mpr (e▸J.fresh))
  have hn:G.h0.get? it=none:=I.fresh0 J.fresh
  refine RS.to (forT (fun k s₁=> ∃i μ₁ ρ₁ σ₁,ForI G cx fm μ₀ s₂.heap it fp St vs.length (fun i ρ σ=>forL g b (vs.drop i) ρ σ=some (fl,ρ',σ')) k s₁ i μ₁ ρ₁ σ₁) ?_ (vs.length+1) ⟨0,μ₀,ρ,σ₀,rfl,Nat.zero_le _,Step.refl,I₀,F.step0 st₀,f₀,q₀,hf⟩)
  have fin:∀{μ₂:List Addr} {h₃:Heap},Step (fun a=>Own cx fm a∨a=it) μ₀ μ₂ s₂.heap h₃→Step (Own cx fm) μ μ₂ s.heap h₃:=fun x=>
    (st₀.of0.trans x).weaken fun a ha q=>q.elim id fun e=>absurd ha (Nat.not_lt.mpr (e▸J.fresh))
  intro k s₁ h
  refine xe41 h fun i μ₁ ρ₁ σ₁ H=>?_
  have hF:∀{μ' s'},Step (· = it) μ₁ μ' s₁.heap s'→FR G cx fm μ' s' ρ₁:=fun st=>H.F.step st (hlo _ (Own.lt F (.inl rfl))) fun j c e=>hlo _ (Zp F e)
  by_cases hi':i<vs.length
  · refine xe43 (forL_inv ((congrArg (fun l=>forL g b l ρ₁ σ₁) (List.drop_eq_getElem_cons hi')).symm.trans H.h)) fun ρ₄ fl₁ ρ₅ σ₅ e4 e5 hx=>it_next J a H.I H.st H.f hn H.q hi' fun v y s₃ ev qv st₃ I₃ f₃ q₃=>?_
    refine xe12 (J.lot _ _ q₃) fun o ho hl=>lot_goes ho hl (for_body (v:=v) ht hb a O I₃ (hF st₃) qv (Option.some.inj ((List.getElem?_eq_getElem hi').symm.trans ev)▸e4) e5 hx (fun st=>fin ((H.st.trans (st₃.weaken fun _ _ q=> .inr q)).trans (st.weaken fun _ _ q=> .inl q))) fun μ₅ s₅ st₅ I₅ F₅ hf=>ForI.mk' H.hk hi' ((H.st.trans (st₃.weaken fun _ _ q=> .inr q)).trans (st₅.weaken fun _ _ q=> .inl q)) I₅ F₅ (f₃.step st₅ ho) (f₃.st J a st₅ (fun q=>hlo _ (Own.lt F q) rfl) q₃) hf)
  · have hz:i=vs.length:=Nat.le_antisymm H.hi (Nat.not_lt.mp hi')
    exact it_done J a H.I H.f hn (hz▸H.q) fun s₃ st₃ I₃=>pr3 (forL_end H.h (List.drop_eq_nil_of_le (Nat.not_lt.mp hi'))) ⟨μ₁,fin (H.st.trans (st₃.weaken fun _ _ q=> .inr q)),I₃,hF st₃,rfl⟩
end
end Mi
namespace Mi
section
variable {M:Model}{A:Around}{E:Value→Shared→Prop}{s:Shared}
theorem zT{pos:Pos}{f:Value}{first:List Value}{args:List (Bool × Sem Value)}{Q:Value→Shared→Prop}(hf:keeperOf f=pure .machine)(hplain:args.any (·.1)=false)
    (h:wpAny M A (evalArgs f true args []) (fun a s₁=>wpAny M A (call f (first++a.pos) a.kw) Q E s₁) E s):wpAny M A (callWith pos f first args []) Q E s:=by
  skip
  refine wpAny_bind (wpAny_holding (wpAny_mono h (fun a s₁ h₁=>wpAny_bind (wpAny_standAt ?_)) fun _ _ x=>x))
  simp only [hplain,List.any_nil,Bool.or_false]
  refine wpAny_bind (wpAny_of_eq hf ?_)
  exact wpAny_bind (wpAny_mono h₁ (fun r s₂ hr=>wpAny_bind (wpAny_holding (wpAny_point (wpAny_pure hr)))) fun _ _ x=>x)
theorem z6{f:Value}{args:List (Bool × Sem Value)}{Q:Args→Shared→Prop}(h0:args.any (·.1)=false)(h:wpAny M A (spliced args) (fun vs s'=>Q ⟨vs, []⟩ s') E s):wpAny M A (evalArgs f true args []) Q E s:=by
  cases args with
  | nil=>
    skip
    show wpAny M A (spliced [] >>= _) Q E s
    refine wpAny_bind (wpAny_mono h (fun vs s' h'=>?_) fun _ _ x=>x)
    refine wpAny_holding ?_
    exact wpAny_bind (wpAny_pure (wpAny_bind (wpAny_pure (wpAny_pure h'))))
  | cons x rest=>
    obtain ⟨b,x⟩:=x
    have:b=false:=by simp at h0; exact h0.1
    subst this
    exact Calls.evalArgs_plain h
end
structure BI(G:Gd)(x:Str)(v:Value):Prop where
  miss:G.mg x=none
  val:G.mb x=some v
  nodebug:(x==("__debug__":Str))=false
theorem GOk.bi{G:Gd}(K:GOk G){x:Str}{v:Value}(hm:G.mg x=none)(hb:bootBuiltins x=some v)(hn:x≠"__name__") (hd:(x==("__debug__":Str))=false):BI G x v:=⟨hm,(K.builtins x hn).trans hb,hd⟩
section
variable {G:Gd}{r:Nat}{cx:Cx}{fm:Fm}{W W':Addr→Prop}{μ μ' μ₁:List Addr}{h h':Heap}{ρ ρ' ρ₁:List V}{σ σ' σ₁:List AObj}{A:Around}{E:Value→Shared→Prop}{s s' s₁:Shared}{v:V}{b:Bool}{e:Expr}{fl:Fl}
theorem Inv.ns(I:Inv G μ σ s){a:Addr}{m:Str→Option Value}(h:G.h0.Ns a m):s.heap.Ns a m:=h.keeps I.base
theorem Inv.nolimit(K:GOk G)(I:Inv G μ σ s):s.heap.NoLimit:=K.nolimit.keeps I.base
theorem yY(K:GOk G)(O:FmOk cx fm)(I:Inv G μ σ s){x:Str}{pos:Pos}{f:Value}(hx:cx.names.lookup x=some .globalImplicit)(hb:BI G x f){Q:Value→Shared→Prop}(h:Q f s) :
    wpAny M A (eval (.Name x pos) fm.env) Q E s:=
  Calls.Name_function_global O.kind ((O.kindOf x).trans hx) (Calls.loadGlobal_builtin (mg:=G.mg) (mb:=G.mb) (by refine rg O.glob ?_; exact I.ns K.g) hb.miss (by refine rg O.blt ?_; exact I.ns K.b) hb.val h) hb.nodebug
theorem load_global(K:GOk G)(O:FmOk cx fm)(I:Inv G μ σ s){x:Str}{pos:Pos}{f:Value}(hx:cx.names.lookup x=some .globalImplicit)(hg:G.mg x=some f)(hd:(x==("__debug__":Str))=false) {Q:Value→Shared→Prop} (h:Q f s) :
    wpAny M A (eval (.Name x pos) fm.env) Q E s:=
  Calls.Name_function_global O.kind ((O.kindOf x).trans hx) (Calls.loadGlobal_global (mg:=G.mg) (by refine rg O.glob ?_; exact I.ns K.g) hg h) hd
theorem yc(x:Str)(p pos:Pos)(es:List Expr)(env:Env):eval (.Call (.Name x p) es [] pos) env=(do callWith pos (←eval (.Name x p) env) [] (backTo pos (starEach es env)) []):=rfl
noncomputable def zj(g:EsF)(F:List AObj→List V→Option V):EF:=fun ρ σ=>match g ρ σ with
  | some (vs,σ)=>(F σ vs).map (·,σ)
  | none=>none
noncomputable def PrimOk(G:Gd)(r:Nat)(f:Value)(F:List AObj→List V→Option V):Prop:=
  ∀(A:Around) (μ:List Addr) (σ:List AObj) (s:Shared) (vs:List V) (ys:List Value) (v:V),AOk r A→Inv G μ σ s→VRs G μ s.heap vs ys→F σ vs=some v→wpAny (model G.prog G.w) A (call f ys []) (Good G μ s v σ) (fun _ _=>False) s
theorem zr(K:GOk G){x:Str}{p pos:Pos}{es:List Expr}{f:Value}{g:EsF}{F:List AObj→List V→Option V}(hx:cx.names.lookup x=some .globalImplicit)(hb:BI G x f)(hp:PrimOk G r f F)(hs:SEs G r cx es g)
    (hf:keeperOf f=pure .machine:=by rfl) (hplain:∀env pos,(backTo pos (starEach es env)).any (·.1)=false:=by exact fun _ _=>rfl):SE G r cx (.Call (.Name x p) es [] pos) (zj g F):=fun A fm μ ρ σ s v σ' a O I Fr hf'=>by
  refine oS hf' fun vs σ₁ e1 hf'=>oM hf' fun e2 e=>e▸?_
  simp only [yc]
  refine wpAny_bind (yY K O I hx hb (zT hf (hplain _ _) (z6 (hplain _ _) (hs.use a O I Fr e1 fun ys s₁ μ₁ st₁ I₁ F₁ q₁=>?_))))
  exact wpAny_mono (hp A μ₁ _ s₁ vs ys _ a I₁ q₁ e2) (fun _ _ g=>g.after st₁) fun _ _ x=>x.elim
theorem VRs.one_inv{v:V}{ys:List Value}(q:VRs G μ h [v] ys):∃y,ys= [y]∧VR G μ h v y:=xe23 q fun y ys' e1 e2 e3=>⟨y,e1.trans (congrArg (y:: ·) e3),e2⟩
theorem VRs.two_inv{v w:V}{ys:List Value}(q:VRs G μ h [v,w] ys):∃y z,ys= [y,z]∧VR G μ h v y∧VR G μ h w z:=xe23 q fun y ys' e1 e2 e3=>xe12 (VRs.one_inv e3) fun z e e4=>⟨y,z,e1.trans (congrArg (y:: ·) e),e2,e4⟩
noncomputable def pLen(σ:List AObj):List V→Option V
  | [.str x]=>some (.int x.length)
  | [v]=>(yM σ v).map fun vs=> .int vs.length
  | _=>none
theorem zK:PrimOk G r (.builtin "len") pLen:=fun A μ σ s vs ys v a I q hf=>by
  unfold pLen at hf
  split at hf
  · cases hf
    obtain ⟨y,rfl,hx,t,rfl⟩:=VRs.one_inv q
    have:=zv
    refine PyProof.Rows.len_str ?_ ?_
    · have:=hx.1; simp only [Str.length,List.size_toArray]; lia
    · exact Good.same I _ ⟨s.toks+1,by simp [Str.length]⟩
  · rename_i w _
    rw [Option.map_eq_some_iff] at hf
    obtain ⟨ws,e1,rfl⟩:=hf
    obtain ⟨y,rfl,q'⟩:=VRs.one_inv q
    obtain ⟨ad,items,n,rfl,ho,hl,hr⟩:=vitems_obj I q' e1
    have hlen:=hr.length
    have:=zv
    rcases ho with ho | ho
    · refine Calls.call_len_list (items:=items.toArray) ⟨_,ho,rfl,n,rfl⟩ (by refine rg List.size_toArray ?_; lia) ?_
      exact Good.same I _ ⟨s.toks+1,by simp [hlen]⟩
    · refine PyProof.Rows.len_tuple (items:=items.toArray) ⟨_,ho,rfl,n,rfl⟩ (by refine rg List.size_toArray ?_; lia) ?_
      exact Good.same I _ ⟨s.toks+1,by simp [hlen]⟩
  · contradiction
theorem Good.keep(I:Inv G μ σ s){y:Value}{h':Heap}{tk:Nat}(hk:∀b o,s.heap.get? b=some o→h'.get? b=some o)(hz:s.heap.objs.size≤h'.objs.size)(q:VR G μ h' v y):Good G μ s v σ y {s with heap:=h',toks:=tk}:=by
  obtain ⟨I',st⟩:=I.kept hk hz tk
  exact ⟨μ,st,I',q⟩
noncomputable def pMin2(_:List AObj)(vs:List V):Option V:=match zM vs with
  | some [a,b]=>some (.int (if b<a then b else a))
  | _=>none
noncomputable def pMax2(_:List AObj)(vs:List V):Option V:=match zM vs with
  | some [a,b]=>some (.int (if b>a then b else a))
  | _=>none
theorem two_ints{vs:List V}{ys:List Value}{F:Int→Int→Option V}(q:VRs G μ h vs ys)(hf:(match zM vs with | some [a,b]=>F a b | _=>none)=some v){P:List Value→Prop}(k:∀a b t u,F a b=some v→P [.int a t, .int b u]):P ys:=by
  cases e:zM vs with
  | none=>rw [e] at hf; cases hf
  | some l=>
    rw [e] at hf
    have q':=yG e q
    clear q e
    cases q' with
    | nil=>cases hf
    | cons a t q=>cases q with
      | nil=>cases hf
      | cons b u q=>cases q with
        | nil=>exact k a b t u hf
        | cons=>cases hf
theorem prim_min2:PrimOk G r (.builtin "min") pMin2:=fun A μ σ s vs ys v a I q hf=>
  two_ints (P:=fun ys=>wpAny (model G.prog G.w) A (call (.builtin "min") ys []) (Good G μ s v σ) (fun _ _=>False) s) q hf fun x y t u e=>yk (min_two_ints a.handled fun h' tk hk hz=>Good.keep I hk hz (se1 e (by split <;> exact ⟨_,rfl⟩)))
theorem prim_max2:PrimOk G r (.builtin "max") pMax2:=fun A μ σ s vs ys v a I q hf=>
  two_ints (P:=fun ys=>wpAny (model G.prog G.w) A (call (.builtin "max") ys []) (Good G μ s v σ) (fun _ _=>False) s) q hf fun x y t u e=>yk (max_two_ints a.handled fun h' tk hk hz=>Good.keep I hk hz (se1 e (by split <;> exact ⟨_,rfl⟩)))
noncomputable def rngN(a b c:Int):Nat:=(Builtin.Range.rangeSize a b c).toNat
noncomputable def rngL(a b c:Int):List V:=(List.range (rngN a b c)).map fun (i:Nat)=>V.int (a+i*c)
noncomputable abbrev rngOk(a b c:Int):Prop:= -1000000<a∧a<1000000∧ -1000000<b∧b<1000000∧0<c∧c<1000000
noncomputable def yW(vs:List V):Option (Int × Int × Int):=match zM vs with
  | some [b]=>if rngOk 0 b 1 then some (0,b,1) else none
  | some [a,b]=>if rngOk a b 1 then some (a,b,1) else none
  | some [a,b,c]=>if rngOk a b c then some (a,b,c) else none
  | _=>none
theorem rng_size{a b c:Int}(h:rngOk a b c):0≤Builtin.Range.rangeSize a b c∧Builtin.Range.rangeSize a b c≤3000000:=by
  unfold rngOk at h
  unfold Builtin.Range.rangeSize
  refine rg (if_pos h.2.2.2.2.1) ?_
  split
  · have h1:0≤(b-a-1)/c:=Int.ediv_nonneg (by omega) (by omega)
    have h2:(b-a-1)/c≤b-a-1:=Int.ediv_le_self _ (by omega)
    omega
  · solve_by_elim [Nat.le_of_lt,Nat.lt_of_lt_of_le,Nat.lt_of_le_of_lt]
theorem rng_small{a b c:Int}(h:rngOk a b c):Builtin.Range.small a b c=true:=by
  have h1:=rng_size h
  unfold rngOk at h
  unfold Builtin.Range.small
  simp only [Builtin.Range.rangeFitsLong,Bool.and_eq_true,Bool.or_eq_true,decide_eq_true_eq,beq_iff_eq]
  refine ⟨⟨⟨⟨by omega,by omega⟩,by omega⟩,by omega⟩, .inr ?_⟩
  refine rg (if_pos h.2.2.2.2.1) ?_
  simp only [Bool.and_eq_true,decide_eq_true_eq]
  omega
theorem rng_step{a b c:Int}(hr:rngOk a b c):c.natAbs<1073741824:=by unfold rngOk at hr; omega
theorem rng_made{vs:List V}{ys:List Value}{a b c:Int}(K:GOk G)(hh:yW vs=some (a,b,c))(I:Inv G μ σ s)(q:VRs G μ s.heap vs ys){Q:Value→Shared→Prop}
    (k:rngOk a b c→∀tk t u v,Q (.ref s.heap.objs.size) {s with heap:=s.heap.push {cls:= .type "range",data:= .fields #[.int a t, .int b u, .int c v]},toks:=tk}):wpAny (model G.prog G.w) A (call (.type "range") ys []) Q E s:=by
  unfold yW at hh
  cases e:zM vs with
  | none=>rw [e] at hh; cases hh
  | some l=>
    rw [e] at hh
    have q':=yG e q
    clear q e
    cases q' with
    | nil=>cases hh
    | cons x t q=>cases q with
      | nil=>exact oIf hh fun hr e=>by cases e; exact call_range_1 (k hr _ _ _ _)
      | cons y u q=>cases q with
        | nil=>exact oIf hh fun hr e=>by cases e; exact call_range_2 (k hr _ _ _ _)
        | cons z w q=>cases q with
          | nil=>exact oIf hh fun hr e=>by cases e; exact call_range_3 (Int.ne_of_gt hr.2.2.2.2.1) (k hr _ _ _ _) (hp:= .inl (PyProof.noPylong_small (rng_step hr)))
          | cons=>cases hh
theorem VRs.get':∀{vs:List V} {ys:List Value},VRs G μ h vs ys→∀{i:Nat} {y:Value},ys[i]?=some y→∃v,vs[i]?=some v∧VR G μ h v y
  | []=>fun q i y e=>by rw [show _= [] from q] at e; contradiction
  | v::vs=>fun q i w e=>xe23 q fun y ys e1 e2 e3=>by
    subst e1
    cases i with
    | zero=>exact se1 e ⟨v,rfl,e2⟩
    | succ i=>exact VRs.get' e3 e
noncomputable def zI(f:EF):EsF:=fun ρ σ=>match f ρ σ with
  | some (.lst vs,σ)=>some (vs,σ)
  | some (.tup vs,σ)=>some (vs,σ)
  | some (.str x,σ)=>some (x.map fun c=> .str [c],σ)
  | _=>none
theorem it_new{vs:List V}{fp:List Addr}{P:Nat→Value→Prop}{St:Nat→Heap→Prop}(I:Inv G μ σ s)(o:Obj)(tk:Nat)(hw:∀A,AOk r A→Walks G.prog G.w A s.heap.objs.size fp [s.heap.objs.size] vs.length P St)(lot:∀i h,St i h→∃o,h.get? s.heap.objs.size=some o∧okLot o)
    (val:∀i x,P i x→∃v,vs[i]?=some v∧VR G μ (s.heap.push o) v x) (hfp:∀b∈fp,b≠s.heap.objs.size→b∉μ∧∃ob,s.heap.get? b=some ob∧Imm ob) (q:St 0 (s.heap.push o)):ItGood G r μ s vs σ (.ref s.heap.objs.size) {s with heap:=s.heap.push o,toks:=tk}:=by
  refine ⟨μ,Step.push _,I.push _ tk,s.heap.objs.size,fp,P,St,rfl,⟨hw,Nat.le_refl _,lot,val⟩,⟨I.fresh,fun b hb hn=>(hfp b hb hn).elim fun h1 h=>xe12 h fun ob h2 h3=>⟨h1,ob,Heap.get?_push_of_some _ h2,h3⟩,fun b hb=>?_⟩,q⟩
  have hz:(s.heap.push o).objs.size=s.heap.objs.size+1:=Heap.size_push ..
  show b<(s.heap.push o).objs.size
  refine rg hz ?_
  by_cases hn:b=s.heap.objs.size
  · exact hn▸Nat.lt_succ_self _
  · exact xe12 (hfp b hb hn).2 fun ob h2 _=>Nat.lt_succ_of_lt (Heap.lt_size h2)
theorem fp_two{a b:Addr}{P:Addr→Prop}(h:P b):∀c∈ [a,b],c≠a→P c:=fun c hc hn=>(List.mem_cons.mp hc).elim (fun q=>absurd q hn) fun q=>List.mem_singleton.mp q▸h
theorem fp_one{a:Addr}{P:Addr→Prop}:∀c∈ [a],c≠a→P c:=fun c hc hn=>absurd (List.mem_singleton.mp hc) hn
theorem not_imm{o:Obj}{vs:Array Value}(h:o.data = .fields vs):¬Imm o:=by unfold Imm; refine rg h ?_; exact id
theorem it_list(I:Inv G μ σ s){a:Addr}{items:List Value}{n:Nat}{vs:List V}(ha:a∉μ)(ho:s.heap.get? a=some (zN items n))(q:VRs G μ s.heap vs items) :
    wpAny (model G.prog G.w) A (pyIter (.ref a)) (ItGood G r μ s vs σ) E s:=by
  have hL:s.heap.IsList a items.toArray:=⟨_,ho,rfl,n,rfl⟩
  have hlen:items.toArray.size=vs.length:=q.length
  refine wpAny_pyIter_list hL (it_new I _ s.toks (fun A a'=>hlen▸Walks.list a'.handled _ a (Nat.ne_of_lt (Heap.lt_size ho)) _) (fun i h q=>xe13 q.1 fun o h1 h2 h3=>⟨o,h1,not_imm h3, .inl h2⟩) (fun i x hx=>(q.step (Step.push _)).get' (List.getElem?_toArray.symm.trans hx)) (fp_two ⟨ha,_,ho,trivial⟩) ⟨⟨_,Heap.get?_push_size _ rfl,rfl,rfl⟩,hL.push _⟩)
theorem it_tup(I:Inv G μ σ s){a:Addr}{items:List Value}{n:Nat}{vs:List V}(ha:a∉μ)(ho:s.heap.get? a=some (tupObj items n))(q:VRs G μ s.heap vs items) :
    wpAny (model G.prog G.w) A (pyIter (.ref a)) (ItGood G r μ s vs σ) E s:=by
  have hT:s.heap.IsTuple a items.toArray:=⟨_,ho,rfl,n,rfl⟩
  have hlen:items.toArray.size=vs.length:=q.length
  refine wpAny_pyIter_tuple hT (it_new I _ s.toks (fun A a'=>hlen▸Walks.tuple a'.handled _ a (Nat.ne_of_lt (Heap.lt_size ho)) _) (fun i h q=>xe13 q.1 fun o h1 h2 h3=>⟨o,h1,not_imm h3, .inr (.inl h2)⟩) (fun i x hx=>(q.step (Step.push _)).get' (List.getElem?_toArray.symm.trans hx)) (fp_two ⟨ha,_,ho,trivial⟩) ⟨⟨_,Heap.get?_push_size _ rfl,rfl,rfl⟩,hT.push _⟩)
theorem it_str(I:Inv G μ σ s){x:List Nat}{t:Tok}(hx:okS x):wpAny (model G.prog G.w) A (pyIter (.str ⟨x.toArray⟩ t)) (ItGood G r μ s (x.map fun c=> .str [c]) σ) E s:=by
  have val:∀(h:Heap) (i:Nat) (v:Value),SignAt ⟨x.toArray⟩ i v→∃w,(x.map fun c=>V.str [c])[i]?=some w∧VR G μ h w v:=fun h i v q=>xe22 q fun c u e ev=>by
    have e':x[i]?=some c:=by simpa using e
    exact ⟨.str [c],by simp [e'],⟨(by decide:1≤LIM),fun d hd=>List.mem_singleton.mp hd▸hx.2 c (List.mem_of_getElem? e')⟩,u,ev⟩
  have szs:(⟨x.toArray⟩:Str).cps.size=(x.map fun c=>V.str [c]).length:=(List.length_map _).symm
  cases ha:(⟨x.toArray⟩:Str).cps.all (· < 128) with
  | false=>exact wpAny_pyIter_wide ha (it_new I _ s.toks (St:=fun i h=>h.IsStrIter s.heap.objs.size "str_iterator" ⟨x.toArray⟩ t i) (fun A a'=>szs▸Walks.strWide a'.handled _ _ _) (fun i h q=>xe13 q fun o h1 h2 h3=>⟨o,h1,not_imm h3, .inr (.inr (.inr (.inr (.inr h2))))⟩) (val _) fp_one ⟨_,Heap.get?_push_size _ rfl,rfl,rfl⟩)
  | true=>exact wpAny_pyIter_ascii ha (it_new I _ s.toks (St:=fun i h=>h.IsStrIter s.heap.objs.size "str_ascii_iterator" ⟨x.toArray⟩ t i) (fun A a'=>szs▸Walks.strAscii a'.handled _ _ _) (fun i h q=>xe13 q fun o h1 h2 h3=>⟨o,h1,not_imm h3, .inr (.inr (.inr (.inr (.inl h2))))⟩) (val _) fp_one ⟨_,Heap.get?_push_size _ rfl,rfl,rfl⟩)
theorem ItGood.after{vs:List V}{it:Value}(st:Step W0 μ μ₁ s.heap s₁.heap)(g:ItGood G r μ₁ s₁ vs σ' it s'):ItGood G r μ s vs σ' it s':=
  xe13 g fun μ' st' I h=>xe44 h fun it fp P St e J f q=>⟨μ',st.trans st',I,it,fp,P,St,e,⟨J.walks,Nat.le_trans st.sz J.fresh,J.lot,J.val⟩,f,q⟩
inductive Iters:V→List V→Prop
  | lst {vs:List V}:Iters (.lst vs) vs
  | tup {vs:List V}:Iters (.tup vs) vs
  | str {x:List Nat}:Iters (.str x) (x.map fun c=> .str [c])
theorem fIter_inv{f:EF}{vs:List V}(h:zI f ρ σ=some (vs,σ')):∃v,f ρ σ=some (v,σ')∧Iters v vs:=by
  unfold zI at h
  cases e:f ρ σ with
  | none=>rw [e] at h; contradiction
  | some p=>
    rw [e] at h
    cases p with | mk v σ₁=>cases v with
    | lst _=>exact se2 h ⟨_,rfl, .lst⟩
    | tup _=>exact se2 h ⟨_,rfl, .tup⟩
    | str _=>exact se2 h ⟨_,rfl, .str⟩
    | _=>contradiction
theorem Ze{f:EF}(hv:SE G r cx e f)(hs:∀env x,foldedSetIterable e env x=pure x:=by exact fun _ _=>rfl):SI G r cx e (zI f):=⟨hs,fun A fm μ ρ σ s vs σ' a O I F hf=>by
  refine xe12 (fIter_inv hf) fun v e1 hI=>hv.use a O I F e1 fun y s₁ μ₁ st₁ I₁ F₁ q₁=>?_
  clear e1 hf
  cases hI with
  | lst=>exact xe33 q₁ fun ad items n e h1 h=>e▸wpAny_mono (it_list I₁ h1 h.1 h.2.2) (fun _ _ g=>g.after st₁) fun _ _ x=>x
  | tup=>exact xe33 q₁ fun ad items n e h1 h=>e▸wpAny_mono (it_tup I₁ h1 h.1 h.2.2) (fun _ _ g=>g.after st₁) fun _ _ x=>x
  | str=>exact Exists.elim (And.right q₁) fun t e=>e▸wpAny_mono (it_str I₁ (And.left q₁)) (fun _ _ g=>g.after st₁) fun _ _ x=>x⟩
noncomputable def yI(g:EsF):EsF:=fun ρ σ=>match g ρ σ with
  | some (vs,σ)=>(yW vs).map fun p=>(rngL p.1 p.2.1 p.2.2,σ)
  | none=>none
theorem rngL_length(a b c:Int):(rngL a b c).length=rngN a b c:=by simp [rngL]
theorem rng_it(I:Inv G μ σ s){a b c:Int}(hr:rngOk a b c):ItGood G r μ s (rngL a b c) σ (.ref s.heap.objs.size) {s with heap:=s.heap.push {cls:= .type "range_iterator",data:= .fields #[rawInt a,rawInt (Builtin.Range.rangeSize a b c),rawInt c]}}:=by
  have hn:(rngN a b c:Int)=Builtin.Range.rangeSize a b c:=Int.toNat_of_nonneg (rng_size hr).1
  refine it_new I _ s.toks (fp:= [s.heap.objs.size]) (P:=fun i v=> ∃t,v = .int (a+i*c) t∧i<rngN a b c) (St:=fun i h=>IsRangeIter h s.heap.objs.size (a+(i:Nat)*c) ((rngN a b c:Int)-(i:Nat)) c) (fun A a'=>?_) (fun i h q=>⟨_,q,not_imm rfl, .inr (.inr (.inl rfl))⟩) (fun i x q=>xe12 q fun t e hi=>⟨.int (a+i*c),?_,t,e⟩) fp_one ?_
  · have W:=Walks.range (prog:=G.prog) (w:=G.w) a'.handled s.heap.objs.size a c (rngN a b c)
    rw [rngL_length]
    exact ⟨W.sub,W.frame,fun i s Q E hi st hQ=>W.item i s Q E hi st fun v h' tk hP=>hQ v h' tk (hP.elim fun t e=>⟨t,e,hi⟩),W.done,W.self⟩
  · skip
    refine rg List.getElem?_map ?_; refine rg (List.getElem?_range hi) ?_
    rfl
  · refine (Heap.get?_push_size _ rfl).trans (congrArg some ?_)
    refine rl hn ?_
    simp
theorem it_range(I:Inv G μ σ s){a b c:Int}{t u v:Tok}(hr:rngOk a b c)(tk:Nat) :
    wpAny (model G.prog G.w) A (pyIter (.ref s.heap.objs.size)) (ItGood G r μ s (rngL a b c) σ) E {s with heap:=s.heap.push {cls:= .type "range",data:= .fields #[.int a t, .int b u, .int c v]},toks:=tk}:=by
  have st0:Step W0 μ μ s.heap (s.heap.push {cls:= .type "range",data:= .fields #[.int a t, .int b u, .int c v]}):=Step.push _
  refine wpAny_pyIter_range (IsRange.new s.heap a b c t u v) (rng_small hr) (ItGood.after (s₁:={s with heap:=s.heap.push {cls:= .type "range",data:= .fields #[.int a t, .int b u, .int c v]},toks:=tk}) st0 (rng_it (I.push _ tk) hr))
theorem si_range(K:GOk G){p pos:Pos}{es:List Expr}{g:EsF}(hx:cx.names.lookup ("range":Str)=some .globalImplicit) (hb:BI G "range" (.type "range")) (hs:SEs G r cx es g)
    (hplain:∀env pos,(backTo pos (starEach es env)).any (·.1)=false:=by exact fun _ _=>rfl):SI G r cx (.Call (.Name "range" p) es [] pos) (yI g):=⟨fun _ _=>rfl,fun A fm μ ρ σ s vs σ' a O I Fr hf=>by
  refine oS hf fun ws σ₁ e1 hf=>?_
  cases e2:yW ws with
  | none=>rw [e2] at hf; contradiction
  | some p=>
    rw [e2] at hf
    refine se2 hf ?_
    simp only [yc]
    refine wpAny_bind (yY K O I hx hb (zT rfl (hplain _ _) (z6 (hplain _ _) (hs.use a O I Fr e1 fun ys s₁ μ₁ st₁ I₁ F₁ q₁=>?_))))
    exact rng_made K e2 I₁ q₁ fun hr tk t u v=>wpAny_mono (it_range I₁ hr tk) (fun _ _ g=>g.after st₁) fun _ _ x=>x⟩
end
end Mi
namespace Mi
open MeetsSeq MeetsSeq2 MeetsSeq3 SeqRoads2 SeqAt
section
variable {G:Gd}{r:Nat}{cx:Cx}{fm:Fm}{W W':Addr→Prop}{μ μ' μ₁:List Addr}{h h':Heap}{ρ ρ' ρ₁:List V}{σ σ' σ₁:List AObj}{A:Around}{E:Value→Shared→Prop}{s s' s₁:Shared}{v:V}{b:Bool}{e:Expr}{fl:Fl}
noncomputable abbrev PF:=List AObj→V→List V→Option (V × List AObj)
noncomputable def MPrim(G:Gd)(r:Nat)(id:String)(F:PF):Prop:=
  ∀(A:Around) (μ:List Addr) (σ σ':List AObj) (s:Shared) (v v':V) (y:Value) (vs:List V) (ys:List Value),AOk r A→Inv G μ σ s→VR G μ s.heap v y→VRs G μ s.heap vs ys→F σ v vs=some (v',σ')→
    wpAny (model G.prog G.w) A (call (.builtin id) (y::ys) []) (Good G μ s v' σ') (fun _ _=>False) s
noncomputable def zF(f:EF)(g:EsF)(F:PF):EF:=fun ρ σ=>match f ρ σ with
  | some (v,σ)=>match yx σ v with
    | some (.lst _)=>match g ρ σ with
      | some (vs,σ)=>F σ v vs
      | none=>none
    | _=>none
  | none=>none
noncomputable def fSMeth(f:EF)(g:EsF)(F:PF):EF:=fun ρ σ=>match f ρ σ with
  | some (.str x,σ)=>match g ρ σ with
    | some (vs,σ)=>F σ (.str x) vs
    | none=>none
  | _=>none
noncomputable def MethArm(o:Expr)(name:Str)(apos pos:Pos)(es:List Expr):Prop:= ∀env,∃pl,eval (.Call (.Attribute o name apos) es [] pos) env=(do
      let ov ←eval o env
      standAt apos.atName
      let (f,first)←holding [ov] (getMethod ov name pl)
      callWith pos f first (backTo pos (starEach es env)) [])
theorem yF{o:Expr}{name:Str}{id:String}{apos pos:Pos}{es:List Expr}{f:EF}{g:EsF}{F:PF}(slot:Slot "list" name id) (hty:typeOf (.builtin id)=pure (.type "method_descriptor")) (hp:MPrim G r id F)
    (ho:SE G r cx o f) (hs:SEs G r cx es g)
    (he:MethArm o name apos pos es:=by exact fun _=>⟨_,rfl⟩) (hplain:∀env pos,(backTo pos (starEach es env)).any (·.1)=false:=by exact fun _ _=>rfl) :
    SE G r cx (.Call (.Attribute o name apos) es [] pos) (zF f g F):=fun A fm μ ρ σ s v σ' a O I Fr hf=>by
  unfold zF at hf
  split at hf
  · rename_i v₁ σ₁ e1
    split at hf
    · rename_i ws e2
      split at hf
      · rename_i vs σ₂ e3
        obtain ⟨pl,he⟩:=he fm.env
        refine PyProof.Rows.MethodCall_ (ho.use a O I Fr e1 fun y s₁ μ₁ st₁ I₁ F₁ q₁=>?_) he
        obtain ⟨ad,items,n,rfl,h1,h2,h3⟩:=q₁.islist I₁ e2
        refine PyProof.Rows.getMethod_list_of slot hty (items:=items.toArray) ⟨_,h1,rfl,n,rfl⟩ ⟨_,h1,rfl⟩ ?_
        refine zT rfl (hplain _ _) (z6 (hplain _ _) (hs.use a O I₁ F₁ e3 fun ys s₂ μ₂ st₂ I₂ F₂ q₂=>?_))
        exact wpAny_mono (hp A μ₂ σ₂ σ' s₂ v₁ v _ vs ys a I₂ (q₁.step st₂) q₂ hf) (fun _ _ g=>g.after (st₁.trans st₂)) fun _ _ x=>x.elim
      · contradiction
    · contradiction
  · contradiction
theorem se_smeth{o:Expr}{name:Str}{id:String}{apos pos:Pos}{es:List Expr}{f:EF}{g:EsF}{F:PF}(slot:Slot "str" name id) (hty:typeOf (.builtin id)=pure (.type "method_descriptor")) (hp:MPrim G r id F)
    (ho:SE G r cx o f) (hs:SEs G r cx es g)
    (he:MethArm o name apos pos es:=by exact fun _=>⟨_,rfl⟩) (hplain:∀env pos,(backTo pos (starEach es env)).any (·.1)=false:=by exact fun _ _=>rfl) :
    SE G r cx (.Call (.Attribute o name apos) es [] pos) (fSMeth f g F):=fun A fm μ ρ σ s v σ' a O I Fr hf=>by
  unfold fSMeth at hf
  split at hf
  · rename_i x σ₁ e1
    split at hf
    · rename_i vs σ₂ e3
      obtain ⟨pl,he⟩:=he fm.env
      refine PyProof.Rows.MethodCall_ (ho.use a O I Fr e1 fun y s₁ μ₁ st₁ I₁ F₁ q₁=>?_) he
      have q₁':=q₁
      obtain ⟨hx,t,rfl⟩:=q₁'
      refine getMethod_builtin (typeIs_str _ _ _) PySem.F.plainAttrs_str slot hty (fun a e=>by contradiction) ?_
      refine zT rfl (hplain _ _) (z6 (hplain _ _) (hs.use a O I₁ F₁ e3 fun ys s₂ μ₂ st₂ I₂ F₂ q₂=>?_))
      exact wpAny_mono (hp A μ₂ σ₂ σ' s₂ _ v _ vs ys a I₂ (q₁.step st₂) q₂ hf) (fun _ _ g=>g.after (st₁.trans st₂)) fun _ _ x=>x.elim
    · contradiction
  · contradiction
theorem loc_at(I:Inv G μ σ s){l:Nat}{y:Value}{vs:List V}(q:VR G μ s.heap (.loc l) y)(e:σ[l]?=some (.list vs)) :
    ∃a items n,y = .ref a∧μ[l]?=some a∧s.heap.get? a=some (zN items n)∧vs.length≤LIM∧VRs G μ s.heap vs items:=by
  refine xe12 q fun a e1 e2=>?_
  refine xe23 (I.obj l a _ e1 e) fun items n e3 e4 e5=>?_
  exact ⟨a,items,n,e2,e1,e3,e4,e5⟩
theorem listObj_upd{a:Addr}{items items':List Value}{n:Nat}(ho:s.heap.get? a=some (zN items n))(f:Array Value→Array Value)(hf:f items.toArray=items'.toArray) :
    ∃n',(s.heap.update a (Obj.mapSeq f)).get? a=some (zN items' n'):=by
  have:=IsL.update (items:=items.toArray) ho f
  rw [hf] at this
  exact ⟨_,this⟩
theorem Good.upd(I:Inv G μ σ s){l:Nat}{a:Addr}{items items':List Value}{n:Nat}{vs':List V}{y:Value}(e:μ[l]?=some a)(ho:s.heap.get? a=some (zN items n))(f:Array Value→Array Value)(hf:f items.toArray=items'.toArray)
    (hl:vs'.length≤LIM) (q:VRs G μ s.heap vs' items') (t:Nat) (qv:VR G μ s.heap v y):Good G μ s v (σ.set l (.list vs')) y {s with heap:=s.heap.update a (Obj.mapSeq f),toks:=t}:=by
  have hs:Heap.SameBut a s.heap (s.heap.update a (Obj.mapSeq f)):=Heap.SameBut.update ..
  have st:Step W0 μ μ s.heap (s.heap.update a (Obj.mapSeq f)):=step_upd (zG e) hs
  obtain ⟨n',hn'⟩:=listObj_upd ho f hf
  exact ⟨μ,st,I.upd (ob:= .list vs') e hs ⟨items',n',hn',hl,q.step st⟩ t,qv.step st⟩
noncomputable def zB:PF:=fun σ v vs=>match v with
  | .loc l=>match vs with
    | [x]=>match σ[l]? with
      | some (.list ws)=>if ws.length<LIM then some (.none,σ.set l (.list (ws++ [x]))) else none
      | _=>none
    | _=>none
  | _=>none
theorem pAppend_inv{x:V × List AObj}{vs:List V}(h:zB σ v vs=some x):∃l z ws,v = .loc l∧vs= [z]∧σ[l]?=some (.list ws)∧ws.length<LIM∧(.none,σ.set l (.list (ws++ [z])))=x:=
  oLoc h fun l e1 h=>oOne h fun z e2 h=>oObj h fun ws e3 h=>oIf h fun e4 h=>⟨l,z,ws,e1,e2,e3,e4,h⟩
theorem yp:MPrim G r "list.append" zB:=fun A μ σ σ' s v v' y vs ys a I qv qs hf=>by
  refine xe35 (pAppend_inv hf) fun l z ws e1 e2 e3 hl e5=>?_
  subst e1 e2
  refine xe12 (VRs.one_inv qs) fun z e6 qz=>xe35 (loc_at I qv e3) fun ad items n e7 h1 h2 h3 h4=>?_
  subst e6 e7
  refine call_meets F.slot_list_append ⟨_,h2,rfl⟩ F.entry_list_append (F.args_list_append_2 _ _) (list_append ad items.toArray n z ?_) ⟨h2,?_⟩
  · refine rg List.size_toArray ?_; have:=h4.length; have:=yd; lia
  · exact (Prod.mk.inj e5).1▸(Prod.mk.inj e5).2▸Good.upd I h1 h2 (·.push z) (items':=items++ [z]) (by simp) (by simp; assumption) (h4.append (VRs.one qz)) s.toks rfl
noncomputable def popLast(σ:List AObj)(l:Nat):Option (V × List AObj):=match σ[l]? with
  | some (.list ws)=>(ws.getLast?).map fun x=>(x,σ.set l (.list ws.dropLast))
  | _=>none
noncomputable def popHead(σ:List AObj)(l:Nat):Option (V × List AObj):=match σ[l]? with
  | some (.list ws)=>(ws.head?).map fun x=>(x,σ.set l (.list ws.tail))
  | _=>none
noncomputable def popAt(σ:List AObj)(l:Nat)(vs:List V):Option (V × List AObj):=match vs with
  | [x]=>match x with
    | .int i=>if i=0 then popHead σ l else none
    | _=>none
  | _=>none
noncomputable def pPop:PF:=fun σ v vs=>match v with
  | .loc l=>if vs.isEmpty then popLast σ l else popAt σ l vs
  | _=>none
theorem pPop_inv{x:V × List AObj}{vs:List V}(h:pPop σ v vs=some x):∃l,v = .loc l∧(vs= []∧popLast σ l=some x∨vs= [.int 0]∧popHead σ l=some x):=
  oLoc h fun l e1 h=>⟨l,e1,match vs,h with
    | [],h=> .inl ⟨rfl,h⟩
    | y::ys,h=> .inr (oOne (show popAt σ l (y::ys)=some x from h) fun z e2 h=>oNum h fun i e3 h=>(Decidable.em (i=0)).elim (fun e=>⟨e2.trans (congrArg (fun z=> [z]) (e3.trans (congrArg V.int e))),(if_pos e).symm.trans h⟩) fun e=>nomatch (if_neg e).symm.trans h)⟩
theorem popLast_inv{l:Nat}{x:V × List AObj}(h:popLast σ l=some x):∃ws,σ[l]?=some (.list ws)∧ws[ws.length-1]?=some x.1∧x.2=σ.set l (.list ws.dropLast):=
  oObj h fun ws e h=>xe12 (Option.map_eq_some_iff.mp h) fun y e2 e3=>⟨ws,e,e3▸List.getLast?_eq_getElem?▸e2,e3▸rfl⟩
theorem popHead_inv{l:Nat}{x:V × List AObj}(h:popHead σ l=some x):∃y ws,σ[l]?=some (.list (y::ws))∧(y,σ.set l (.list ws))=x:=
  oObj h fun ws e h=>xe12 (Option.map_eq_some_iff.mp h) fun y e2 e3=>match ws,e,e2,e3 with
    | z::ws,e,e2,e3=>⟨z,ws,e,Option.some.inj e2▸e3⟩
theorem VRs.dropLast{vs:List V}{ys:List Value}(q:VRs G μ h vs ys):VRs G μ h vs.dropLast ys.dropLast:=by
  refine rg List.dropLast_eq_take ?_; refine rg List.dropLast_eq_take ?_; refine rg q.length ?_; exact q.take _
theorem erase_last(is:List Value)(z:Value)(e:is[is.length-1]?=some z):(is.toArray.eraseIdxIfInBounds (is.toArray.size-1))=is.dropLast.toArray:=by
  have hpos:is.length-1<is.length:=(List.getElem?_eq_some_iff.mp e).1
  refine rg List.size_toArray ?_
  unfold Array.eraseIdxIfInBounds
  simp only [List.size_toArray,hpos,dif_pos]
  have:is.eraseIdx (is.length-1)=is.dropLast:=by
    simp only [List.eraseIdx_eq_take_drop_succ,List.dropLast_eq_take]
    simp
    omega
  simpa using this
theorem drop_fits{ws:List V}(h:ws.length≤LIM):ws.dropLast.length≤LIM:=Nat.le_trans (List.length_dropLast▸Nat.sub_le _ _) h
theorem prim_pop:MPrim G r "list.pop" pPop:=fun A μ σ σ' s v v' y vs ys a I qv qs hf=>by
  refine xe12 (pPop_inv hf) fun l e1 h=>h.elim (fun h=>xe02 h fun e2 h=>xe13 (popLast_inv h) fun ws e3 e4 e5=>?_) fun h=>xe02 h fun e2 h=>xe22 (popHead_inv h) fun x ws e3 e5=>?_
  · subst e1 e2 e5
    have qs':ys= []:=qs
    subst qs'
    refine xe35 (loc_at I qv e3) fun ad items n e7 h1 h2 h3 h4=>e7▸xe12 (h4.get e4) fun z e8 e9=>?_
    refine call_meets F.slot_list_pop ⟨_,h2,rfl⟩ F.entry_list_pop (F.args_list_pop_1 _) (list_pop_last ad items.toArray n z ?_ ?_) ⟨h2,?_⟩
    · refine rg List.size_toArray ?_; refine rg h4.length ?_; simpa using e8
    · refine rg List.size_toArray ?_; have:=h4.length; have:=yd; lia
    · exact Good.upd I h1 h2 (fun xs=>xs.eraseIdxIfInBounds (items.toArray.size-1)) (items':=items.dropLast) (erase_last _ z (h4.length▸e8)) (drop_fits h3) h4.dropLast s.toks e9
  · subst e1 e2
    refine xe12 (VRs.one_inv qs) fun z e6 qz=>Exists.elim qz fun t ez=>xe35 (loc_at I qv e3) fun ad items n e7 h1 h2 h3 h4=>xe23 h4 fun z zs e8 q1 q2=>?_
    subst e6 ez e7 e8
    refine call_meets F.slot_list_pop ⟨_,h2,rfl⟩ F.entry_list_pop (F.args_list_pop_2 _ _) (list_pop_at ad (z::zs).toArray n 0 t 0 z (by decide) (by simp [seqIndex?]) (by rfl) ?_) ⟨h2,?_⟩
    · refine rg List.size_toArray ?_; have:=h4.length; have:=yd; lia
    · exact (Prod.mk.inj e5).1▸(Prod.mk.inj e5).2▸Good.upd I h1 h2 (fun xs=>xs.eraseIdxIfInBounds 0) (items':=zs) (by simp) (Nat.le_of_lt h3) q2 s.toks q1
noncomputable def pExtend:PF:=fun σ v vs=>match v with
  | .loc l=>match vs with
    | [x]=>match x with
      | .lst xs=>match σ[l]? with
        | some (.list ws)=>if ws.length+xs.length<LIM then some (.none,σ.set l (.list (ws++xs))) else none
        | _=>none
      | _=>none
    | _=>none
  | _=>none
theorem pExtend_inv{x:V × List AObj}{vs:List V}(h:pExtend σ v vs=some x):∃l xs ws,v = .loc l∧vs= [.lst xs]∧σ[l]?=some (.list ws)∧ws.length+xs.length<LIM∧(.none,σ.set l (.list (ws++xs)))=x:=
  oLoc h fun l e1 h=>oOne h fun z e2 h=>oLst h fun xs e0 h=>oObj h fun ws e3 h=>oIf h fun e4 h=>⟨l,xs,ws,e1,e0▸e2,e3,e4,h⟩
theorem ext_fits{xs ws:List V}{is js:List Value}(h:ws.length+xs.length<LIM)(e1:is.length=ws.length)(e2:js.length=xs.length):Builtin.List.listTooLong (is.toArray.size+js.toArray.size)=false:=by
  refine decide_eq_false ?_
  show ¬(is.length+js.length>sizeLine)
  have:=yd
  lia
theorem prim_extend:MPrim G r "list.extend" pExtend:=fun A μ σ σ' s v v' y vs ys a I qv qs hf=>by
  refine xe35 (pExtend_inv hf) fun l xs ws e1 e2 e3 hl e5=>?_
  subst e1 e2
  refine xe12 (VRs.one_inv qs) fun z e6 qz=>xe35 (loc_at I qv e3) fun ad items n e7 h1 h2 h3 h4=>xe35 qz fun ad2 items2 n2 e8 _ g1 _ g4=>?_
  subst e6 e7 e8
  have hlen:=h4.length
  have hlen2:=g4.length
  refine call_meets F.slot_list_extend ⟨_,h2,rfl⟩ F.entry_list_extend (F.args_list_extend_2 _ _) (AutoSeq1.list_extend_list_list_0 ad items.toArray n ad2 items2.toArray n2 ?_ ?_ ?_) ⟨h2,g1,?_⟩
  · refine rg (ext_fits hl hlen hlen2) ?_; simp
  · refine rg List.size_toArray ?_; have:=yd; lia
  · simp only [List.size_toArray]; have:=yd; lia
  · exact (Prod.mk.inj e5).1▸(Prod.mk.inj e5).2▸Good.upd I h1 h2 (· ++ items2.toArray) (items':=items++items2) (by simp) (List.length_append.symm▸Nat.le_of_lt hl) (h4.append g4) s.toks rfl
end
end Mi
namespace Mi
open MeetsSeq MeetsSeq2 MeetsSeq3 SeqRoads2 SeqAt
section
variable {prog:Program}{w:World}{A:Around}{E:Value→Shared→Prop}{s:Shared}
theorem setItem_L{l:Addr}{items:Array Value}{n:Nat}{k:Int}{t:Tok}{v:Value}{Q:Unit→Shared→Prop}(ho:s.heap.get? l=some {cls:= .type "list",dict:=none,data:= .seq items n,slots:= #[]})
    (h0:0≤k) (hfit:k<2 ^ 63) (hn:k<items.size) (hQ:Q () {s with heap:=s.heap.update l (Obj.mapSeq (·.setIfInBounds k.toNat v))}) :
    wpAny (model prog w) A (setItem (.ref l) (.int k t) v) Q E s:=by
  have hl:s.heap.IsList l items:=⟨_,ho,rfl,n,rfl⟩
  unfold setItem
  try with_reducible refine wpAny_holding ?_
  first | refine wpAny_bind (wpAny_pure ?_) | skip
  refine wpAny_bind (wpAny_sequenceKey hl.typeIs (by decide) ?_)
  refine wpAny_bind (wpAny_callSpecial?_slot (name:=Str.ofString "__setitem__") hl.typeIs slot_list_setitem
    (wpAny_call_entry slot_list_setitem hl.typeIs entry_list_setitem ?_ (args_list_setitem _ _ _)))
  show wpAny _ _ (Builtin.List.listSubscript? (.int k t) >>= _) _ _ s
  refine wpAny_bind (wpAny_listSubscript_int (fitsIndex_of h0 hfit) ?_)
  clear hfit
  obtain ⟨j,rfl⟩:=Int.eq_ofNat_of_zero_le h0
  have hj:j<items.size:=by omega
  have hx':items[j]?=some items[j]:=Array.getElem?_eq_getElem hj
  show wpAny _ _ ((seqItemAt l j >>= fun r=>pure (r.map (j,·))) >>= _) _ _ s
  refine wpAny_bind (wpAny_bind (wpAny_seqItemAt ho rfl (wpAny_pure ?_)))
  refine rg hx' ?_
  show wpAny _ _ (setSeqItemAt l j v >>= _) _ _ s
  refine wpAny_bind (wpAny_setSeqItemAt ho rfl ?_)
  first
    | exact wpAny_bind (wpAny_pure (wpAny_pure ⟨.none,rfl,wpAny_pure hQ⟩))
    | exact wpAny_pure ⟨.none,rfl,wpAny_pure hQ⟩
end
section
variable {G:Gd}{r:Nat}{cx:Cx}{fm:Fm}{W W':Addr→Prop}{μ μ' μ₁:List Addr}{h h':Heap}{ρ ρ' ρ₁:List V}{σ σ' σ₁:List AObj}{A:Around}{E:Value→Shared→Prop}{s s' s₁:Shared}{v:V}{b:Bool}{e:Expr}{fl:Fl}
noncomputable def setOf(σ:List AObj)(o k v:V):Option (List AObj):=match o with
  | .loc l=>match k with
    | .int k=>match σ[l]? with
      | some (.list ws)=>if 0≤k∧k<ws.length then some (σ.set l (.list (ws.set k.toNat v))) else none
      | _=>none
    | _=>none
  | _=>none
theorem setOf_inv{o k v:V}{x:List AObj}(h:setOf σ o k v=some x):∃(l:Nat) (i:Int) (ws:List V),o = .loc l∧k = .int i∧σ[l]?=some (.list ws)∧(0≤i∧i<ws.length)∧σ.set l (.list (ws.set i.toNat v))=x:=
  oLoc h fun l e1 h=>oNum h fun i e2 h=>oObj h fun ws e3 h=>oIf h fun e4 h=>⟨l,i,ws,e1,e2,e3,e4,h⟩
theorem set_fits{k:Int}{n:Nat}(h:k<n)(h1:n≤LIM):k<2 ^ 63:=by have:=zv; omega
noncomputable def fSet(f g h:EF):SF:=fun ρ σ=>match f ρ σ with
  | some (v,σ)=>match g ρ σ with
    | some (o,σ)=>match h ρ σ with
      | some (k,σ)=>(setOf σ o k v).map fun σ=>(.next,ρ,σ)
      | none=>none
    | none=>none
  | none=>none
theorem ss_set{o i value:Expr}{p pos:Pos}{f g h:EF}(hv:SE G r cx value f)(ho:SE G r cx o g)(hi:SE G r cx i h)
    (hs:∀env,swapsWith value (some (.Subscript o i p)) pos.line env=pure false:=by exact fun _=>rfl):SS G r cx (.Assign [.Subscript o i p] value pos) (fSet f g h):=fun A fm μ ρ σ s fl ρ' σ' a O I F hf=>by
  refine oE hf fun v₁ σ₁ e1 hf=>oE hf fun v₂ σ₂ e2 hf=>oE hf fun v₃ σ₃ e3 hf=>xe12 (Option.map_eq_some_iff.mp hf) fun σ₄ e4 h2=>pe3 h2 (xe35 (setOf_inv e4) fun l k ws e5 e8 e6 hk e7=>?_)
  subst e5 e8 e7
  refine wpAny_Assign_Subscript (hv.use a O I F e1 fun x s₁ μ₁ st₁ I₁ F₁ q₁=>ho.use a O I₁ F₁ e2 fun y s₂ μ₂ st₂ I₂ F₂ q₂=>hi.use a O I₂ F₂ e3 fun z s₃ μ₃ st₃ I₃ F₃ q₃=>?_) (hs _)
  refine Exists.elim q₃ fun t ez=>ez▸xe35 (loc_at I₃ (q₂.step st₃) e6) fun ad items n e h1 h2 h3 h4=>e▸setItem_L h2 hk.1 (set_fits hk.2 h3) (show k<(items.length:Int) from h4.length.symm▸hk.2) ?_
  refine xe13 (Good.upd (v:= .none) (y:= .none) I₃ h1 h2 (·.setIfInBounds k.toNat x) (items':=items.set k.toNat x) (by simp) (List.length_set.symm▸h3) (h4.set k.toNat ((q₁.step st₂).step st₃)) s₃.toks rfl) fun μ₄ st₄ I₄ _=>?_
  have stt:=((st₁.trans st₂).trans st₃).trans st₄
  exact ⟨μ₄,stt.of0,I₄,F.step0 stt,rfl⟩
noncomputable def strsOf:List V→Option (List (List Nat))
  | []=>some []
  | .str x::r=>(strsOf r).map (x:: ·)
  | _::_=>none
theorem strsOf_are:∀{vs:List V} {xs:List (List Nat)} {ys:List Value},strsOf vs=some xs→VRs G μ h vs ys→∃l:List (Str × Tok),ys=strValues l∧l.map (·.1)=xs.map (fun x=>⟨x.toArray⟩)∧∀x∈xs,okS x
  | []=>fun e q=>⟨[],q,Option.some.inj e▸rfl,Option.some.inj e▸nofun⟩
  | v::vs=>fun e q=>xe23 q fun y ys' e1 e2 e3=>by
    cases v with
    | str x=>exact xe12 (Option.map_eq_some_iff.mp e) fun r h1 h=>xe13 (strsOf_are h1 e3) fun l g1 g2 g3=>Exists.elim (And.right e2) fun t e2'=>h▸⟨(⟨x.toArray⟩,t)::l,by rw [e1,e2',g1]; rfl,congrArg (_:: ·) g2,fun y hy=>(List.mem_cons.mp hy).elim (fun e=>e▸And.left e2) (g3 y)⟩
    | _=>cases e
noncomputable def pJoin:PF:=fun σ v vs=>match v with
  | .str x=>if x.isEmpty then (match vs with
    | [y]=>match y with
      | .lst ws=>match strsOf ws with
        | some xs=>if xs.flatten.length≤LIM then some (.str xs.flatten,σ) else none
        | none=>none
      | _=>none
    | _=>none) else none
  | _=>none
theorem pJoin_inv{x:V × List AObj}{vs:List V}(h:pJoin σ v vs=some x):∃ws xs,v = .str []∧vs= [.lst ws]∧strsOf ws=some xs∧xs.flatten.length≤LIM∧(.str xs.flatten,σ)=x:=
  oStr h fun y e1 h=>match y,e1,h with
    | [],e1,h=>oOne h fun z e2 h=>oLst h fun ws e3 h=>by
      cases e:strsOf ws with
      | none=>rw [e] at h; cases h
      | some xs=>rw [e] at h; exact oIf h fun e4 h=>⟨ws,xs,e1,e3▸e2,e,e4,h⟩
theorem join_empty:∀xs:List (List Nat),Str.join ⟨#[]⟩ (xs.map fun x=>⟨x.toArray⟩)=⟨xs.flatten.toArray⟩
  | []=>rfl
  | [x]=>by simp [Str.join]
  | x::y::r=>by
    have ih:=join_empty (y::r)
    simp only [List.map_cons] at ih ⊢
    rw [Str.join]
    · refine rg ih ?_
      show Str.append (Str.append _ _) _=_
      simp [Str.append]
    · simp
theorem join_len:∀xs:List (List Nat),((xs.map fun x=>(⟨x.toArray⟩:Str)).map (·.length)).sum=xs.flatten.length
  | []=>rfl
  | x::r=>by simp only [List.map_cons,List.sum_cons,join_len r,List.flatten_cons,List.length_append]; rfl
theorem join_fits{xs:List (List Nat)}(h:xs.flatten.length≤LIM):JoinOk (⟨([]:List Nat).toArray⟩:Str) (xs.map fun x=>⟨x.toArray⟩)=true:=by
  unfold JoinOk Builtin.Str.tooLong
  rw [StrLaws.joinTotal,join_len xs]
  have h5:=yd
  rw [Bool.not_eq_true',decide_eq_false_iff_not]
  show ¬(xs.flatten.length+_*0>sizeLine)
  lia
theorem prim_join:MPrim G r "str.join" pJoin:=fun A μ σ σ' s v v' y vs ys a I qv qs hf=>by
  refine xe25 (pJoin_inv hf) fun ws xs e1 e2 e3 hl e5=>?_
  subst e1 e2
  refine Exists.elim qv.2 fun t et=>xe12 (VRs.one_inv qs) fun z e6 qz=>xe35 qz fun ad items n e8 _ h2 _ h4=>xe13 (strsOf_are e3 h4) fun l e7 g2 g3=>?_
  subst et e6 e8 e7
  refine (Prod.mk.inj e5).1▸(Prod.mk.inj e5).2▸SC.join (texts:=xs.map fun x=>⟨x.toArray⟩) (l:=l) ⟨_,h2,rfl,n,rfl⟩ g2 (join_fits hl) fun t' k=>Good.same I k ⟨⟨hl,?_⟩,t',?_⟩
  · exact fun c hc=>xe12 (List.mem_flatten.mp hc) fun x hx hc=>(g3 x hx).2 c hc
  · exact congrArg (Value.str · t') ((StrLaws.glued_eq_join _ _).trans (join_empty xs))
end
end Mi
namespace Mi
open MeetsSeq MeetsSeq2 MeetsSeq3 SeqRoads2 SeqAt
section
variable {G:Gd}{r:Nat}{cx:Cx}{fm:Fm}{W W':Addr→Prop}{μ μ' μ₁:List Addr}{h h':Heap}{ρ ρ' ρ₁:List V}{σ σ' σ₁:List AObj}{A:Around}{E:Value→Shared→Prop}{s s' s₁:Shared}{v:V}{b:Bool}{e:Expr}{fl:Fl}
noncomputable def lowOf(c:Nat):Nat:=if 65≤c∧c≤90 then c+32 else c
noncomputable def y6:List Nat:= [97,65,98,66,32,34,92]
theorem low_fact:∀c:Nat,c∈y6→Txt.lower ⟨#[c]⟩=⟨#[lowOf c]⟩:=by decide +kernel
noncomputable def one?(x:List Nat):Option Nat:=match x with
  | [c]=>some c
  | _=>none
theorem one?_inv{x:List Nat}{c:Nat}(h:one? x=some c):x= [c]:=match x,h with
  | [d],h=>congrArg (fun d=> [d]) (Option.some.inj h)
noncomputable def pLower:PF:=fun σ v vs=>match v with
  | .str x=>(one? x).bind fun c=>if c∈y6∧vs.isEmpty=true then some (.str [lowOf c],σ) else none
  | _=>none
theorem pLower_inv{x:V × List AObj}{vs:List V}(h:pLower σ v vs=some x):∃c,v = .str [c]∧vs= []∧c∈y6∧(.str [lowOf c],σ)=x:=
  oStr h fun y e1 h=>xe12 (Option.bind_eq_some_iff.mp h) fun c e2 h=>oIf h fun e3 h=>⟨c,one?_inv e2▸e1,List.isEmpty_iff.mp e3.2,e3.1,h⟩
theorem low_okS{c:Nat}(hc:c∈y6):okS [lowOf c]:=by
  refine ⟨by have:=zv; simp; exact Nat.succ_pos _,fun d hd=>?_⟩
  have:d=lowOf c:=by simpa using hd
  subst this
  exact (show ∀c∈y6,lowOf c<1114112 from by decide) c hc
theorem prim_lower:MPrim G r "str.lower" pLower:=fun A μ σ σ' s v v' y vs ys a I qv qs hf=>by
  refine xe14 (pLower_inv hf) fun c e1 e2 hc e5=>?_
  subst e1 e2
  have qs':ys= []:=qs
  have e:Txt.lower ⟨([c]:List Nat).toArray⟩=⟨#[lowOf c]⟩:=low_fact c hc
  refine qs'▸Exists.elim qv.2 fun t et=>et▸(Prod.mk.inj e5).1▸(Prod.mk.inj e5).2▸SC.lower ?_ ?_
  · refine rg e ?_; show Builtin.Str.tooLong 1=false; decide +kernel
  · refine rg e ?_
    exact Good.same I _ ⟨low_okS hc,_,rfl⟩
noncomputable def pStr(_:List AObj)(vs:List V):Option V:=match vs with
  | [x]=>match x with
    | .int n=>if 0≤n∧n<10 then some (.str [48+n.toNat]) else none
    | _=>none
  | _=>none
theorem pStr_inv{vs:List V}(h:pStr σ vs=some v):∃n:Nat,vs= [.int n]∧n<10∧V.str [48+n]=v:=
  oOne h fun x e1 h=>oNum h fun i e2 h=>oIf h fun e3 h=>Exists.elim (Int.eq_ofNat_of_zero_le e3.1) fun n en=>⟨n,e1.trans (congrArg (fun x=> [x]) (e2.trans (congrArg V.int en))),Int.ofNat_lt.mp (en▸e3.2),(congrArg (fun i:Int=>V.str [48+i.toNat]) en).symm.trans h⟩
theorem str_digit:∀n:Nat,n<10→(Str.ofString (toString (n:Int)))=⟨#[48+n]⟩:=by decide +kernel
theorem small_log{k:Nat}(h1:k<10):(k:Int).natAbs.log2<1920:=Nat.lt_of_le_of_lt (Nat.log2_le_self k) (Nat.lt_trans h1 (by decide))
theorem digit_okS{k:Nat}(h:k<10):okS [48+k]:=by
  refine ⟨by have:=zv; simp; exact Nat.succ_pos _,fun d hd=>?_⟩
  have:d=48+k:=by simpa using hd
  omega
theorem prim_str:PrimOk G r (.type "str") pStr:=fun A μ σ s vs ys v a I q hf=>by
  refine xe13 (pStr_inv hf) fun k e1 e2 e3=>?_
  subst e1
  refine xe12 (VRs.one_inv q) fun y e6 qz=>Exists.elim qz fun t et=>e6▸et▸e3▸P.str_of_int ?_ ?_
  · exact small_log e2
  · exact Good.same I _ ⟨digit_okS e2,s.toks,by refine rg (str_digit k e2) ?_; rfl⟩
noncomputable def pInt(_:List AObj)(vs:List V):Option V:=match vs with
  | [x]=>match x with
    | .str x=>(one? x).bind fun c=>if 48≤c∧c<58 then some (.int (c-48:Nat)) else none
    | _=>none
  | _=>none
theorem pInt_inv{vs:List V}(h:pInt σ vs=some v):∃c:Nat,vs= [.str [c]]∧(48≤c∧c<58)∧V.int (c-48:Nat)=v:=
  oOne h fun x e1 h=>oStr h fun y e2 h=>xe12 (Option.bind_eq_some_iff.mp h) fun c e3 h=>oIf h fun e4 h=>⟨c,one?_inv e3▸e2▸e1,e4,h⟩
theorem int_digit:∀c:Nat,c<58→48≤c→PySem.intText? ⟨#[c]⟩=some ((c-48:Nat):Int):=by decide +kernel
theorem prim_int:PrimOk G r (.type "int") pInt:=fun A μ σ s vs ys v a I q hf=>by
  refine xe13 (pInt_inv hf) fun c e1 hc e3=>?_
  subst e1
  exact xe12 (VRs.one_inv q) fun y e6 qz=>Exists.elim qz.2 fun t et=>e6▸et▸e3▸PySem.W.KIN.call_text (int_digit c hc.2 hc.1) (by show 1≤640; exact Nat.succ_pos _) (Good.same I _ ⟨_,rfl⟩)
end
end Mi
namespace Mi
open MeetsSeq MeetsSeq2 MeetsSeq3 SeqRoads2 SeqAt
section
variable {G:Gd}{r:Nat}{cx:Cx}{fm:Fm}{W W':Addr→Prop}{μ μ' μ₁:List Addr}{h h':Heap}{ρ ρ' ρ₁:List V}{σ σ' σ₁:List AObj}{A:Around}{E:Value→Shared→Prop}{s s' s₁:Shared}{v:V}{b:Bool}{e:Expr}{fl:Fl}
noncomputable def isLst:V→Bool
  | .lst _=>true
  | .loc _=>true
  | _=>false
noncomputable def Zy(σ:List AObj)(v:V):Option (List Int):=if isLst v then (yM σ v).bind zM else none
theorem intList_obj(I:Inv G μ σ s){y:Value}{xs:List Int}(q:VR G μ s.heap v y)(h:Zy σ v=some xs):∃a items n,y = .ref a∧s.heap.get? a=some (zN items n)∧IntsAre items xs:=by
  unfold Zy at h
  split at h
  · rename_i hl
    rw [Option.bind_eq_some_iff] at h
    refine xe12 h fun vs e1 e2=>?_
    have e3:yx σ v=some (.lst vs):=by
      cases v <;> simp [isLst] at hl
      · simpa [yM,yx] using e1
      · rename_i l
        dsimp only [yM] at e1
        split at e1
        · rename_i ws e4
          simp only [yx,e4]
          simpa using e1
        · contradiction
    refine xe34 (q.islist I e3) fun a items n rfl h1 _ h3=>?_
    exact ⟨a,items,n,rfl,h1,yG e2 h3⟩
  · contradiction
theorem preSum_take(xs:List Int):∀n,n≤xs.length→preSum (fun i=>xs.getD i 0) n=(xs.take n).sum
  | 0,_=>rfl
  | n+1,h=>by
    have h1:xs[n]?=some xs[n]:=List.getElem?_eq_getElem (by assumption)
    rw [preSum,preSum_take xs n (by exact Nat.le_of_lt ‹_›),List.take_add_one,List.sum_append,h1]
    simp [h1]
noncomputable def pSum(σ:List AObj):List V→Option V
  | [v]=>(Zy σ v).map fun xs=> .int xs.sum
  | _=>none
theorem IntsAre.val{items:List Value}{xs:List Int}(h:IntsAre items xs){i:Nat}{x:Value}(e:items.toArray[i]?=some x):∃t,x = .int (xs.getD i 0) t:=by
  have hl:i<xs.length:=by
    have h1:=h.length
    have h2:i<items.length:=by
      have:=(Array.getElem?_eq_some_iff.mp e).1
      simpa using this
    lia
  obtain ⟨t,ht⟩:=h.get i xs[i] (List.getElem?_eq_getElem hl)
  have:items[i]?=some x:=by simpa using e
  rw [ht] at this
  cases this
  exact ⟨t,by simp [hl]⟩
theorem prim_sum:PrimOk G r (.builtin "sum") pSum:=fun A μ σ s vs ys v a I q hf=>by
  unfold pSum at hf
  split at hf
  · rw [Option.map_eq_some_iff] at hf
    obtain ⟨xs,e1,rfl⟩:=hf
    obtain ⟨y,rfl,q'⟩:=VRs.one_inv q
    obtain ⟨ad,items,n,rfl,ho,hi⟩:=intList_obj I q' e1
    have hL:s.heap.IsList ad items.toArray:=⟨_,ho,rfl,n,rfl⟩
    have hne:ad≠s.heap.objs.size:=Nat.ne_of_lt (Heap.lt_size ho)
    refine yk (call_sum_walkG (wpAny_pyIter_list hL ?_))
    refine ⟨_,_,_,_,_,_,fun i=>xs.getD i 0,rfl,Walks.list (prog:=G.prog) (w:=G.w) (A:=A.in1) a.handled s.heap.objs.size ad hne items.toArray,⟨⟨_,Heap.get?_push_size _ rfl,rfl,rfl⟩,hL.push _⟩,?_,fun i x e=>IntsAre.val hi e,fun h' tk t' hk hz=>?_⟩
    · intro b hb
      rcases List.mem_cons.mp hb with e | e
      · subst e; simp
      · have:b=ad:=by simpa using e
        subst this
        exact Nat.lt_of_lt_of_le (Heap.lt_size ho) (by simp)
    · have hk':∀b o,s.heap.get? b=some o→h'.get? b=some o:=fun b o e=>hk b o (by
        intro hb
        have:b=s.heap.objs.size:=by simpa using hb
        exact absurd (Heap.lt_size e) (by refine rg this ?_; exact Nat.lt_irrefl _)) (Heap.get?_push_of_some _ e)
      refine Good.keep I hk' hz ⟨t',?_⟩
      have e2:items.toArray.size=xs.length:=by simp [hi.length]
      refine rg e2 ?_; refine rg (preSum_take xs _ (Nat.le_refl _)) ?_; refine rg List.take_length ?_; rfl
  · contradiction
noncomputable def zW(lt:Int→Int→Bool)(x:Int)(l:List Int):Int:=l.foldl (fun a b=>if lt b a then b else a) x
theorem argBest_fold(lt:Int→Int→Bool)(x:Int)(l:List Int):∀k,k≤l.length→(x::l).getD (argBest (fun i j=>lt ((x::l).getD i 0) ((x::l).getD j 0)) k) 0=zW lt x (l.take k)
  | 0,_=>by rfl
  | k+1,h=>by
    have ih:=argBest_fold lt x l k (by exact Nat.le_of_lt ‹_›)
    have h1:l[k]?=some l[k]:=List.getElem?_eq_getElem (by assumption)
    have h2:(x::l).getD (k+1) 0=l[k]:=by simp [h1]
    have e3:zW lt x (l.take (k+1))=if lt l[k] (zW lt x (l.take k)) then l[k] else zW lt x (l.take k):=by
      refine rg List.take_add_one ?_; refine rg h1 ?_
      simp only [Option.toList_some,zW,List.foldl_append,List.foldl_cons,List.foldl_nil]
      rfl
    have e4:argBest (fun i j=>lt ((x::l).getD i 0) ((x::l).getD j 0)) (k+1)=if lt l[k] (zW lt x (l.take k)) then k+1 else argBest (fun i j=>lt ((x::l).getD i 0) ((x::l).getD j 0)) k:=by
      refine rl ih ?_; refine rl h2 ?_; rfl
    refine rg e3 ?_; refine rg e4 ?_
    split
    · exact h2
    · exact ih
noncomputable def pMax1(σ:List AObj):List V→Option V
  | [v]=>match Zy σ v with
    | some (x::xs)=>some (.int (zW (fun a b=>decide (b<a)) x xs))
    | _=>none
  | _=>none
noncomputable def pMin1(σ:List AObj):List V→Option V
  | [v]=>match Zy σ v with
    | some (x::xs)=>some (.int (zW (fun a b=>decide (a<b)) x xs))
    | _=>none
  | _=>none
theorem IntsAre.cmp{items:List Value}{xs:List Int}(h:IntsAre items xs){prog:Program}{w:World}{A:Around}(op:CmpOp)(f:Int→Int→Bool)
    (hop:∀(a b:Int) (t u:Tok) (s:Shared) (Q:Value→Shared→Prop) (E:Value→Shared→Prop),Q (.bool (f a b)) s→wpAny (model prog w) A (richCompare op (.int a t) (.int b u)) Q E s) :
    CmpOf prog w A op (fun i v=>items.toArray[i]?=some v) (fun i j=>f (xs.getD i 0) (xs.getD j 0)):=fun i j vi vj s Q E hi hj hQ=>by
  obtain ⟨t,rfl⟩:=IntsAre.val h hi
  obtain ⟨u,rfl⟩:=IntsAre.val h hj
  exact hop _ _ _ _ _ _ _ hQ
theorem prim_max1:PrimOk G r (.builtin "max") pMax1:=fun A μ σ s vs ys v a I q hf=>by
  unfold pMax1 at hf
  split at hf
  · split at hf
    · rename_i x xs e1
      cases hf
      obtain ⟨y,rfl,q'⟩:=VRs.one_inv q
      obtain ⟨ad,items,n,rfl,ho,hi⟩:=intList_obj I q' e1
      have hL:s.heap.IsList ad items.toArray:=⟨_,ho,rfl,n,rfl⟩
      have hne:ad≠s.heap.objs.size:=Nat.ne_of_lt (Heap.lt_size ho)
      have hlen:items.length=xs.length+1:=by have:=hi.length; simpa using this
      refine yk (call_max_walk (wpAny_pyIter_list hL ?_))
      refine ⟨_,_,_,_,_,_,fun i j=>decide ((x::xs).getD j 0<(x::xs).getD i 0),rfl,Walks.list (prog:=G.prog) (w:=G.w) (A:=A.in1) a.handled s.heap.objs.size ad hne items.toArray,⟨⟨_,Heap.get?_push_size _ rfl,rfl,rfl⟩,hL.push _⟩,?_,by simp [hlen],?_,fun w h' tk hP hk hz=>?_⟩
      · intro b hb
        rcases List.mem_cons.mp hb with e | e
        · subst e; simp
        · have:b=ad:=by simpa using e
          subst this
          exact Nat.lt_of_lt_of_le (Heap.lt_size ho) (by simp)
      · exact IntsAre.cmp hi .Gt (fun a b=>decide (b<a)) fun a b t u s Q E h=>show wpAny _ _ (compareOp .Gt _ _) _ _ _ from P.gt_int h
      · have hk':∀b o,s.heap.get? b=some o→h'.get? b=some o:=fun b o e=>hk b o (by
          intro hb
          have:b=s.heap.objs.size:=by simpa using hb
          exact absurd (Heap.lt_size e) (by refine rg this ?_; exact Nat.lt_irrefl _)) (Heap.get?_push_of_some _ e)
        obtain ⟨t,rfl⟩:=IntsAre.val hi hP
        refine Good.keep I hk' hz ⟨t,?_⟩
        have e2:items.toArray.size-1=xs.length:=by simp [hlen]
        refine rg e2 ?_; refine rg (argBest_fold (fun a b=>decide (b<a)) x xs _ (Nat.le_refl _)) ?_; refine rg List.take_length ?_; rfl
    · contradiction
  · contradiction
theorem prim_min1:PrimOk G r (.builtin "min") pMin1:=fun A μ σ s vs ys v a I q hf=>by
  unfold pMin1 at hf
  split at hf
  · split at hf
    · rename_i x xs e1
      cases hf
      obtain ⟨y,rfl,q'⟩:=VRs.one_inv q
      obtain ⟨ad,items,n,rfl,ho,hi⟩:=intList_obj I q' e1
      have hL:s.heap.IsList ad items.toArray:=⟨_,ho,rfl,n,rfl⟩
      have hne:ad≠s.heap.objs.size:=Nat.ne_of_lt (Heap.lt_size ho)
      have hlen:items.length=xs.length+1:=by have:=hi.length; simpa using this
      refine yk (call_min_walk (wpAny_pyIter_list hL ?_))
      refine ⟨_,_,_,_,_,_,fun i j=>decide ((x::xs).getD i 0<(x::xs).getD j 0),rfl,Walks.list (prog:=G.prog) (w:=G.w) (A:=A.in1) a.handled s.heap.objs.size ad hne items.toArray,⟨⟨_,Heap.get?_push_size _ rfl,rfl,rfl⟩,hL.push _⟩,?_,by simp [hlen],?_,fun w h' tk hP hk hz=>?_⟩
      · intro b hb
        rcases List.mem_cons.mp hb with e | e
        · subst e; simp
        · have:b=ad:=by simpa using e
          subst this
          exact Nat.lt_of_lt_of_le (Heap.lt_size ho) (by simp)
      · exact IntsAre.cmp hi .Lt (fun a b=>decide (a<b)) fun a b t u s Q E h=>show wpAny _ _ (compareOp .Lt _ _) _ _ _ from P.lt_int h
      · have hk':∀b o,s.heap.get? b=some o→h'.get? b=some o:=fun b o e=>hk b o (by
          intro hb
          have:b=s.heap.objs.size:=by simpa using hb
          exact absurd (Heap.lt_size e) (by refine rg this ?_; exact Nat.lt_irrefl _)) (Heap.get?_push_of_some _ e)
        obtain ⟨t,rfl⟩:=IntsAre.val hi hP
        refine Good.keep I hk' hz ⟨t,?_⟩
        have e2:items.toArray.size-1=xs.length:=by simp [hlen]
        refine rg e2 ?_; refine rg (argBest_fold (fun a b=>decide (a<b)) x xs _ (Nat.le_refl _)) ?_; refine rg List.take_length ?_; rfl
    · contradiction
  · contradiction
end
end Mi
namespace Mi
open MeetsSeq MeetsSeq2 MeetsSeq3 SeqRoads2 SeqAt
section
variable {G:Gd}{r:Nat}{cx:Cx}{fm:Fm}{W W':Addr→Prop}{μ μ' μ₁:List Addr}{h h':Heap}{ρ ρ' ρ₁:List V}{σ σ' σ₁:List AObj}{A:Around}{E:Value→Shared→Prop}{s s' s₁:Shared}{v:V}{b:Bool}{e:Expr}{fl:Fl}
theorem Inv.add(K:GOk G)(I:Inv G μ σ s){a:Addr}{ob:AObj}(hk:∀b o,s.heap.get? b=some o→h'.get? b=some o)(hz:s.heap.objs.size≤h'.objs.size)(ha:s.heap.objs.size≤a)(ha':a<h'.objs.size)
    (t:Nat) (hob:ORel G (μ++ [a]) h' a ob):Inv G (μ++ [a]) (σ++ [ob]) {s with heap:=h',toks:=t}∧Step W0 μ (μ++ [a]) s.heap h':=by
  have st:Step W0 μ (μ++ [a]) s.heap h':=⟨⟨[a],rfl,by simpa using ha⟩,hz,fun a o _ _ e=>hk a o e,fun a o _ _ e=>hk a o e⟩
  have hna:a∉μ:=fun q=>absurd (I.new a q).2 (Nat.not_lt.mpr ha)
  refine ⟨⟨fun b o e=>hk b o (I.base b o e),fun b hb=>?_,?_,by simp [I.len],fun l b o e1 e2=>?_,I.gens,I.os,by obtain ⟨ν,h⟩:=I.fix; exact ⟨ν++ [a],by rw [h,List.append_assoc]⟩⟩,st⟩
  · rcases List.mem_append.mp hb with hb | hb
    · exact ⟨(I.new b hb).1,Nat.lt_of_lt_of_le (I.new b hb).2 hz⟩
    · have:b=a:=by simpa using hb
      subst this
      exact ⟨I.fresh0 ha,ha'⟩
  · rw [List.nodup_append]
    refine ⟨I.nodup,by simp,fun b hb c hc=>?_⟩
    have:c=a:=by simpa using hc
    subst this
    exact fun q=>hna (q▸hb)
  · rcases Nat.lt_trichotomy l μ.length with q | q | q
    · rw [List.getElem?_append_left q] at e1
      rw [List.getElem?_append_left (by rw [←I.len]; exact q)] at e2
      exact (I.obj l b o e1 e2).step st fun _ e=>hk _ _ e
    · subst q
      rw [List.getElem?_append_right (Nat.le_refl _)] at e1
      rw [List.getElem?_append_right (by rw [I.len]; exact Nat.le_refl _)] at e2
      simp at e1
      rw [I.len] at e2
      simp at e2
      subst e1 e2
      exact hob
    · rw [List.getElem?_eq_none (by rw [List.length_append,List.length_singleton]; assumption)] at e1
      contradiction
theorem VRs.ints{ys:List Value}{f:Nat→Int}{n:Nat}(hl:ys.length=n)(hy:∀j v,ys[j]?=some v→∃t,v=Value.int (f j) t):VRs G μ h ((List.range n).map fun i=>V.int (f i)) ys:=by
  induction ys generalizing n f with
  | nil=>subst hl; rfl
  | cons y ys ih=>
    subst hl
    rw [List.length_cons,List.range_succ_eq_map]
    simp only [List.map_cons,List.map_map]
    obtain ⟨t,ht⟩:=hy 0 y rfl
    refine ⟨y,ys,rfl,⟨t,ht⟩,?_⟩
    exact ih (f:=fun i=>f (i+1)) rfl fun j v hj=>hy (j+1) v (by simpa using hj)
noncomputable def Zj(g:EsF):EF:=fun ρ σ=>match g ρ σ with
  | some (vs,σ)=>match yW vs with
    | some (a,b,c)=>if rngN a b c≤LIM then some (.loc σ.length,σ++ [.list (rngL a b c)]) else none
    | none=>none
  | none=>none
theorem rng_fits{a b c:Int}(hr:rngOk a b c):rngN a b c≤2 ^ 24:=by
  have h1:=rng_size hr
  have h2:(rngN a b c:Int)=Builtin.Range.rangeSize a b c:=Int.toNat_of_nonneg h1.1
  lia
theorem se_listrange(K:GOk G){p p1 p2 pos:Pos}{es:List Expr}{g:EsF}(hx:cx.names.lookup ("range":Str)=some .globalImplicit) (hb:BI G "range" (.type "range")) (hx2:cx.names.lookup ("list":Str)=some .globalImplicit) (hb2:BI G "list" (.type "list")) (hs:SEs G r cx es g)
    (hplain:∀env pos,(backTo pos (starEach es env)).any (·.1)=false:=by exact fun _ _=>rfl):SE G r cx (.Call (.Name "list" p) [.Call (.Name "range" p1) es [] p2] [] pos) (Zj g):=fun A fm μ ρ σ s v σ' a O I Fr hf=>by
  refine oS hf fun ws σ₁ e1 hf=>?_
  have hf':∃p,yW ws=some p∧rngN p.1 p.2.1 p.2.2≤LIM∧(V.loc σ₁.length,σ₁++ [.list (rngL p.1 p.2.1 p.2.2)])=(v,σ'):=by
    cases e:yW ws with
    | none=>rw [e] at hf; contradiction
    | some p=>rw [e] at hf; exact oIf hf fun h1 h2=>⟨p,rfl,h1,h2⟩
  refine xe13 hf' fun p e2 hlim e=>pe2 e ?_
  simp only [yc]
  refine wpAny_bind (yY K O I hx2 hb2 (zT rfl rfl (z6 rfl (PySem.wpAny_items_cons (rest:= []) ?_))))
  simp only [yc]
  refine wpAny_bind (yY K O I hx hb (zT rfl (hplain _ _) (z6 (hplain _ _) (hs.use a O I Fr e1 fun ys s₁ μ₁ st₁ I₁ F₁ q₁=>rng_made K e2 I₁ q₁ fun hr tk t u v=>wpAny_items_nil ?_))))
  have I₂:=I₁.push {cls:= .type "range",data:= .fields #[.int p.1 t, .int p.2.1 u, .int p.2.2 v]} tk
  refine yk (call_list_range a.handled (IsRange.new s₁.heap p.1 p.2.1 p.2.2 t u v) (rng_small hr) (Int.toNat_of_nonneg (rng_size hr).1).symm (rng_fits hr) fun h' tk' acc c' hk hacc hit hz=>?_)
  refine (I₂.add (ob:= .list (rngL p.1 p.2.1 p.2.2)) K hk hz (Nat.le_refl _) (Heap.lt_size hacc) tk' ⟨acc.toList,c',hacc,by rw [rngL_length]; exact hlim,VRs.ints (ys:=acc.toList) (f:=fun i=>p.1+i*p.2.2) hit.1 (fun j w hj=>hit.2 j w (Array.getElem?_toList.symm.trans hj))⟩).elim fun I₃ st₃=>⟨_,(st₁.trans (Step.push _)).trans st₃,I₃,_,?_,rfl⟩
  rw [←I₁.len]
  simp
noncomputable def fRev(f:EF):EsF:=fun ρ σ=>match f ρ σ with
  | some (.lst vs,σ)=>some (vs.reverse,σ)
  | _=>none
theorem si_rev(K:GOk G){p pos:Pos}{x:Expr}{f:EF}(hx:cx.names.lookup ("reversed":Str)=some .globalImplicit) (hb:BI G "reversed" (.type "reversed")) (hv:SE G r cx x f)
    (hplain:∀env,starEach [x] env= [(false,eval x env)]:=by exact fun _=>rfl):SI G r cx (.Call (.Name "reversed" p) [x] [] pos) (fRev f):=⟨fun _ _=>rfl,fun A fm μ ρ σ s vs σ' a O I Fr hf=>by
  have hf':∃ws,f ρ σ=some (.lst ws,σ')∧ws.reverse=vs:=by
    unfold fRev at hf
    cases e:f ρ σ with
    | none=>rw [e] at hf; contradiction
    | some p=>
      rw [e] at hf
      cases p with | mk v σ₁=>cases v with
      | lst ws=>exact se2 hf ⟨ws,rfl,rfl⟩
      | _=>contradiction
  refine xe12 hf' fun ws e1 e=>e▸?_
  simp only [yc]
  have hany:(backTo pos (starEach [x] fm.env)).any (·.1)=false:=by rw [hplain]; rfl
  refine wpAny_bind (yY K O I hx hb (zT rfl hany (z6 hany (PySem.wpAny_items_cons (rest:= []) (hv.use a O I Fr e1 fun y s₁ μ₁ st₁ I₁ F₁ q₁=>wpAny_items_nil (xe33 q₁ fun ad items n e h1 h=>e▸?_)) (hplain _)))))
  have hL:s₁.heap.IsList ad items.toArray:=⟨_,h.1,rfl,n,rfl⟩
  have hlen:items.length=ws.length:=h.2.2.length
  refine call_reversed_list hL ?_
  have hrev:(s₁.heap.push (revObj ad ((items.toArray.size:Int)-1))).IsRevIter s₁.heap.objs.size ad ((items.toArray.size:Int)-1-((0:Nat):Int)):=⟨_,Heap.get?_push_size _ rfl,rfl,by simp [revObj]⟩
  refine wpAny_pyIter_revIter hrev (ItGood.after st₁ (it_new I₁ _ s₁.toks (P:=fun i v=>items.toArray[items.toArray.size-1-i]?=some v∧i<items.length)
    (St:=fun i h=>i≤items.toArray.size∧h.IsRevIter s₁.heap.objs.size ad ((items.toArray.size:Int)-1-(i:Int))∧h.IsList ad items.toArray) (fun A a'=>?_) (fun i h q=>xe13 q.2.1 fun o e1 e2 e3=>⟨o,e1,not_imm e3, .inr (.inr (.inr (.inl e2)))⟩) (fun i x q=>?_) (fp_two ⟨h1,_,h.1,trivial⟩) ⟨Nat.zero_le _,hrev,hL.push _⟩))
  · have Wk:=Walks.listRev (prog:=G.prog) (w:=G.w) a'.handled s₁.heap.objs.size ad (Nat.ne_of_lt (Heap.lt_size h.1)) items.toArray
    refine rg (show ws.reverse.length=items.toArray.size from List.length_reverse.trans hlen.symm) ?_
    exact ⟨Wk.sub,Wk.frame,fun i s Q E hi st hQ=>Wk.item i s Q E hi st fun v h' tk hP=>hQ v h' tk ⟨hP,hi⟩,Wk.done,Wk.self⟩
  · have e2:items[items.length-1-i]?=some x:=List.getElem?_toArray.symm.trans q.1
    refine xe12 ((h.2.2.step (Step.push (revObj ad ((items.toArray.size:Int)-1)))).get' e2) fun v e3 e4=>⟨v,?_,e4⟩
    refine rg (List.getElem?_reverse (hlen▸q.2)) ?_; refine rl hlen ?_
    exact e3⟩
end
end Mi
namespace Mi
noncomputable def compBody(elt:Expr)(gens:List Comprehension)(scope:Scope)(pos:Pos)(d:Nat)(it acc:Value)(env:Env):Sem Fin:=match gens[d+1]? with
  | some g'=>(do
    let x ←eval g'.iter env
    standAt g'.iter.pos
    let x ←if g'.is_async != 0 then foldedIterable g'.iter x else foldedSetIterable g'.iter env x
    let _ ←runOwn (.compStart (.ListComp elt gens scope pos) (d+1) (←holding [x] (if g'.is_async != 0 then asyncIter x else pyIter x)) acc env) env
    again (.compLoop (.ListComp elt gens scope pos) d it acc env))
  | none=>(eval elt env >>= fun x=>call (.builtin "list.append") [acc,x] >>= fun _=>pure ()) >>= fun _=>again (.compLoop (.ListComp elt gens scope pos) d it acc env)
noncomputable abbrev ifsC(ifs:List Expr)(env:Env)(b:Bool):Sem Bool:=forIn ifs b fun c r=>if r=true then do let ok ←isTrue c env (eval c env); pure (ForInStep.yield ok) else pure (ForInStep.yield r)
theorem turn_eq(elt:Expr)(gens:List Comprehension)(d:Nat)(t iter:Expr)(ifs:List Expr)(hg:gens[d]?=some ⟨t,iter,ifs,0⟩)(scope:Scope)(pos:Pos)(it acc:Value)(env:Env) :
  compTurn (.ListComp elt gens scope pos) d it acc env=(standAt iter.pos >>= fun _=>pyNext it >>= fun r=>match r with
      | none=>pure (.done .next)
      | some v=>letOwnedTupleGo t it v >>= fun _=>assign t env v >>= fun _=>ifsC ifs env true >>= fun ok=>
        if ok then compBody elt gens scope pos d it acc env else again (.compLoop (.ListComp elt gens scope pos) d it acc env)):=by
  unfold compTurn
  simp only [hg]
  rfl
theorem zS:∀(names:List (Str × NameKind)) (n:Nat) (acc:List (Str × Addr)),cellsFrom n names acc=cellsFrom n names []++acc
  | [],_,acc=>rfl
  | (x,k)::r,n,acc=>by
    unfold cellsFrom
    split
    · rw [zS r (n+1) ((x,n)::acc),zS r (n+1) [(x,n)]]; simp
    · exact zS r n acc
theorem cellsFrom_mem:∀(names:List (Str × NameKind)) (n:Nat) {x:Str} {c:Addr},(x,c)∈cellsFrom n names []→(x,NameKind.cell)∈names
  | [],_,_,_,h=>nomatch h
  | (y,k)::r,n,x,c,h=>by
    unfold cellsFrom at h
    split at h
    · rename_i hk
      rw [zS] at h
      rcases List.mem_append.mp h with h | h
      · exact List.mem_cons_of_mem _ (cellsFrom_mem r _ h)
      · have:(x,c)=(y,n):=by simpa using h
        refine pr2 this ?_
        have:k = .cell:=by simpa using hk
        subst this
        exact List.mem_cons_self
    · exact List.mem_cons_of_mem _ (cellsFrom_mem r _ h)
theorem ZC{α:Type}{l l':List (Str × α)}{x:Str}:(l++l').lookup x=(l.lookup x).or (l'.lookup x):=by
  induction l with
  | nil=>simp
  | cons p l ih=>
    obtain ⟨y,v⟩:=p
    simp only [List.cons_append,List.lookup_cons]
    split <;> simp_all
theorem lookup_of_mem{α:Type}:∀{l:List (Str × α)} {x:Str} {c:α},(x,c)∈l→∃d,l.lookup x=some d
  | (y,v)::r,x,c,h=>by
    simp only [List.lookup_cons]
    by_cases hb:x=y
    · subst hb; simp
    · have hb':(x==y)=false:=beq_eq_false_iff_ne.mpr hb
      simp only [hb']
      rcases List.mem_cons.mp h with e | h
      · cases e; exact absurd rfl hb
      · exact lookup_of_mem h
theorem cellsFrom_has:∀(names:List (Str × NameKind)) (n:Nat) {x:Str},(x,NameKind.cell)∈names→∃c,(x,c)∈cellsFrom n names []
  | (y,k)::r,n,x,h=>by
    unfold cellsFrom
    rcases List.mem_cons.mp h with e | h
    · cases e
      refine ⟨n,?_⟩
      rw [if_pos (by rfl),zS]
      simp
    · split
      · obtain ⟨c,hc⟩:=cellsFrom_has r (n+1) h
        refine ⟨c,?_⟩
        rw [zS]
        exact List.mem_append_left _ hc
      · exact cellsFrom_has r n h
theorem pushCells_size:∀(names:List (Str × NameKind)) (h:Heap),h.objs.size≤(pushCells h names).objs.size
  | [],h=>Nat.le_refl _
  | (_,k)::r,h=>by
    unfold pushCells
    split
    · exact Nat.le_trans (by simp) (pushCells_size r _)
    · exact pushCells_size r h
noncomputable def clOf(env:Env):List (Str × NameKind)→List (Str × Addr)→List (Str × Addr)
  | [],acc=>acc
  | (n,k)::r,acc=>if k == .free then clOf env r ((n,(env.cells.lookup n).getD 0)::acc) else clOf env r acc
theorem clOf_mem(env:Env):∀(names:List (Str × NameKind)) (acc:List (Str × Addr)),(∀p∈acc,p.2=(env.cells.lookup p.1).getD 0)→∀p∈clOf env names acc,p.2=(env.cells.lookup p.1).getD 0
  | [],acc,h=>h
  | (n,k)::r,acc,h=>by
    unfold clOf
    split
    · exact clOf_mem env r _ fun p hp=>by
        rcases List.mem_cons.mp hp with e | hp
        · subst e; rfl
        · exact h p hp
    · exact clOf_mem env r _ h
theorem clOf_acc(env:Env):∀(names:List (Str × NameKind)) (acc:List (Str × Addr)) (p),p∈acc→p∈clOf env names acc
  | [],acc,p,h=>h
  | (n,k)::r,acc,p,h=>by
    unfold clOf
    split
    · exact clOf_acc env r _ p (List.mem_cons_of_mem _ h)
    · exact clOf_acc env r _ p h
theorem clOf_has(env:Env):∀(names:List (Str × NameKind)) (acc:List (Str × Addr)) (x:Str),(x,NameKind.free)∈names→∃c,(x,c)∈clOf env names acc
  | (n,k)::r,acc,x,h=>by
    unfold clOf
    rcases List.mem_cons.mp h with e | h
    · cases e
      refine rg (if_pos (by rfl)) ?_
      exact ⟨_,clOf_acc env r _ _ List.mem_cons_self⟩
    · split
      · exact clOf_has env r _ x h
      · exact clOf_has env r _ x h
theorem clOf_lookup(env:Env)(names:List (Str × NameKind)){x:Str}(h:(x,NameKind.free)∈names){c:Addr}(hc:env.cells.lookup x=some c):(clOf env names []).lookup x=some c:=by
  obtain ⟨d,hd⟩:=clOf_has env names [] x h
  obtain ⟨e,he⟩:=lookup_of_mem hd
  have:=clOf_mem env names [] (fun p hp=>nomatch hp) _ (mem_of_lookup he)
  refine rg he ?_
  simp only [hc,Option.getD_some] at this
  refine rg this ?_; rfl
theorem closure_eq{scope:Scope}{env:Env}(h:∀x,(x,NameKind.free)∈scope.names→∃c,env.cells.lookup x=some c):closureFor scope env=pure (clOf env scope.names []):=by
  skip
  have key:∀(names:List (Str × NameKind)) (acc:List (Str × Addr)),(∀x,(x,NameKind.free)∈names→∃c,env.cells.lookup x=some c)→
      (forIn names acc (fun (x:Str × NameKind) (r:List (Str × Addr))=>match x with
        | (name,kind)=>if (kind==NameKind.free)=true then do let a ←cellOf env name; pure (ForInStep.yield ((name,a)::r)) else pure (ForInStep.yield r)):Sem _)=pure (clOf env names acc):=by
    intro names
    induction names with
    | nil=>intro acc _; rfl
    | cons p r ih=>
      intro acc hp
      obtain ⟨n,k⟩:=p
      rw [List.forIn_cons]
      unfold clOf
      cases hk:(k==NameKind.free) with
      | true=>
        have:k = .free:=by simpa using hk
        subst this
        obtain ⟨c,hc⟩:=hp n List.mem_cons_self
        dsimp only [beq_self_eq_true,if_true]
        have e1:cellOf env n=pure c:=by unfold cellOf; refine rg hc ?_; rfl
        refine rg e1 ?_; refine rg hc ?_
        exact ih _ fun x hx=>hp x (List.mem_cons_of_mem _ hx)
      | false=>
        simp only [hk,Bool.false_eq_true,if_false]
        exact ih _ fun x hx=>hp x (List.mem_cons_of_mem _ hx)
  have:=key scope.names [] h
  exact congrArg (fun m=>m >>= fun s=>(pure s:Sem (List (Str × Addr)))) this
end Mi
namespace Mi
noncomputable def relN(outer names:List (Str × NameKind)):List (Str × NameKind):=names.map fun (n,k)=>if (k == .free&&outer.lookup n==some .cell) then (n, .cell) else (n,k)
noncomputable def vOk(cx:Cx)(scope:Scope)(p:Str × VK)(j:Option Nat):Bool:=
  match p.2 with
  | .loc=>j.isNone
  | .cel=>j.isNone&&scope.names.contains (p.1, .cell)
  | .fre=>(match j with
      | some j=>(match cx.xs[j]? with
        | some (y,k)=>y==p.1&& !(decide (k = .loc))
        | none=>false)
      | none=>false)&&scope.names.contains (p.1, .free)&& !scope.names.contains (p.1, .cell)
structure CxIn(cx cx':Cx)(scope:Scope)(js:List (Option Nat)):Prop where
  kind:scope.kind = .function
  names:cx'.names=relN cx.names scope.names
  ok:cx'.ok=true
  locals:(scope.names.all fun x=> !(x.2 == .local)||(scope.names.lookup x.1==some .local))=true
  frees:(scope.names.all fun x=> !(x.2 == .free)||(cx.xs.any fun y=>y.1==x.1&& !(decide (y.2 = .loc))))=true
  len:js.length=cx'.xs.length
  vars:((cx'.xs.zip js).all fun p=>vOk cx scope p.1 p.2)=true
noncomputable def ρin(js:List (Option Nat))(ρ:List V):List V:=js.map fun j=>match j with
  | some j=>ρ.getD j .undef
  | none=> .undef
noncomputable def cenvOf(scope:Scope)(n:Nat)(env:Env):Env:=
  {newEnv scope n env.globals (cellsFrom (n+1) scope.names (clOf env scope.names [])) env.qual none .none (some env) builtinsNs with scope:=relabel scope env}
noncomputable def csOf(scope:Scope)(n:Nat)(env:Env)(xs:List (Str × VK)):List (Option Addr):=xs.map fun p=>match p.2 with
  | .loc=>none
  | .cel=>(cellsFrom (n+1) scope.names []).lookup p.1
  | .fre=>(clOf env scope.names []).lookup p.1
noncomputable def fmIn(cx':Cx)(scope:Scope)(n:Nat)(env:Env):Fm:=⟨cenvOf scope n env,csOf scope n env cx'.xs⟩
section
variable {G:Gd}{r:Nat}{cx cx':Cx}{fm:Fm}{W W':Addr→Prop}{μ μ' μ₁:List Addr}{h h':Heap}{ρ ρ' ρ₁:List V}{σ σ' σ₁:List AObj}{A:Around}{E:Value→Shared→Prop}{s s' s₁:Shared}{v:V}{b:Bool}{e:Expr}{fl:Fl}{scope:Scope}{js:List (Option Nat)}
theorem CxIn.var(C:CxIn cx cx' scope js){i:Nat}{p:Str × VK}(e:cx'.xs[i]?=some p):∃j,js[i]?=some j∧vOk cx scope p j=true:=by
  have hi:i<cx'.xs.length:=(List.getElem?_eq_some_iff.mp e).1
  have hj:i<js.length:=by refine rg C.len ?_; exact hi
  refine ⟨js[i],List.getElem?_eq_getElem hj,?_⟩
  have:=List.all_eq_true.mp C.vars (p,js[i]) (by
    refine zG (i:=i) ?_
    rw [List.getElem?_zip_eq_some]
    exact ⟨e,List.getElem?_eq_getElem hj⟩)
  exact this
theorem CxIn.fre(C:CxIn cx cx' scope js){i:Nat}{x:Str}(e:cx'.xs[i]?=some (x, .fre)):∃j k,js[i]?=some (some j)∧cx.xs[j]?=some (x,k)∧k ≠ .loc∧(x,NameKind.free)∈scope.names∧(x,NameKind.cell)∉scope.names:=by
  refine xe12 (C.var e) fun j e1 e2=>?_
  unfold vOk at e2
  simp only [Bool.and_eq_true,Bool.not_eq_true'] at e2
  obtain ⟨⟨e2,e3⟩,e4⟩:=e2
  split at e2
  · rename_i j
    split at e2
    · rename_i y k e5
      rw [Bool.and_eq_true,beq_iff_eq,Bool.not_eq_true',decide_eq_false_iff_not] at e2
      obtain ⟨rfl,hk⟩:=e2
      exact ⟨j,k,e1,e5,hk,by simpa using e3,by simpa using e4⟩
    · contradiction
  · contradiction
theorem CxIn.cel(C:CxIn cx cx' scope js){i:Nat}{x:Str}(e:cx'.xs[i]?=some (x, .cel)):js[i]?=some none∧(x,NameKind.cell)∈scope.names:=by
  refine xe12 (C.var e) fun j e1 e2=>?_
  unfold vOk at e2
  simp only [Bool.and_eq_true] at e2
  obtain ⟨e2,e3⟩:=e2
  cases j with
  | none=>exact ⟨e1,by simpa using e3⟩
  | some j=>contradiction
theorem CxIn.loc(C:CxIn cx cx' scope js){i:Nat}{x:Str}(e:cx'.xs[i]?=some (x, .loc)):js[i]?=some none:=by
  refine xe12 (C.var e) fun j e1 e2=>?_
  unfold vOk at e2
  cases j with
  | none=>exact e1
  | some j=>contradiction
theorem CxIn.closure(C:CxIn cx cx' scope js)(O:FmOk cx fm):closureFor scope fm.env=pure (clOf fm.env scope.names []):=by
  refine closure_eq fun x hx=>?_
  have:=List.all_eq_true.mp C.frees _ hx
  simp only [beq_self_eq_true,Bool.not_true,Bool.false_or,List.any_eq_true,Bool.and_eq_true,beq_iff_eq,Bool.not_eq_true',decide_eq_false_iff_not] at this
  obtain ⟨⟨y,k⟩,h1,rfl,h2⟩:=this
  obtain ⟨i,hi⟩:=List.getElem?_of_mem h1
  refine xe12 (O.cel i y k hi h2) fun c _ h3=>?_
  exact ⟨c,h3⟩
theorem CxIn.freC(C:CxIn cx cx' scope js)(O:FmOk cx fm){i:Nat}{x:Str}(e:cx'.xs[i]?=some (x, .fre)):∃j c,js[i]?=some (some j)∧fm.cs[j]?=some (some c)∧(clOf fm.env scope.names []).lookup x=some c∧∃k,cx.xs[j]?=some (x,k):=by
  refine xe25 (C.fre e) fun j k e1 e2 e3 e4 e5=>?_
  refine xe12 (O.cel j x k e2 e3) fun c h1 h2=>?_
  exact ⟨j,c,e1,h1,clOf_lookup _ _ e4 h2,k,e2⟩
theorem csOf_get{n:Nat}{env:Env}{xs:List (Str × VK)}{i:Nat}{p:Str × VK}(e:xs[i]?=some p):(csOf scope n env xs)[i]?=some (match p.2 with
  | .loc=>none
  | .cel=>(cellsFrom (n+1) scope.names []).lookup p.1
  | .fre=>(clOf env scope.names []).lookup p.1):=by
  skip; refine rg List.getElem?_map ?_; refine rg e ?_; rfl
theorem own_lookup(n:Nat){x:Str}(h:(x,NameKind.cell)∈scope.names):∃c,(cellsFrom n scope.names []).lookup x=some c∧(x,c)∈cellsFrom n scope.names []:=by
  obtain ⟨c,hc⟩:=cellsFrom_has scope.names n h
  obtain ⟨d,hd⟩:=lookup_of_mem hc
  exact ⟨d,hd,mem_of_lookup hd⟩
theorem own_none(n:Nat){x:Str}(h:(x,NameKind.cell)∉scope.names):(cellsFrom n scope.names []).lookup x=none:=by
  cases hq:(cellsFrom n scope.names []).lookup x with
  | none=>rfl
  | some c=>exact absurd (cellsFrom_mem _ _ (mem_of_lookup hq)) h
noncomputable abbrev inHeap(scope:Scope)(h:Heap):Heap:=pushCells (h.push {cls:= .type "dict",data:= .dict #[]}) scope.names
theorem inHeap_ok(scope:Scope)(h:Heap):CellsOk (inHeap scope h) (h.objs.size+1) (cellsFrom (h.objs.size+1) scope.names []):=by
  have ok:=cellsFrom_ok scope.names (h.push {cls:= .type "dict",data:= .dict #[]}) (h.objs.size+1) [] ⟨fun _ _ hm=>(nomatch hm),List.Pairwise.nil⟩ (by rw [Heap.size_push]; exact Nat.le_refl _)
  rw [Heap.size_push] at ok
  exact ok
theorem inHeap_keeps{a:Addr}{o:Obj}(e:h.get? a=some o):(inHeap scope h).get? a=some o:=pushCells_keeps _ _ _ _ (Heap.get?_push_of_some _ e)
theorem cs_inv(C:CxIn cx cx' scope js)(O:FmOk cx fm){n i:Nat}{c:Addr}(e:(csOf scope n fm.env cx'.xs)[i]?=some (some c)):∃x,(cx'.xs[i]?=some (x, .cel)∧(x,c)∈cellsFrom (n+1) scope.names []) ∨
    (cx'.xs[i]?=some (x, .fre)∧∃j k,js[i]?=some (some j)∧fm.cs[j]?=some (some c)∧cx.xs[j]?=some (x,k)):=by
  cases hq:cx'.xs[i]? with
  | none=>unfold csOf at e; rw [List.getElem?_map,hq] at e; contradiction
  | some p=>
    have e:=Option.some.inj ((csOf_get hq).symm.trans e)
    cases p with | mk x k=>cases k with
    | loc=>contradiction
    | cel=>exact ⟨x, .inl ⟨rfl,mem_of_lookup e⟩⟩
    | fre=>exact xe24 (C.freC O hq) fun j c' h1 h2 h3 h=>h.elim fun k h4=>⟨x, .inr ⟨rfl,j,k,h1,Option.some.inj (h3.symm.trans e)▸h2,h4⟩⟩
theorem ρin_get{i:Nat}(e:(ρin js ρ)[i]?=some v)(hv:v ≠ .undef):∃j,js[i]?=some (some j)∧ρ[j]?=some v:=by
  unfold ρin at e
  rw [List.getElem?_map] at e
  cases hq:js[i]? with
  | none=>rw [hq] at e; contradiction
  | some o=>
    rw [hq] at e
    have e:=Option.some.inj e
    cases o with
    | none=>exact absurd e.symm hv
    | some j=>
      have e:(ρ[j]?).getD .undef=v:=List.getD_eq_getElem?_getD.symm.trans e
      cases hq:ρ[j]? with
      | none=>rw [hq] at e; exact absurd e.symm hv
      | some w=>rw [hq] at e; exact ⟨j,rfl,hq.trans (congrArg some e)⟩
theorem fmIn_ok(C:CxIn cx cx' scope js)(O:FmOk cx fm)(n:Nat)(hn:∀(i:Nat) (c:Addr),fm.cs[i]?=some (some c)→c<n)(h:Heap)(hh:h.objs.size=n):FmOk cx' (fmIn cx' scope n fm.env) where
  ok:=C.ok
  kind:=C.kind
  names:=by
    show (relabel scope fm.env).names=cx'.names
    refine rg C.names ?_
    unfold relabel relN
    refine List.map_congr_left fun p _=>?_
    obtain ⟨x,k⟩:=p
    simp only [O.kind,beq_self_eq_true,Bool.and_true]
    rw [O.kindOf]
  glob:=O.glob
  blt:=O.blt
  loc:=fun i x e=>csOf_get e
  cel:=fun i x k e hk=>by
    cases k with
    | loc=>exact absurd rfl hk
    | cel=>
      obtain ⟨_,h2⟩:=C.cel e
      refine xe12 (own_lookup (n+1) h2) fun c h3 _=>?_
      refine ⟨c,(csOf_get e).trans (by simp only [h3]),?_⟩
      show (cellsFrom (n+1) scope.names (clOf fm.env scope.names [])).lookup x=some c
      rw [zS,ZC,h3]; rfl
    | fre=>
      refine xe24 (C.freC O e) fun j c h1 h2 h3 _=>?_
      refine xe25 (C.fre e) fun _ _ _ _ _ _ h5=>?_
      refine ⟨c,(csOf_get e).trans (by simp only [h3]),?_⟩
      show (cellsFrom (n+1) scope.names (clOf fm.env scope.names [])).lookup x=some c
      rw [zS,ZC,own_none _ h5,h3]; rfl
  dist:=fun i j c e1 e2=>by
    have ok:=inHeap_ok scope h
    rw [hh] at ok
    have lt:∀{x:Str},(x,c)∈cellsFrom (n+1) scope.names []→n<c:=fun m=>(ok.empty _ c m).2
    refine (cs_inv C O e1).elim fun x hx=>(cs_inv C O e2).elim fun y hy=>hx.elim (fun hx=>hy.elim (fun hy=>Cx.inj (k':= .cel) C.ok hx.1 (name_of_addr ok.apart hx.2 hy.2▸hy.1)) fun hy=>xe23 hy.2 fun k _ _ h _=>absurd (hn k c h) (Nat.lt_asymm (lt hx.2)))
      fun hx=>xe23 hx.2 fun k _ _ h x4=>hy.elim (fun hy=>absurd (hn k c h) (Nat.lt_asymm (lt hy.2))) fun hy=>xe23 hy.2 fun k' _ _ h' y4=>Cx.inj (k':= .fre) C.ok hx.1 ?_
    have:=O.dist k k' c h h'
    subst this
    exact (Prod.mk.inj (Option.some.inj (x4.symm.trans y4))).1▸hy.1
theorem inHeap_inv(I:Inv G μ σ s):Inv G μ σ {s with heap:=inHeap scope s.heap}∧Step W0 μ μ s.heap (inHeap scope s.heap):=by
  have:=I.kept (h':=inHeap scope s.heap) (fun b o e=>inHeap_keeps e) (Nat.le_trans (by simp) (pushCells_size scope.names _)) s.toks
  exact this
theorem own_in(C:CxIn cx cx' scope js)(h:Heap){a:Addr}(q:Own cx' (fmIn cx' scope h.objs.size fm.env) a):h.objs.size≤a:=by
  refine q.elim (fun q=>Nat.le_of_eq q.symm) fun q=>xe22 q fun i x e1 e2=>?_
  exact Nat.le_of_succ_le ((inHeap_ok scope h).empty x a (mem_of_lookup (Option.some.inj ((csOf_get e1).symm.trans e2)))).2
theorem cs_in(C:CxIn cx cx' scope js)(O:FmOk cx fm)(h:Heap){i:Nat}{c:Addr}(e:(csOf scope h.objs.size fm.env cx'.xs)[i]?=some (some c)):h.objs.size≤c∨∃j:Nat,fm.cs[j]?=some (some c):=
  (cs_inv C O e).elim fun x q=>q.imp (fun q=>Nat.le_of_succ_le ((inHeap_ok scope h).empty x c q.2).2) fun q=>xe23 q.2 fun j _ _ h _=>⟨j,h⟩
theorem fmIn_fr(C:CxIn cx cx' scope js)(O:FmOk cx fm)(I:Inv G μ σ s)(F:FR G cx fm μ s.heap ρ):FR G cx' (fmIn cx' scope s.heap.objs.size fm.env) μ (inHeap scope s.heap) (ρin js ρ):=by
  refine F.elim fun m F=>?_
  have ok:=inHeap_ok scope s.heap
  refine ⟨fun _=>none,(Heap.Ns.new s.heap (.type "dict")).keeps (pushCells_keeps _ _),I.fresh,fun a q=>I.fresh0 (own_in C s.heap q),fun i c e=>?_,?_,fun i x v e1 e2 e3=>?_,fun i c v e1 e2 e3=>?_⟩
  · refine (cs_inv C O e).elim fun x q=>q.elim (fun q=>?_) fun q=>xe23 q.2 fun j _ _ h _=>?_
    · have:=ok.empty x c q.2
      exact ⟨fun q=>absurd (I.new c q).2 (Nat.not_lt.mpr (Nat.le_of_succ_le this.2)),Nat.ne_of_gt this.2,none,this.1⟩
    · exact (F.cells j c h).elim fun h4 q=>q.elim fun _ q=>q.elim fun o h6=>⟨h4,Nat.ne_of_lt h6.lt,o,h6.keeps fun b o e=>inHeap_keeps e⟩
  · exact List.length_map _ |>.trans C.len
  · exact (ρin_get e2 e3).elim fun j q=>nomatch (C.loc e1).symm.trans q.1
  · refine xe12 (ρin_get e2 e3) fun j q1 q2=>(cs_inv C O e1).elim fun x q=>q.elim (fun q=>nomatch (C.cel q.1).1.symm.trans q1) fun q=>xe23 q.2 fun j' _ h3 h4 _=>?_
    have hj:j'=j:=Option.some.inj (Option.some.inj (h3.symm.trans q1))
    subst hj
    exact xe12 (F.celv j' c v h4 q2 e3) fun y h5 h6=>⟨y,h5.keeps fun b o e=>inHeap_keeps e,h6.step (inHeap_inv (scope:=scope) I).2⟩
theorem nfe_comp{env:Env}{cl:List (Str × Addr)}{M:Model}{Q:Env→Shared→Prop}
    (hQ:Q (newEnv scope s.heap.objs.size env.globals (cellsFrom (s.heap.objs.size+1) scope.names cl) env.qual none .none (some env) builtinsNs) {s with heap:=inHeap scope s.heap}) :
    wpAny M A (newFunctionEnv scope env.globals cl [] env.qual none .none (some env)) Q E s:=by
  simp only [newFunctionEnv,Option.isSome_some,if_true]
  refine wpAny_bind (wpAny_alloc ?_)
  refine wpAny_bind (wpAny_layCells _ (fun name kind cells=>by cases hkc:kind==NameKind.cell <;> dsimp [hkc]) _ _ _ _ ?_)
  rw [show ({s with heap:=s.heap.push {cls:= .type "dict",data:= .dict #[]}}:Shared).heap.objs.size=s.heap.objs.size+1 from Heap.size_push ..]
  exact wpAny_bind (wpAny_pure (wpAny_pure hQ))
end
end Mi
namespace Mi
open MeetsSeq MeetsSeq2 MeetsSeq3 SeqRoads2 SeqAt
noncomputable abbrev CB:=List V→List AObj→Option (List V × List AObj)
noncomputable def SIfs(G:Gd)(r:Nat)(cx:Cx)(ifs:List Expr)(c:BF):Prop:=
  ∀(A:Around) (fm:Fm) (μ:List Addr) (ρ:List V) (σ:List AObj) (s:Shared) (b:Bool) (σ':List AObj),AOk r A→FmOk cx fm→Inv G μ σ s→FR G cx fm μ s.heap ρ→c ρ σ=some (b,σ')→
    wpAny (model G.prog G.w) A (ifsC ifs fm.env true) (GoodB G μ s b σ') (fun _ _=>False) s
noncomputable def GoodC(G:Gd)(W:Addr→Prop)(cx:Cx)(fm:Fm)(μ:List Addr)(s:Shared)(ρ':List V)(σ':List AObj)(s':Shared):Prop:=
  ∃μ',Step W μ μ' s.heap s'.heap∧Inv G μ' σ' s'∧FR G cx fm μ' s'.heap ρ'
noncomputable def SC(G:Gd)(r:Nat)(cx:Cx)(m:Env→Value→Sem Unit)(body:Nat→CB):Prop:=
  ∀(A:Around) (fm:Fm) (μ:List Addr) (ρ:List V) (σ:List AObj) (s:Shared) (ρ':List V) (σ':List AObj) (l:Nat) (D:Addr),AOk r A→FmOk cx fm→Inv G μ σ s→FR G cx fm μ s.heap ρ→μ[l]?=some D→body l ρ σ=some (ρ',σ')→
    wpAny (model G.prog G.w) A (m fm.env (.ref D)) (fun _ s'=>GoodC G (Own cx fm) cx fm μ s ρ' σ' s') (fun _ _=>False) s
section
variable {G:Gd}{r:Nat}{cx cx':Cx}{fm:Fm}{W W':Addr→Prop}{μ μ' μ₁ μ₀:List Addr}{h h':Heap}{ρ ρ' ρ₁:List V}{σ σ' σ₁ σ₀:List AObj}{A:Around}{E:Value→Shared→Prop}{s s' s₁:Shared}{v:V}{b:Bool}{e:Expr}{fl:Fl}{scope:Scope}{js:List (Option Nat)}
theorem ifs_false(ifs:List Expr)(env:Env):ifsC ifs env false=pure false:=by
  induction ifs with
  | nil=>rfl
  | cons c r ih=>
    show (forIn (c::r) false _:Sem Bool)=_
    rw [List.forIn_cons]
    exact ih
noncomputable def zU:BF:=fun _ σ=>some (true,σ)
theorem z9:SIfs G r cx [] zU:=fun A fm μ ρ σ s b σ' a O I F hf=>by
  cases hf
  show wpAny _ _ (pure true) _ _ _
  exact wpAny_pure (show GoodB G μ s true σ true s from ⟨rfl,μ,Step.refl,I⟩)
noncomputable def fIf1(c d:BF):BF:=fun ρ σ=>match c ρ σ with
  | some (true,σ)=>d ρ σ
  | some (false,σ)=>some (false,σ)
  | none=>none
theorem sifs_cons{c:Expr}{ifs:List Expr}{fc fd:BF}(hc:SB G r cx c fc)(hd:SIfs G r cx ifs fd):SIfs G r cx (c::ifs) (fIf1 fc fd):=fun A fm μ ρ σ s b σ' a O I F hf=>by
  unfold ifsC
  rw [List.forIn_cons]
  unfold fIf1 at hf
  split at hf
  · rename_i σ₁ e1
    refine wpAny_bind (wpAny_bind (hc.use a O I F e1 fun s₁ μ₁ st₁ I₁ F₁=>wpAny_pure ?_))
    exact wpAny_mono (hd A fm μ₁ ρ σ₁ s₁ b σ' a O I₁ F₁ hf) (fun _ _ g=>g.after st₁) fun _ _ x=>x
  · rename_i σ₁ e1
    cases hf
    refine wpAny_bind (wpAny_bind (hc.use a O I F e1 fun s₁ μ₁ st₁ I₁ F₁=>wpAny_pure ?_))
    exact wpAny_of_eq (ifs_false _ _) (show GoodB G μ s false _ false s₁ from ⟨rfl,μ₁,st₁,I₁⟩)
  · contradiction
noncomputable abbrev emitM(elt:Expr)(env:Env)(acc:Value):Sem Unit:=eval elt env >>= fun x=>call (.builtin "list.append") [acc,x] >>= fun _=>pure ()
noncomputable def zY(el:EF)(l:Nat):CB:=fun ρ σ=>match el ρ σ with
  | some (w,σ)=>match σ[l]? with
    | some (.list ws)=>if ws.length<LIM then some (ρ,σ.set l (.list (ws++ [w]))) else none
    | _=>none
  | none=>none
theorem sc_emit{elt:Expr}{el:EF}(he:SE G r cx elt el):SC G r cx (emitM elt) (zY el):=fun A fm μ ρ σ s ρ' σ' l D a O I F hD hf=>by
  unfold zY at hf
  split at hf
  · rename_i w σ₁ e1
    split at hf
    · rename_i ws e2
      split at hf
      · rename_i hl
        cases hf
        refine wpAny_bind (he.use a O I F e1 fun y s₁ μ₁ st₁ I₁ F₁ q₁=>wpAny_bind ?_)
        have hD₁:=st₁.getl hD
        refine xe23 (I₁.obj l D _ hD₁ e2) fun items n h2 h3 h4=>?_
        have hlen:=h4.length
        have:=yd
        refine call_meets PySem.F.slot_list_append ⟨_,h2,rfl⟩ PySem.F.entry_list_append (PySem.F.args_list_append_2 _ _) (list_append D items.toArray n y (by refine rg List.size_toArray ?_; lia)) ⟨h2,?_⟩
        refine wpAny_pure ?_
        refine xe13 (Good.upd (v:= .none) (y:= .none) I₁ hD₁ h2 (·.push y) (items':=items++ [y]) (by simp) (by simp; assumption) (h4.append (VRs.one q₁)) s₁.toks rfl) fun μ₂ st₂ I₂ _=>?_
        exact ⟨μ₂,(st₁.trans st₂).of0,I₂,F₁.step0 st₂⟩
      · contradiction
    · contradiction
  · contradiction
noncomputable def y5(g:TF)(c:BF)(body:CB):List V→CB
  | [],ρ,σ=>some (ρ,σ)
  | v::vs,ρ,σ=>match g v ρ with
    | some ρ=>match c ρ σ with
      | some (true,σ)=>match body ρ σ with
        | some (ρ,σ)=>y5 g c body vs ρ σ
        | none=>none
      | some (false,σ)=>y5 g c body vs ρ σ
      | none=>none
    | none=>none
theorem cLoop_inv{g:TF}{c:BF}{body:CB}{vs:List V}{x:List V × List AObj}(h:y5 g c body (v::vs) ρ σ=some x):∃ρ₁ σ₁,g v ρ=some ρ₁ ∧
    ((c ρ₁ σ=some (false,σ₁)∧y5 g c body vs ρ₁ σ₁=some x)∨(c ρ₁ σ=some (true,σ₁)∧∃ρ₂ σ₂,body ρ₁ σ₁=some (ρ₂,σ₂)∧y5 g c body vs ρ₂ σ₂=some x)):=by
  dsimp only [y5] at h
  split at h
  · rename_i ρ₁ e
    split at h
    · rename_i σ₁ e1
      split at h
      · rename_i ρ₂ σ₂ e2; exact ⟨ρ₁,σ₁,e, .inr ⟨e1,ρ₂,σ₂,e2,h⟩⟩
      · contradiction
    · rename_i σ₁ e1; exact ⟨ρ₁,σ₁,e, .inl ⟨e1,h⟩⟩
    · contradiction
  · contradiction
theorem cLoop_end{g:TF}{c:BF}{body:CB}{vs:List V}{x:List V × List AObj}(h:y5 g c body vs ρ σ=some x)(e:vs= []):x=(ρ,σ):=by
  subst e; exact (Option.some.inj h).symm
noncomputable def Bridge(G:Gd)(elt:Expr)(gens:List Comprehension)(scope:Scope)(pos:Pos)(d:Nat)(m:Env→Value→Sem Unit):Prop:=
  ∀(it acc:Value) (env:Env) (A:Around) (s:Shared) (Q:Fin→Shared→Prop) (E:Value→Shared→Prop),wpAny (model G.prog G.w) A (m env acc) (fun _ s'=>wpAny (model G.prog G.w) A (again (.compLoop (.ListComp elt gens scope pos) d it acc env)) Q E s') E s→
      wpAny (model G.prog G.w) A (compBody elt gens scope pos d it acc env) Q E s
noncomputable def CondQ(p q:Prop):Bool→Prop
  | true=>p
  | false=>q
noncomputable def CompQ(G:Gd)(A:Around)(t:Expr)(ifs:List Expr)(m:Env→Value→Sem Unit)(itv acc:Value)(env:Env)(Q P:Shared→Prop):Option Value→Shared→Prop
  | none,s=>Q s
  | some v,s=>wpAny (model G.prog G.w) A (letOwnedTupleGo t itv v) (fun _ s=>wpAny (model G.prog G.w) A (assign t env v) (fun _ s=>wpAny (model G.prog G.w) A (ifsC ifs env true) (fun b s=>CondQ (wpAny (model G.prog G.w) A (m env acc) (fun _ s=>P s) (fun _ _=>False) s) (P s) b) (fun _ _=>False) s) (fun _ _=>False) s) (fun _ _=>False) s
theorem compT{elt t iter:Expr}{gens:List Comprehension}{scope:Scope}{pos:Pos}{d:Nat}{ifs:List Expr}{m:Env→Value→Sem Unit}{itv acc:Value}{env:Env}{Q:Shared→Prop}(hg:gens[d]?=some ⟨t,iter,ifs,0⟩)(hm:Bridge G elt gens scope pos d m)(I:Nat→Shared→Prop)
    (turn:∀n s,I n s→wpAny (model G.prog G.w) A (pyNext itv) (CompQ G A t ifs m itv acc env Q (Less I n)) (fun _ _=>False) s) (n:Nat) (h:I n s) :
    codeAny (model G.prog G.w) A (.compLoop (.ListComp elt gens scope pos) d itv acc env) (fun r s'=>r = .ok .next∧Q s') s:=by
  refine codeAny_loop' rfl I (fun n s hI=>?_) n h
  refine wpAny_noted (m:=compTurn (.ListComp elt gens scope pos) d itv acc env) ?_
  rw [turn_eq elt gens d t iter ifs hg]
  refine wpAny_bind (wpAny_standAt (wpAny_bind (wpAny_mono (turn n s hI) (fun r s₁ h₁=>?_) fun _ _ x=>x.elim)))
  cases r with
  | none=>exact wpAny_pure ⟨rfl,h₁⟩
  | some v=>
    refine wpAny_bind (wpAny_mono h₁ (fun _ s₁ h₁=>wpAny_bind (wpAny_mono h₁ (fun _ s₂ h₂=>wpAny_bind (wpAny_mono h₂ (fun b s₃ h₃=>?_) fun _ _ h'=>h'.elim)) fun _ _ h'=>h'.elim)) fun _ _ h'=>h'.elim)
    cases b with
    | true=>exact hm _ _ _ _ _ _ _ (wpAny_mono h₃ (fun _ s₄ h₄=>wpAny_pure (.inl ⟨rfl,h₄⟩)) fun _ _ x=>x.elim)
    | false=>exact wpAny_pure (.inl ⟨rfl,h₃⟩)
theorem comp_loop{elt t iter:Expr}{gens:List Comprehension}{scope:Scope}{pos:Pos}{d:Nat}{ifs:List Expr}{m:Env→Value→Sem Unit}{body:Nat→CB}{g:TF}{c:BF}(hg:gens[d]?=some ⟨t,iter,ifs,0⟩)
    (ht:ST G r cx t g) (hc:SIfs G r cx ifs c) (hb:SC G r cx m body) (hm:Bridge G elt gens scope pos d m)
    {vs:List V} {it:Addr} {fp:List Addr} {P:Nat→Value→Prop} {St:Nat→Heap→Prop} {lo:Nat} {l:Nat} {D:Addr} {μ₀':List Addr} {h₀:Heap} (a:AOk r A) (O:FmOk cx fm) (I₀:Inv G μ₀ σ₀ s) (F₀:FR G cx fm μ₀ s.heap ρ) (J:It G r μ₀' h₀ lo it vs fp P St) (hJ:Step (fun a=>Own cx fm a∨a=it) μ₀' μ₀ h₀ s.heap) (f₀:Fp μ₀ s.heap it fp) (q₀:St 0 s.heap)
    (hD:μ₀[l]?=some D) (hlo:∀a,Own cx fm a→a≠it) (hcs:∀(i:Nat) (c:Addr),fm.cs[i]?=some (some c)→c≠it) (hn:G.h0.get? it=none) (hf:y5 g c (body l) vs ρ σ₀=some (ρ',σ')) :
    codeAny (model G.prog G.w) A (.compLoop (.ListComp elt gens scope pos) d (.ref it) (.ref D) fm.env) (fun r s'=>r = .ok .next∧GoodC G (fun a=>Own cx fm a∨a=it) cx fm μ₀ s ρ' σ' s') s:=by
  refine compT hg hm (fun k s₁=> ∃i μ₁ ρ₁ σ₁,ForI G cx fm μ₀ s.heap it fp St vs.length (fun i ρ σ=>y5 g c (body l) (vs.drop i) ρ σ=some (ρ',σ')) k s₁ i μ₁ ρ₁ σ₁) (fun k s₁ h=>xe41 h fun i μ₁ ρ₁ σ₁ H=>?_) (vs.length+1) ⟨0,μ₀,ρ,σ₀,rfl,Nat.zero_le _,Step.refl,I₀,F₀,f₀,q₀,hf⟩
  have hF:∀{μ' s'},Step (· = it) μ₁ μ' s₁.heap s'→FR G cx fm μ' s' ρ₁:=fun st=>H.F.step st (hlo _ (.inl rfl)) hcs
  by_cases hi':i<vs.length
  · refine xe22 (cLoop_inv ((congrArg (fun l'=>y5 g c (body l) l' ρ₁ σ₁) (List.drop_eq_getElem_cons hi')).symm.trans H.h)) fun ρ₄ σ₅ e4 hr=>it_next J a H.I (hJ.trans H.st) H.f hn H.q hi' fun v y s₃ ev qv st₃ I₃ f₃ q₃=>xe12 (J.lot _ _ q₃) fun o ho hl=>lot_goes ho hl ?_
    refine wpAny_mono (ht A fm μ₁ ρ₁ ρ₄ σ₁ s₃ v y a O I₃ (hF st₃) qv (Option.some.inj ((List.getElem?_eq_getElem hi').symm.trans ev)▸e4)) (fun _ s₄ g₄=>?_) fun _ _ x=>x.elim
    have st14:Step (fun a=>Own cx fm a∨a=it) μ₀ μ₁ s.heap s₄.heap:=(H.st.trans (st₃.weaken fun _ _ q=> .inr q)).trans (g₄.1.weaken fun _ _ q=> .inl q)
    have nx:∀{μ₆ s₆ ρ₆ σ₆},Step (Own cx fm) μ₁ μ₆ s₄.heap s₆.heap→Inv G μ₆ σ₆ s₆→FR G cx fm μ₆ s₆.heap ρ₆→y5 g c (body l) (vs.drop (i+1)) ρ₆ σ₆=some (ρ',σ')→Less (fun k s₁=> ∃i μ₁ ρ₁ σ₁,ForI G cx fm μ₀ s.heap it fp St vs.length (fun i ρ σ=>y5 g c (body l) (vs.drop i) ρ σ=some (ρ',σ')) k s₁ i μ₁ ρ₁ σ₁) k s₆:=
      fun st I F h=>ForI.mk' H.hk hi' (st14.trans (st.weaken fun _ _ q=> .inl q)) I F (f₃.step (g₄.1.trans st) ho) (f₃.st J a (g₄.1.trans st) (fun q=>hlo _ q rfl) q₃) h
    refine hr.elim (fun hr=>wpAny_mono (hc A fm μ₁ ρ₄ σ₁ s₄ _ _ a O g₄.2.2 g₄.2.1 hr.1) (fun b s₅ g₅=>g₅.1▸xe12 g₅.2 fun μ₅ st₅ I₅=>nx st₅.of0 I₅ (g₄.2.1.step0 st₅) hr.2) fun _ _ x=>x.elim)
      fun hr=>xe22 hr.2 fun ρ₆ σ₆ e6 h=>wpAny_mono (hc A fm μ₁ ρ₄ σ₁ s₄ _ _ a O g₄.2.2 g₄.2.1 hr.1) (fun b s₅ g₅=>g₅.1▸xe12 g₅.2 fun μ₅ st₅ I₅=>?_) fun _ _ x=>x.elim
    exact wpAny_mono (hb A fm μ₅ ρ₄ σ₅ s₅ _ _ l D a O I₅ (g₄.2.1.step0 st₅) ((st14.trans st₅.of0).getl hD) e6) (fun _ s₆ g₆=>xe13 g₆ fun μ₆ st₆ I₆ F₆=>nx (st₅.of0.trans st₆) I₆ F₆ h) fun _ _ x=>x.elim
  · exact it_done J a H.I H.f hn (Nat.le_antisymm H.hi (Nat.not_lt.mp hi')▸H.q) fun s₃ st₃ I₃=>pr2 (cLoop_end H.h (List.drop_eq_nil_of_le (Nat.not_lt.mp hi'))) ⟨μ₁,H.st.trans (st₃.weaken fun _ _ q=> .inr q),I₃,hF st₃⟩
theorem comp_start{elt t iter:Expr}{gens:List Comprehension}{scope:Scope}{pos:Pos}{d:Nat}{ifs:List Expr}{it:Addr}{acc:Value}{env:Env}{R:Result→Shared→Prop}(hg:gens[d]?=some ⟨t,iter,ifs,0⟩)
    (hi:∀{E:Value→Shared→Prop} {Q:Value→Shared→Prop},Q (.ref it) s→wpAny (model G.prog G.w) A (pyIter (.ref it)) Q E s)
    (h0:codeAny (model G.prog G.w) A (.compLoop (.ListComp elt gens scope pos) d (.ref it) acc env) R s) :
    codeAny (model G.prog G.w) A (.compStart (.ListComp elt gens scope pos) d (.ref it) acc env) R s:=by
  refine codeAny_of_tree ?_
  show wpAny _ _ ((compStart (.ListComp elt gens scope pos) d (.ref it) acc env).onRaise (fun x=>do noteFrame x env; standAt theWindowsPlace)) _ _ s
  refine wpAny_notedAt ?_
  have hcl:(clausesOf (.ListComp elt gens scope pos))[d]?=some ⟨t,iter,ifs,0⟩:=hg
  unfold compStart
  simp only [hcl]
  refine wpAny_bind (wpAny_askSetting (wpAny_ite ?_))
  split
  · first
      | exact wpAny_bind (wpAny_pure (wpAny_pure (And.intro rfl h0)))
      | exact wpAny_pure (And.intro rfl h0)
  · refine wpAny_bind (wpAny_rule ?_)
    exact wpAny_bind (wpAny_standAt (wpAny_bind (hi (wpAny_pure (And.intro rfl h0)))))
end
end Mi
namespace Mi
open MeetsSeq MeetsSeq2 MeetsSeq3 SeqRoads2 SeqAt
noncomputable def SCat(G:Gd)(r:Nat)(cx:Cx)(elt:Expr)(gens:List Comprehension)(scope:Scope)(pos:Pos)(d:Nat)(body:Nat→CB):Prop:= ∃m,SC G r cx m body∧Bridge G elt gens scope pos d m
noncomputable def fNest(f:EsF)(g:TF)(c:BF)(body:Nat→CB)(l:Nat):CB:=fun ρ σ=>match f ρ σ with
  | some (vs,σ)=>y5 g c (body l) vs ρ σ
  | none=>none
section
variable {G:Gd}{r:Nat}{cx cx':Cx}{fm:Fm}{W W':Addr→Prop}{μ μ' μ₁ μ₀ ν:List Addr}{h h':Heap}{ρ ρ' ρ₁:List V}{σ σ' σ₁ σ₀:List AObj}{A:Around}{E:Value→Shared→Prop}{s s' s₁:Shared}{v:V}{b:Bool}{e:Expr}{fl:Fl}{scope:Scope}{js:List (Option Nat)}
  {elt t iter:Expr} {gens:List Comprehension} {pos:Pos} {d:Nat} {ifs:List Expr}
theorem ym{el:EF}(he:SE G r cx elt el)(hg:gens[d+1]?=none:=by rfl):SCat G r cx elt gens scope pos d (zY el):=
  ⟨emitM elt,sc_emit he,fun it acc env A s Q E h=>by unfold compBody; refine rg hg ?_; exact wpAny_bind h⟩
noncomputable abbrev nestM(elt:Expr)(gens:List Comprehension)(scope:Scope)(pos:Pos)(d:Nat)(iter:Expr)(env:Env)(acc:Value):Sem Unit:=do
  let x ←eval iter env
  standAt iter.pos
  let x ←foldedSetIterable iter env x
  let _ ←runOwn (.compStart (.ListComp elt gens scope pos) (d+1) (←holding [x] (pyIter x)) acc env) env
  pure ()
theorem fNest_inv{f:EsF}{g:TF}{c:BF}{body:Nat→CB}{l:Nat}{x:List V × List AObj}(h:fNest f g c body l ρ σ=some x):∃vs σ₁,f ρ σ=some (vs,σ₁)∧y5 g c (body l) vs ρ σ₁=some x:=by
  unfold fNest at h
  split at h
  · rename_i vs σ₁ e1; exact ⟨vs,σ₁,e1,h⟩
  · contradiction
theorem sca_nest{f:EsF}{g:TF}{c:BF}{body:Nat→CB}(hi:SI G r cx iter f)(ht:ST G r cx t g)(hc:SIfs G r cx ifs c)(hb:SCat G r cx elt gens scope pos (d+1) body)(hg:gens[d+1]?=some ⟨t,iter,ifs,0⟩:=by rfl) :
    SCat G r cx elt gens scope pos d (fNest f g c body):=by
  refine hb.elim fun m h=>h.elim fun hm hbr=>⟨nestM elt gens scope pos d iter,fun A fm μ ρ σ s ρ' σ' l D a O I F hD hf=>?_,fun it acc env A s Q E h=>?_⟩
  · refine xe22 (fNest_inv hf) fun vs σ₀ e1 hf=>wpAny_bind (wpAny_mono (hi.2 A fm μ ρ σ s vs σ₀ a O I F e1) (fun x s₁ q=>wpAny_bind (wpAny_standAt ?_)) fun _ _ x=>x)
    rw [hi.1]
    refine wpAny_bind (wpAny_pure (wpAny_bind (wpAny_holding (wpAny_mono q (fun y s₂ q=>?_) fun _ _ x=>x))))
    refine xe13 q fun μ₀ st₀ I₀ q=>xe44 q fun it fp P St e J f₀ q₀=>e▸wpAny_bind (wpAny_onRaise (wpAny_run (codeAny_mono (comp_start hg (fun h=>(J.walks A a).self 0 _ _ _ q₀ h) (comp_loop hg ht hc hm hbr a O I₀ (F.step0 st₀) J Step.refl f₀ q₀ (st₀.getl hD) (fun a q e=>absurd (Own.lt F q) (Nat.not_lt.mpr (e▸J.fresh))) (fun i c e q=>absurd (Zp F e) (Nat.not_lt.mpr (q▸J.fresh))) (I.fresh0 J.fresh) hf)) fun r s' q=>?_)))
    refine q.1▸xe13 q.2 fun μ₃ st₃ I₃ F₃=>wpAny_pure ⟨μ₃,(st₀.of0.trans st₃).weaken fun a ha q=>q.elim id fun e=>absurd ha (Nat.not_lt.mpr (e▸J.fresh)),I₃,F₃⟩
  · unfold compBody
    refine rg hg ?_
    have h:=wpAny_bind (f:=fun _=>again (.compLoop (.ListComp elt gens scope pos) d it acc env)) h
    simp only [nestM,bind_assoc,pure_bind] at h
    dsimp only [bne_self_eq_false,Bool.false_eq_true,if_false]
    exact h
mutual
noncomputable def V.blw(n:Nat):V→Bool
  | .tup vs=>V.blws n vs
  | .lst vs=>V.blws n vs
  | .loc l=>decide (l<n)
  | _=>true
noncomputable def V.blws(n:Nat):List V→Bool
  | []=>true
  | v::vs=>V.blw n v&&V.blws n vs
end
mutual
theorem VR.blw:∀{v:V} {y:Value},VR G μ h v y→V.blw μ.length v=true
  | .undef=>fun q=>q.elim
  | .none=>fun _=>rfl
  | .bool _=>fun _=>rfl
  | .int _=>fun _=>rfl
  | .str _=>fun _=>rfl
  | .tup _=>fun q=>xe32 q fun _ _ _ _ q=>VRs.blw q.2.2.2
  | .lst _=>fun q=>xe32 q fun _ _ _ _ q=>VRs.blw q.2.2.2
  | .loc _=>fun q=>xe12 q fun _ e _=>decide_eq_true (List.getElem?_eq_some_iff.mp e).1
  | .cst _=>fun _=>rfl
theorem VRs.blw:∀{vs:List V} {ys:List Value},VRs G μ h vs ys→V.blws μ.length vs=true
  | []=>fun _=>rfl
  | _::_=>fun q=>xe23 q fun _ _ _ q1 q2=>Bool.and_eq_true_iff.mpr ⟨VR.blw q1,VRs.blw q2⟩
end
mutual
theorem VR.cutN:∀{v:V} {y:Value},VR G (μ++ν) h v y→V.blw μ.length v=true→VR G μ h v y
  | .undef=>fun q _=>q.elim
  | .none=>fun q _=>q
  | .bool _=>fun q _=>q
  | .int _=>fun q _=>q
  | .str _=>fun q _=>q
  | .tup _=>fun q b=>xe35 q fun a items n e1 e2 e3 e4 q=>⟨a,items,n,e1,fun h=>e2 (List.mem_append_left _ h),e3,e4,VRs.cutN q b⟩
  | .lst _=>fun q b=>xe35 q fun a items n e1 e2 e3 e4 q=>⟨a,items,n,e1,fun h=>e2 (List.mem_append_left _ h),e3,e4,VRs.cutN q b⟩
  | .loc _=>fun q b=>xe12 q fun a e e'=>⟨a,(List.getElem?_append_left (of_decide_eq_true b)).symm.trans e,e'⟩
  | .cst _=>fun q _=>q
theorem VRs.cutN:∀{vs:List V} {ys:List Value},VRs G (μ++ν) h vs ys→V.blws μ.length vs=true→VRs G μ h vs ys
  | []=>fun q _=>q
  | _::_=>fun q b=>xe23 q fun y ys e q1 q2=>⟨y,ys,e,VR.cutN q1 (Bool.and_eq_true_iff.mp b).1,VRs.cutN q2 (Bool.and_eq_true_iff.mp b).2⟩
end
noncomputable def AObj.blw(n:Nat):AObj→Bool
  | .list vs=>V.blws n vs
  | .ns fs=>fs.all fun p=>match fs.lookup p.1 with
    | some v=>V.blw n v
    | none=>true
  | .bnd=>true
  | .cit _ lb=>decide (lb<n)
theorem ORel.blw{a:Addr}{o:AObj}(q:ORel G μ h a o):AObj.blw μ.length o=true:=by
  cases o with
  | list vs=>refine xe23 q fun _ _ _ _ e5=>?_; exact VRs.blw e5
  | ns fs=>
    refine xe13 q fun _ _ _ e6=>?_
    refine List.all_eq_true.mpr fun p hp=>?_
    split
    · rename_i v hv
      refine xe12 (e6 p.1 v hv) fun _ _ e9=>?_
      exact VR.blw e9
    · rfl
  | bnd=>rfl
  | cit live lb=>
    refine xe22 q fun m t e1 _=>?_
    exact decide_eq_true (List.getElem?_eq_some_iff.mp e1).1
theorem ORel.cut{a:Addr}{o:AObj}{ν:List Addr}(q:ORel G (μ++ν) h a o)(hb:AObj.blw μ.length o=true):ORel G μ h a o:=by
  cases o with
  | list vs=>
    refine xe23 q fun items n e3 e0 e4=>?_
    exact ⟨items,n,e3,e0,e4.cutN hb⟩
  | ns fs=>
    refine xe13 q fun m e3 e4 e5=>?_
    refine ⟨m,e3,e4,fun z v hz=>?_⟩
    refine xe12 (e5 z v hz) fun y e7 e8=>?_
    have:=List.all_eq_true.mp hb (z,v) (mem_of_lookup hz)
    simp only [hz] at this
    exact ⟨y,e7,VR.cutN e8 this⟩
  | bnd=>exact q
  | cit live lb=>
    refine xe22 q fun m t e1 e2=>?_
    rw [List.getElem?_append_left (of_decide_eq_true hb)] at e1
    exact ⟨m,t,e1,e2⟩
theorem Inv.freeze{D:Addr}{ws:List V}{s₀:Shared}(I₀:Inv G μ₀ σ₀ s₀)(I:Inv G (μ₀++ [D]) (σ₀++ [.list ws]) s')(hb:V.blws μ₀.length ws=true):Inv G μ₀ σ₀ s'∧VR G μ₀ s'.heap (.lst ws) (.ref D):=by
  have hnd:=I.nodup
  rw [List.nodup_append] at hnd
  have hD:D∉μ₀:=fun q=>hnd.2.2 D q D (by simp) rfl
  refine ⟨⟨I.base,fun a ha=>I.new a (List.mem_append_left _ ha),hnd.1,I₀.len,fun l a o e1 e2=>?_,I.gens,I.os,I₀.fix⟩,?_⟩
  · have hl:l<μ₀.length:=(List.getElem?_eq_some_iff.mp e1).1
    have q:=I.obj l a o (by refine rg (List.getElem?_append_left hl) ?_; exact e1) (by rw [List.getElem?_append_left (by rw [←I₀.len]; exact hl)]; exact e2)
    exact q.cut (I₀.obj l a o e1 e2).blw
  · refine xe23 (I.obj μ₀.length D (.list ws) (by simp) (by refine rg I₀.len ?_; simp)) fun items n e3 e0 e4=>?_
    exact ⟨D,items,n,rfl,hD,e3,e0,e4.cutN hb⟩
structure CEnd(G:Gd)(μ:List Addr)(s:Shared)(σ₀ σ':List AObj)(D C:Addr)(μ₀ μ':List Addr)(s₀ s':Shared):Prop where
  st0:Step W0 μ μ₀ s.heap s₀.heap
  inv0:Inv G μ₀ σ₀ s₀
  st:Step W0 μ μ' s.heap s'.heap
  pre:∃ν,μ'=μ₀++ [D]++ν
  inv:Inv G μ' σ' s'
  cs:s.heap.objs.size≤C
  cm:C∉μ'
  c0:G.h0.get? C=none
theorem CEnd.done{D C:Addr}{s₀:Shared}{m:Str→Option Value}(X:CEnd G μ s σ₀ σ' D C μ₀ μ' s₀ s')(hn:s'.heap.Ns C m)(hs:Heap.SameBut C s'.heap h'):CEnd G μ s σ₀ σ' D C μ₀ μ' s₀ {s' with heap:=h'}:=by
  have st:Step (· = C) μ' μ' s'.heap h':=step_same hs fun o ho hi=>(imm_ne_ns ho hi hn) rfl
  exact ⟨X.st0,X.inv0,((X.st.of0 (W:=(· = C))).trans st).weaken fun a ha q=>absurd ha (Nat.not_lt.mpr (q▸X.cs)),X.pre,X.inv.stepW (W:=(· = C)) st (fun a q=>q▸X.c0) (fun a ha=>hs.2 a fun q=>X.cm (q▸ha)) rfl rfl,X.cs,X.cm,X.c0⟩
theorem CEnd.loc{D C:Addr}{s₀:Shared}(X:CEnd G μ s σ₀ σ' D C μ₀ μ' s₀ s'):VR G μ' s'.heap (.loc σ₀.length) (.ref D):=by
  obtain ⟨ν,rfl⟩:=X.pre
  refine ⟨D,?_,rfl⟩
  rw [←X.inv0.len,List.append_assoc,List.getElem?_append_right (Nat.le_refl _)]; simp
theorem CEnd.frozen{D C:Addr}{s₀:Shared}{ws:List V}(X:CEnd G μ s σ₀ (σ₀++ [.list ws]) D C μ₀ μ' s₀ s')(hb:V.blws σ₀.length ws=true):Step W0 μ μ₀ s.heap s'.heap∧Inv G μ₀ σ₀ s'∧VR G μ₀ s'.heap (.lst ws) (.ref D):=by
  obtain ⟨ν,rfl⟩:=X.pre
  have hl:=X.inv.len
  have hl0:=X.inv0.len
  have hν:ν= []:=by
    simp only [List.length_append,List.length_singleton] at hl
    exact List.length_eq_zero_iff.mp (by lia)
  subst hν
  have I:=X.inv
  rw [List.append_nil] at I
  exact ⟨⟨X.st0.pre,X.st.sz,X.st.keep,X.st.imm⟩,X.inv0.freeze I (by refine rg hl0 ?_; exact hb)⟩
noncomputable def fCompR(f:EsF)(js:List (Option Nat))(g:TF)(c:BF)(body:Nat→CB)(ρ:List V)(σ:List AObj):Option (List AObj × List AObj):=match f ρ σ with
  | some (vs,σ)=>match y5 g c (body σ.length) vs (ρin js ρ) (σ++ [.list []]) with
    | some (_,σ')=>some (σ,σ')
    | none=>none
  | none=>none
theorem fCompR_inv{f:EsF}{g:TF}{c:BF}{body:Nat→CB}{x:List AObj × List AObj}(h:fCompR f js g c body ρ σ=some x):∃vs σ₁ ρ₂ σ₂,f ρ σ=some (vs,σ₁)∧y5 g c (body σ₁.length) vs (ρin js ρ) (σ₁++ [.list []])=some (ρ₂,σ₂)∧x=(σ₁,σ₂):=by
  unfold fCompR at h
  split at h
  · rename_i vs σ₁ e1
    split at h
    · rename_i ρ₂ σ₂ e2; exact ⟨vs,σ₁,ρ₂,σ₂,e1,e2,(Option.some.inj h).symm⟩
    · contradiction
  · contradiction
theorem comp_run(K:GOk G){rest:List Comprehension}{g:TF}{c:BF}{body:Nat→CB}{vs:List V}{ρ₂:List V}{σ₂:List AObj}(C:CxIn cx cx' scope js)(ht:ST G r cx' t g)(hc:SIfs G r cx' ifs c)
    (hb:SCat G r cx' elt (⟨t,iter,ifs,0⟩::rest) scope pos 0 body) (a:AOk r A) (O:FmOk cx fm) (I:Inv G μ σ s) (F:FR G cx fm μ s.heap ρ) {it:Addr} {fp:List Addr} {P:Nat→Value→Prop} {St:Nat→Heap→Prop}
    (st₀:Step W0 μ μ₀ s.heap s₁.heap) (I₀:Inv G μ₀ σ₁ s₁) (J:It G r μ₀ s₁.heap s.heap.objs.size it vs fp P St) (f₀:Fp μ₀ s₁.heap it fp) (q₀:St 0 s₁.heap) (e2:y5 g c (body σ₁.length) vs (ρin js ρ) (σ₁++ [.list []])=some (ρ₂,σ₂)) :
    codeAny (model G.prog G.w) A (.compStart (.ListComp elt (⟨t,iter,ifs,0⟩::rest) scope pos) 0 (.ref it) (.ref s₁.heap.objs.size) (fmIn cx' scope (s₁.heap.push (zN [] 0)).objs.size fm.env).env)
      (fun r s'=>r = .ok .next∧∃μ' m,CEnd G μ s σ₁ σ₂ s₁.heap.objs.size (s₁.heap.push (zN [] 0)).objs.size μ₀ μ' s₁ s'∧s'.heap.Ns (s₁.heap.push (zN [] 0)).objs.size m) {s₁ with heap:=inHeap scope (s₁.heap.push (zN [] 0))}:=by
  refine hb.elim fun m h=>h.elim fun hm hbr=>?_
  have I₁:=I₀.newloc K (zN [] 0) (.list []) s₁.toks ⟨[],0,Heap.get?_push_size _ rfl,Nat.zero_le _,rfl⟩
  have st₁:=step_new (μ:=μ₀) (h:=s₁.heap) (zN [] 0)
  have F₁:=(F.step0 st₀).step0 st₁
  have st₂:=(inHeap_inv (scope:=scope) I₁).2
  refine xe12 (J.lot _ _ q₀) fun o ho _=>?_
  have q₁:=f₀.st J a st₁ (fun q=>q) q₀
  refine xe12 (J.lot _ _ q₁) fun o₁ ho₁ _=>?_
  have q₂:=(f₀.step st₁ ho).st J a st₂ (fun q=>q) q₁
  have hit:it<(s₁.heap.push (zN [] 0)).objs.size:=Heap.lt_size ho₁
  have hsz:(s₁.heap.push (zN [] 0)).objs.size=s₁.heap.objs.size+1:=Heap.size_push ..
  have hlt:s.heap.objs.size≤(s₁.heap.push (zN [] 0)).objs.size:=hsz▸Nat.le_succ_of_le st₀.sz
  have hcs:∀(i:Nat) (c:Addr),(fmIn cx' scope (s₁.heap.push (zN [] 0)).objs.size fm.env).cs[i]?=some (some c)→c≠it:=fun i c e q=>
    (cs_in C O _ e).elim (fun h=>absurd hit (Nat.not_lt.mpr (q▸h))) fun h=>h.elim fun j h=>absurd (Zp F h) (Nat.not_lt.mpr (q▸J.fresh))
  refine codeAny_mono (comp_start (by rfl) (fun h=>(J.walks A a).self 0 _ _ _ q₂ h) (comp_loop (by rfl) ht hc hm hbr a (fmIn_ok C O _ (fun i c e=>Zp F₁ e) _ rfl) (inHeap_inv (scope:=scope) I₁).1 (fmIn_fr C O I₁ F₁) J (st₁.of0.trans st₂.of0) ((f₀.step st₁ ho).step st₂ ho₁) q₂ (l:=σ₁.length) (D:=s₁.heap.objs.size) (by refine rl I₀.len ?_; simp)
    (fun a q e=>absurd hit (Nat.not_lt.mpr (e▸own_in C _ q))) hcs (I.fresh0 J.fresh) e2)) fun r s' q=>⟨q.1,xe13 q.2 fun μ₃ st₃ I₃ F₃=>F₃.elim fun m₃ F₃=>⟨μ₃,m₃,⟨st₀,I₀,?_,st₃.pre.elim fun ν h=>⟨ν,h.1⟩,I₃,hlt,F₃.lmu,I₁.fresh0 (Nat.le_refl _)⟩,F₃.ns⟩⟩
  exact (((st₀.trans st₁).trans st₂).of0.trans st₃).weaken fun a ha q=>absurd ha (Nat.not_lt.mpr (q.elim (fun q=>Nat.le_trans hlt (own_in C _ q)) fun q=>q▸J.fresh))
theorem comp_core(K:GOk G){use:Option (Value→Sem Unit)}{rest:List Comprehension}{f:EsF}{g:TF}{c:BF}{body:Nat→CB}(C:CxIn cx cx' scope js)(hi:SI G r cx iter f)(ht:ST G r cx' t g)(hc:SIfs G r cx' ifs c)
    (hb:SCat G r cx' elt (⟨t,iter,ifs,0⟩::rest) scope pos 0 body) {p:Pos} (a:AOk r A) (O:FmOk cx fm) (I:Inv G μ σ s) (F:FR G cx fm μ s.heap ρ) (hf:fCompR f js g c body ρ σ=some (σ₀,σ')) {Q:Value→Shared→Prop}
    (k:∀D C μ₀ μ' s₀ s' m,CEnd G μ s σ₀ σ' D C μ₀ μ' s₀ s'→s'.heap.Ns C m→compPost (model G.prog G.w) A E use Q (.ref D) C (.ok .next) s') :
    wpAny (model G.prog G.w) A (comprehension (.ListComp elt (⟨t,iter,ifs,0⟩::rest) scope pos) scope fm.env p (newList []) false (eval iter fm.env) use) Q E s:=by
  refine xe43 (fCompR_inv hf) fun vs σ₁ ρ₂ σ₂ e1 e2 e3=>?_
  cases e3
  refine wpAny_comprehension_free (cl:=clOf fm.env scope.names []) rfl (hi.1 _) (C.closure O) C.kind (fun x hx h=>?_) (wpAny_mono (hi.2 A fm μ ρ σ s vs _ a O I F e1) (fun x s₁ q=>wpAny_mono q (fun y s₂ q=>?_) fun _ _ x=>x.elim) fun _ _ x=>x.elim)
  · have:=List.all_eq_true.mp C.locals x hx
    rw [h] at this
    simpa using this
  · refine xe13 q fun μ₀ st₀ I₀ q=>xe44 q fun it fp P St e J f₀ q₀=>e▸wpAny_newObj_type (nfe_comp ?_)
    exact codeAny_mono (comp_run K C ht hc hb a O I F st₀ I₀ J f₀ q₀ e2) fun r s' q=>q.1▸xe22 q.2 fun μ' m X hn=>k _ _ μ₀ μ' s₂ s' m X hn
end
end Mi
namespace Mi
open MeetsSeq MeetsSeq2 MeetsSeq3 SeqRoads2 SeqAt
open Classical in
noncomputable def freezeTo(p:List AObj × List AObj):Option (V × List AObj):=match p.2[p.1.length]? with
  | some (.list ws)=>if p.2=p.1++ [.list ws]∧V.blws p.1.length ws=true then some (.lst ws,p.1) else none
  | _=>none
noncomputable def keepTo(p:List AObj × List AObj):Option (V × List AObj):=some (.loc p.1.length,p.2)
inductive CK where
  | new | frz
noncomputable def CK.to:CK→List AObj × List AObj→Option (V × List AObj)
  | .new=>keepTo
  | .frz=>freezeTo
noncomputable def yh(k:CK)(f:EsF)(js:List (Option Nat))(g:TF)(c:BF)(body:Nat→CB):EF:=fun ρ σ=>(fCompR f js g c body ρ σ).bind k.to
section
variable {G:Gd}{r:Nat}{cx cx':Cx}{fm:Fm}{W W':Addr→Prop}{μ μ' μ₁ μ₀:List Addr}{h h':Heap}{ρ ρ' ρ₁:List V}{σ σ' σ₁ σ₀:List AObj}{A:Around}{E:Value→Shared→Prop}{s s' s₁:Shared}{v:V}{b:Bool}{e:Expr}{fl:Fl}{scope:Scope}{js:List (Option Nat)}
  {elt t iter:Expr} {gens:List Comprehension} {pos:Pos} {d:Nat} {ifs:List Expr}
open Classical in
theorem freezeTo_inv{p:List AObj × List AObj}{x:V × List AObj}(h:freezeTo p=some x):∃ws,p.2=p.1++ [.list ws]∧V.blws p.1.length ws=true∧some (.lst ws,p.1)=some x:=by
  unfold freezeTo at h
  cases e:p.2[p.1.length]? with
  | none=>rw [e] at h; contradiction
  | some o=>
    rw [e] at h
    cases o with
    | list ws=>exact oIf h fun hc e=>⟨ws,hc.1,hc.2,congrArg some e⟩
    | _=>contradiction
theorem CEnd.to{k:CK}{D C:Addr}{s₀:Shared}(X:CEnd G μ s σ₀ σ' D C μ₀ μ' s₀ s')(h:k.to (σ₀,σ')=some (v,σ₁)):∃μ₁,Step W0 μ μ₁ s.heap s'.heap∧Inv G μ₁ σ₁ s'∧VR G μ₁ s'.heap v (.ref D)∧C∉μ₁:=by
  cases k with
  | new=>
    cases h
    exact ⟨μ',X.st,X.inv,X.loc,X.cm⟩
  | frz=>
    refine xe13 (freezeTo_inv h) fun ws e hb h=>?_
    have e:σ'=σ₀++ [.list ws]:=e
    subst e
    exact se2 h ((X.frozen hb).elim fun h1 h=>h.elim fun h2 h3=>⟨μ₀,h1,h2,h3,fun q=>X.cm (X.pre.elim fun ν e=>e▸List.mem_append_left _ (List.mem_append_left _ q))⟩)
theorem Zg(k:CK)(K:GOk G){rest:List Comprehension}{f:EsF}{g:TF}{c:BF}{body:Nat→CB}(C:CxIn cx cx' scope js)(hi:SI G r cx iter f)(ht:ST G r cx' t g)(hc:SIfs G r cx' ifs c)
    (hb:SCat G r cx' elt (⟨t,iter,ifs,0⟩::rest) scope pos 0 body):SE G r cx (.ListComp elt (⟨t,iter,ifs,0⟩::rest) scope pos) (yh k f js g c body):=fun A fm μ ρ σ s v σ' a O I F hf=>by
  refine xe12 (Option.bind_eq_some_iff.mp hf) fun p e1 e2=>?_
  simp only [eval_ListComp]
  exact comp_core K C hi ht hc hb a O I F e1 fun D C' μ₀ μ' s₀ s' m X hn=>⟨m,hn,fun h' hs=>xe13 ((X.done hn hs).to e2) fun μ₁ h1 h2 h3=>⟨μ₁,h1,h2,h3.1⟩⟩
theorem ss_asgO{t value:Expr}{pos:Pos}{f:EF}{g:TF}(hv:SE G r cx value f)(ht:ST G r cx t g)
    (hs:∀fm,FmOk cx fm→swapsWithSole [t] value pos.line fm.env=pure false) (hw:∀env,swappedStores [t] value env=pure none:=by exact fun _=>rfl)
    (he:∀env,(assignEach [t] env).map (·.2)= [assign t env]:=by exact fun _=>rfl) :
    SS G r cx (.Assign [t] value pos) (fAsg f g):=fun A fm μ ρ σ s fl ρ' σ' a O I F hf=>by
  refine xe13 (fAsg_some hf) fun v e1 e2 e=>wpAny_Assign_stores (hv.use a O I F e1 fun y s₁ μ₁ st₁ I₁ F₁ q₁=>?_) (hs _ O) (hw _)
  rw [he]
  exact wpAny_mono (ht A fm μ₁ ρ ρ' σ' s₁ v y a O I₁ F₁ q₁ e2) (fun _ s₂ g=>⟨μ₁,st₁.of0.trans g.1,g.2.2,g.2.1,e▸rfl⟩) fun _ _ x=>x
theorem sole_eq{t v:Expr}{l:Nat}{env:Env}:swapsWithSole [t] v l env=swapsWith v (some t) l env:=rfl
theorem swaps_name{line:Nat}{env:Env}{y:Str}{py:Pos}:swapsWith (.ListComp elt gens scope pos) (some (.Name y py)) line env=pure (env.blockKind == .function&&env.kindOf y==some .local&&py.line==pos.line&& !(scope.names.any fun (n,k)=>n==y&&(k == .local||k == .cell))):=rfl
theorem ss_asg_cel(k:CK)(K:GOk G){i:Nat}{y:Str}{py spos:Pos}{rest:List Comprehension}{f:EsF}{g:TF}{c:BF}{body:Nat→CB}(e:cx.xs[i]?=some (y, .cel))(C:CxIn cx cx' scope js)(hi:SI G r cx iter f)(ht:ST G r cx' t g)(hc:SIfs G r cx' ifs c)
    (hb:SCat G r cx' elt (⟨t,iter,ifs,0⟩::rest) scope pos 0 body):SS G r cx (.Assign [.Name y py] (.ListComp elt (⟨t,iter,ifs,0⟩::rest) scope pos) spos) (fAsg (yh k f js g c body) (tVar i)):=
  ss_asgO (Zg k K C hi ht hc hb) (zn e (by decide)) fun fm O=>by
    refine sole_eq.trans (swaps_name.trans (congrArg pure ?_))
    rw [O.kcel e,show (some NameKind.cell==some NameKind.local)=false from rfl,Bool.and_false]; rfl
theorem ss_asg_loc(k:CK)(K:GOk G){i:Nat}{y:Str}{py spos:Pos}{rest:List Comprehension}{f:EsF}{g:TF}{c:BF}{body:Nat→CB}(e:cx.xs[i]?=some (y, .loc))(C:CxIn cx cx' scope js)(hi:SI G r cx iter f)(ht:ST G r cx' t g)(hc:SIfs G r cx' ifs c)
    (hb:SCat G r cx' elt (⟨t,iter,ifs,0⟩::rest) scope pos 0 body) (hline:py.line==pos.line:=by rfl) (hno:(scope.names.any fun (n,k)=>n==y&&(k == .local||k == .cell))=false:=by rfl) :
    SS G r cx (.Assign [.Name y py] (.ListComp elt (⟨t,iter,ifs,0⟩::rest) scope pos) spos) (fAsg (yh k f js g c body) (tVar i)):=fun A fm μ ρ σ s fl ρ' σ' a O I F hf=>by
  refine xe13 (fAsg_some hf) fun v e1 e2 e3=>xe12 (Option.bind_eq_some_iff.mp e1) fun p e1 e4=>e3▸Option.some.inj e2▸?_
  have hsw:swapsWith (.ListComp elt (⟨t,iter,ifs,0⟩::rest) scope pos) (some (.Name y py)) spos.line fm.env=pure true:=by
    refine swaps_name.trans (congrArg pure ?_)
    have h1:fm.env.blockKind = .function:=by unfold Env.blockKind; refine rg O.kind ?_; rfl
    rw [O.klocal e,hno,h1,hline]; rfl
  refine rg (exec_Assign_Name_used _ _ _ _ hsw) ?_
  refine wpAny_bind (wpAny_standAt (wpAny_bind ?_))
  show wpAny _ A (do let _ ←comprehension (.ListComp elt (⟨t,iter,ifs,0⟩::rest) scope pos) scope fm.env _ (newList []) false (eval iter fm.env) (some (assign (.Name y py) fm.env))) _ _ s
  refine wpAny_bind (wpAny_mono (Q:=fun _ s'=>GoodS G cx fm μ s .next (ρ.set i v) σ' .next s') (comp_core K C hi ht hc hb a O I F e1 fun D C' μ₀ μ' s₀ s' m X hn=>?_) (fun _ s' q=>wpAny_pure (wpAny_pure q)) fun _ _ x=>x)
  refine xe14 (X.to e4) fun μ₁ h1 h2 h3 h4=>?_
  have hC:C'≠fm.env.locals:=fun q=>absurd (Own.lt F (.inl q)) (Nat.not_lt.mpr X.cs)
  refine wpAny_assign_Name (store_var O (F.step0 h1) h2 e (by decide) h3 fun s₄ st₄ hl F₄ I₄=>?_)
  have st₄:=hl rfl
  have hn₄:s₄.heap.Ns C' m:=hn.at' fun o e=>st₄.keep _ _ h4 hC e
  refine ⟨m,hn₄,fun h' hs=>?_⟩
  have st₅:Step (· = C') μ₁ μ₁ s₄.heap h':=step_same hs fun o ho hi=>(imm_ne_ns ho hi hn₄) rfl
  exact ⟨μ₁,(((h1.of0 (W:=fun a=>a=fm.env.locals∨a=C')).trans (st₄.weaken fun _ _ q=> .inl q)).trans (st₅.weaken fun _ _ q=> .inr q)).weaken fun a ha q=>q.elim .inl fun q=>absurd ha (Nat.not_lt.mpr (q▸X.cs)),
    I₄.stepW (W:=(· = C')) st₅ (fun a q=>q▸X.c0) (fun a ha=>hs.2 a fun q=>h4 (q▸ha)) rfl rfl,F₄.step st₅ (fun q=>hC q.symm) fun j c e' q=>absurd (Zp F e') (Nat.not_lt.mpr (q▸X.cs)),rfl⟩
end
end Mi
namespace Mi
open MeetsSeq MeetsSeq2 MeetsSeq3 SeqRoads2 SeqAt
structure FnAt(G:Gd)(a:Addr)(fd:FuncData)(body:List Stmt)(ps:List Str)(cx:Cx):Prop where
  obj:∃o,G.h0.get? a=some o∧o.data = .func fd
  code:G.h0.CodeRec fd.code fd.qualname
  body:fd.body = .stmts body
  bind:∀vals:List Value,vals.length=ps.length→bindArgs fd ⟨vals, []⟩=pure (ps.zip vals)
  clo:fd.closure= []
  glob:fd.globals=mainGlobals
  blt:fd.builtins=builtinsNs
  names:fd.scope.names=cx.names
  kind:fd.scope.kind = .function
  co:fd.scope.isCoroutine=false
  gen:fd.scope.isGenerator=false
  ok:cx.ok=true
  vars:(cx.xs.all fun p=>decide (p.2 = .loc)||(decide (p.2 = .cel)&&cx.names.contains (p.1, .cell)))=true
  par:ps=(cx.xs.map (·.1)).take ps.length
theorem bindL_out{kindOf:Str→Option NameKind}:∀(binds:List (Str × Value)) (m:Str→Option Value) (x:Str),(∀p∈binds,p.1≠x)→bindL kindOf binds m x=m x
  | [],_,_,_=>rfl
  | (n,v)::r,m,x,h=>by
    skip
    refine rg (bindL_out r _ x fun p hp=>h p (List.mem_cons_of_mem _ hp)) ?_
    have:x≠n:=fun q=>h (n,v) List.mem_cons_self q.symm
    split <;> simp [this]
theorem bindC_out{kindOf:Str→Option NameKind}:∀(binds:List (Str × Value)) (m:Str→Option Value) (x:Str),(∀p∈binds,p.1≠x)→bindC kindOf binds m x=m x
  | [],_,_,_=>rfl
  | (n,v)::r,m,x,h=>by
    skip
    refine rg (bindC_out r _ x fun p hp=>h p (List.mem_cons_of_mem _ hp)) ?_
    have:x≠n:=fun q=>h (n,v) List.mem_cons_self q.symm
    split <;> simp [this]
theorem bindL_get{kindOf:Str→Option NameKind}:∀(ps:List Str) (vals:List Value) (m:Str→Option Value),ps.Nodup→∀(i:Nat) (x:Str) (v:Value),ps[i]?=some x→vals[i]?=some v→kindOf x=some .local→bindL kindOf (ps.zip vals) m x=some v
  | [],_,_,_,i,_,_,e,_,_=>by contradiction
  | n::r, [],_,_,i,_,_,_,e,_=>by contradiction
  | n::r,w::vals,m,hn,0,x,v,e,e',hk=>by
    simp at e e'; subst e e'
    show bindL kindOf ((n,w)::r.zip vals) m n=some w
    have ho:∀p∈r.zip vals,p.1≠n:=fun p hp q=>(List.nodup_cons.mp hn).1 (q▸(List.of_mem_zip hp).1)
    skip
    refine rg (bindL_out _ _ _ ho) ?_; refine rg (if_pos hk) ?_; simp
  | n::r,w::vals,m,hn,i+1,x,v,e,e',hk=>by
    simp at e e'
    show bindL kindOf ((n,w)::r.zip vals) m x=some v
    skip
    exact bindL_get r vals _ (List.nodup_cons.mp hn).2 i x v e e' hk
theorem bindC_get{kindOf:Str→Option NameKind}:∀(ps:List Str) (vals:List Value) (m:Str→Option Value),ps.Nodup→∀(i:Nat) (x:Str) (v:Value),ps[i]?=some x→vals[i]?=some v→kindOf x≠some .local→bindC kindOf (ps.zip vals) m x=some v
  | [],_,_,_,i,_,_,e,_,_=>by contradiction
  | n::r, [],_,_,i,_,_,_,e,_=>by contradiction
  | n::r,w::vals,m,hn,0,x,v,e,e',hk=>by
    simp at e e'; subst e e'
    show bindC kindOf ((n,w)::r.zip vals) m n=some w
    have ho:∀p∈r.zip vals,p.1≠n:=fun p hp q=>(List.nodup_cons.mp hn).1 (q▸(List.of_mem_zip hp).1)
    skip
    refine rg (bindC_out _ _ _ ho) ?_; refine rg (if_neg hk) ?_; simp
  | n::r,w::vals,m,hn,i+1,x,v,e,e',hk=>by
    simp at e e'
    show bindC kindOf ((n,w)::r.zip vals) m x=some v
    skip
    exact bindC_get r vals _ (List.nodup_cons.mp hn).2 i x v e e' hk
theorem nodup_of:∀{l:List Str},Cx.nodup l=true→l.Nodup
  | [],_=>List.Pairwise.nil
  | x::r,h=>by
    simp only [Cx.nodup,Bool.and_eq_true,Bool.not_eq_true'] at h
    exact List.nodup_cons.mpr ⟨by simpa using h.1,nodup_of h.2⟩
noncomputable def ZZ(σ σ':List AObj):Prop:= ∀(l:Nat) (o:AObj),l<σ.length→σ'[l]?=some o→σ[l]?=some o∨AObj.blw σ.length o=true
noncomputable def V.frz(n:Nat)(σ:List AObj):Nat→V→V
  | 0,v=>v
  | k+1, .loc l=>if l<n then .loc l else match σ[l]? with
    | some (.list ws)=> .lst (ws.map (V.frz n σ k))
    | _=> .loc l
  | k+1, .tup vs=> .tup (vs.map (V.frz n σ k))
  | k+1, .lst vs=> .lst (vs.map (V.frz n σ k))
  | _+1,v=>v
open Classical in
noncomputable def finF(σ σ':List AObj)(v:V):Option (V × List AObj):=
  if ZZ σ σ'∧V.blw σ.length (V.frz σ.length σ' 6 v)=true then some (V.frz σ.length σ' 6 v,σ'.take σ.length) else none
noncomputable def fnF(n:Nat)(body:SF)(vs:List V)(σ:List AObj):Option (V × List AObj):=match body (vs++List.replicate (n-vs.length) .undef) σ with
  | some (.ret v,_,σ')=>finF σ σ' v
  | some (.next,_,σ')=>finF σ σ' .none
  | _=>none
noncomputable def Z1(G:Gd)(r:Nat)(f:Value)(F:List V→List AObj→Option (V × List AObj)):Prop:=
  ∀(A:Around) (μ:List Addr) (σ:List AObj) (s:Shared) (vs:List V) (ys:List Value) (v:V) (σ':List AObj),AOk r A→Inv G μ σ s→VRs G μ s.heap vs ys→F vs σ=some (v,σ')→codeAny (model G.prog G.w) A (.call f ⟨ys, []⟩) (fun r s'=>match r with | .ok (.ret y)=>Good G μ s v σ' y s' | _=>False) s
theorem Z1.wp{G:Gd}{r:Nat}{f:Value}{F:List V→List AObj→Option (V × List AObj)}(H:Z1 G r f F)(A:Around)(μ:List Addr)(σ:List AObj)(s:Shared)(vs:List V)(ys:List Value)(v:V)(σ':List AObj)(a:AOk r A)(I:Inv G μ σ s)(q:VRs G μ s.heap vs ys)(h:F vs σ=some (v,σ')) :
    wpAny (model G.prog G.w) A (call f ys []) (Good G μ s v σ') (fun _ _=>False) s:=
  wpAny_call (codeAny_mono (H A μ σ s vs ys v σ' a I q h) fun r s' hr=>by
    cases r with
    | error e=>exact hr
    | ok f=>cases f <;> exact hr)
section
variable {G:Gd}{r:Nat}{cx cx':Cx}{fm:Fm}{W W':Addr→Prop}{μ μ' μ₁ μ₀ ν:List Addr}{h h':Heap}{ρ ρ' ρ₁:List V}{σ σ' σ₁ σ₀:List AObj}{A:Around}{E:Value→Shared→Prop}{s s' s₁:Shared}{v:V}{b:Bool}{e:Expr}{fl:Fl}{scope:Scope}{js:List (Option Nat)}
theorem VRs.frzs{n:Nat}{σ:List AObj}{k:Nat}(ih:∀{v:V} {y:Value},VR G (μ++ν) h v y→V.blw μ.length (V.frz n σ k v)=true→VR G μ h (V.frz n σ k v) y):∀{vs:List V} {ys:List Value},VRs G (μ++ν) h vs ys→V.blws μ.length (vs.map (V.frz n σ k))=true→VRs G μ h (vs.map (V.frz n σ k)) ys
  | []=>fun q _=>q
  | _::_=>fun q b=>xe23 q fun y ys e q1 q2=>⟨y,ys,e,ih q1 (Bool.and_eq_true_iff.mp b).1,VRs.frzs ih q2 (Bool.and_eq_true_iff.mp b).2⟩
theorem VR.frzV(I:Inv G (μ++ν) σ' s):∀(k:Nat) (v:V) {y:Value},VR G (μ++ν) s.heap v y→V.blw μ.length (V.frz μ.length σ' k v)=true→VR G μ s.heap (V.frz μ.length σ' k v) y
  | 0,_=>fun q b=>VR.cutN q b
  | _+1, .undef=>fun q _=>q.elim
  | _+1, .none=>fun q _=>q
  | _+1, .bool _=>fun q _=>q
  | _+1, .int _=>fun q _=>q
  | _+1, .str _=>fun q _=>q
  | _+1, .cst _=>fun q _=>q
  | k+1, .tup vs=>fun q b=>xe35 q fun a items n e1 e2 e3 e4 q=>⟨a,items,n,e1,fun h=>e2 (List.mem_append_left _ h),e3,Nat.le_trans (Nat.le_of_eq (List.length_map _)) e4,VRs.frzs (fun q b=>VR.frzV I k _ q b) q b⟩
  | k+1, .lst vs=>fun q b=>xe35 q fun a items n e1 e2 e3 e4 q=>⟨a,items,n,e1,fun h=>e2 (List.mem_append_left _ h),e3,Nat.le_trans (Nat.le_of_eq (List.length_map _)) e4,VRs.frzs (fun q b=>VR.frzV I k _ q b) q b⟩
  | k+1, .loc l=>fun q b=>by
    simp only [V.frz] at b ⊢
    by_cases hl:l<μ.length
    · rw [if_pos hl] at b ⊢
      exact VR.cutN q b
    · rw [if_neg hl] at b ⊢
      split at b
      · rename_i ws e1
        refine xe12 q fun a e2 e=>xe23 (I.obj l a _ e2 e1) fun items n h1 h2 h3=>e▸⟨a,items,n,rfl,fun q=>?_,h1,Nat.le_trans (Nat.le_of_eq (List.length_map _)) h2,VRs.frzs (fun q b=>VR.frzV I k _ q b) h3 b⟩
        rw [List.getElem?_append_right (Nat.le_of_not_lt hl)] at e2
        exact (List.nodup_append.mp I.nodup).2.2 a q a (zG e2) rfl
      · exact absurd (of_decide_eq_true b) hl
theorem VR.frz(I:Inv G (μ++ν) σ' s)(k:Nat){v:V}{y:Value}:VR G (μ++ν) s.heap v y→V.blw μ.length (V.frz μ.length σ' k v)=true→VR G μ s.heap (V.frz μ.length σ' k v) y:=VR.frzV I k v
theorem call_end{y:Value}(I:Inv G μ σ s)(st:Step W0 μ μ' s.heap s'.heap)(I':Inv G μ' σ' s')(q:VR G μ' s'.heap v y){w:V}(h:finF σ σ' v=some (w,σ₁)):Good G μ s w σ₁ y s':=by
  unfold finF at h
  split at h
  · rename_i hc
    cases h
    obtain ⟨ν,rfl,hν⟩:=st.pre
    rw [←I.len] at hc ⊢
    refine ⟨μ,⟨⟨[],by simp,by simp⟩,st.sz,st.keep,st.imm⟩,⟨I'.base,fun a ha=>I'.new a (List.mem_append_left _ ha),(List.nodup_append.mp I'.nodup).1,?_,fun l a o e1 e2=>?_,I'.gens,I'.os,I.fix⟩,VR.frz I' 6 q hc.2⟩
    · have:=I'.len
      rw [List.length_append] at this
      refine rg List.length_take ?_; lia
    · have hl:l<μ.length:=(List.getElem?_eq_some_iff.mp e1).1
      rw [List.getElem?_take_of_lt hl] at e2
      have q:=I'.obj l a o (by refine rg (List.getElem?_append_left hl) ?_; exact e1) e2
      have hb:AObj.blw μ.length o=true:=by
        rcases hc.1 l o (by refine rl I.len ?_; exact hl) e2 with e3 | e3
        · exact (I.obj l a o e1 e3).blw
        · refine rg I.len ?_; exact e3
      exact q.cut hb
  · contradiction
noncomputable def celOf(fd:FuncData)(L:Addr)(p:Str × VK):Option Addr:=match p.2 with
  | .loc=>none
  | _=>(cellsFrom (L+1) fd.scope.names []).lookup p.1
noncomputable def fmFn(fd:FuncData)(L a:Addr)(cx:Cx):Fm:=⟨callEnvC fd L a,cx.xs.map (celOf fd L)⟩
theorem fmFn_get{fd:FuncData}{L a:Addr}{i:Nat}{x:Str}{k:VK}(e:cx.xs[i]?=some (x,k)):(fmFn fd L a cx).cs[i]?=some (celOf fd L (x,k)):=by
  show (cx.xs.map _)[i]?=_
  refine rg List.getElem?_map ?_; refine rg e ?_; rfl
theorem FnAt.var{a:Addr}{fd:FuncData}{body:List Stmt}{ps:List Str}(N:FnAt G a fd body ps cx){i:Nat}{x:Str}{k:VK}(e:cx.xs[i]?=some (x,k))(hk:k ≠ .loc):k = .cel∧(x,NameKind.cell)∈fd.scope.names:=by
  have:=List.all_eq_true.mp N.vars _ (zG e)
  refine rg N.names ?_
  simp only [Bool.or_eq_true,decide_eq_true_eq,Bool.and_eq_true] at this
  rcases this with h | h
  · exact absurd h hk
  · exact ⟨h.1,by simpa using h.2⟩
theorem FnAt.inj{a:Addr}{fd:FuncData}{body:List Stmt}{ps:List Str}(N:FnAt G a fd body ps cx){i j:Nat}{x:Str}{k k':VK}(e:cx.xs[i]?=some (x,k))(e':cx.xs[j]?=some (x,k')):i=j:=by
  have:=N.ok
  simp only [Cx.ok,Bool.and_eq_true] at this
  exact nodup_inj this.2 (x:=x) (by refine rg List.getElem?_map ?_; refine rg e ?_; rfl) (by refine rg List.getElem?_map ?_; refine rg e' ?_; rfl)
theorem FnAt.cellOk{a:Addr}{fd:FuncData}{body:List Stmt}{ps:List Str}(N:FnAt G a fd body ps cx){L:Addr}{i:Nat}{c:Addr}(e:(fmFn fd L a cx).cs[i]?=some (some c)):∃x,cx.xs[i]?=some (x, .cel)∧(cellsFrom (L+1) fd.scope.names []).lookup x=some c:=by
  cases hq:cx.xs[i]? with
  | none=>
    have e:(cx.xs.map _)[i]?=_:=e
    rw [List.getElem?_map,hq] at e; contradiction
  | some p=>
    obtain ⟨x,k⟩:=p
    rw [fmFn_get hq] at e
    by_cases hk:k = .loc
    · subst hk; cases e
    · obtain ⟨rfl,_⟩:=N.var hq hk
      exact ⟨x,rfl,by simpa [celOf] using e⟩
theorem cells_ok(fd:FuncData)(h:Heap):CellsOk (pushCells (h.push {cls:= .type "frame",data:= .dict #[]}) fd.scope.names) (h.objs.size+1) (cellsFrom (h.objs.size+1) fd.scope.names []):=by
  have ok:=cellsFrom_ok fd.scope.names (h.push {cls:= .type "frame",data:= .dict #[]}) (h.objs.size+1) [] ⟨fun _ _ hm=>(nomatch hm),List.Pairwise.nil⟩ (by rw [Heap.size_push]; exact Nat.le_refl _)
  rw [Heap.size_push] at ok
  exact ok
theorem FnAt.fmok{a:Addr}{fd:FuncData}{body:List Stmt}{ps:List Str}(N:FnAt G a fd body ps cx)(h:Heap):FmOk cx (fmFn fd h.objs.size a cx) where
  ok:=N.ok
  kind:=N.kind
  names:=N.names
  glob:=N.glob
  blt:=N.blt
  loc:=fun i x e=>fmFn_get e
  cel:=fun i x k e hk=>by
    obtain ⟨rfl,hm⟩:=N.var e hk
    refine xe12 (own_lookup (scope:=fd.scope) (h.objs.size+1) hm) fun c h3 _=>?_
    exact ⟨c,(fmFn_get e).trans (by simp only [celOf,h3]),h3⟩
  dist:=fun i j c e1 e2=>by
    refine xe12 (N.cellOk e1) fun x h1 h2=>?_
    refine xe12 (N.cellOk e2) fun y g1 g2=>?_
    have:=name_of_addr (cells_ok fd h).apart (mem_of_lookup h2) (mem_of_lookup g2)
    subst this
    exact N.inj h1 g1
noncomputable def fnE(σ:List AObj):Option (Fl × List V × List AObj)→Option (V × List AObj)
  | some (.ret v,_,σ')=>finF σ σ' v
  | some (.next,_,σ')=>finF σ σ' .none
  | _=>none
theorem fnE_inv{x:Option (Fl × List V × List AObj)}{w:V × List AObj}(h:fnE σ x=some w):∃fl ρ₂ σ₂,x=some (fl,ρ₂,σ₂)∧((∃v,fl = .ret v∧finF σ σ₂ v=some w)∨(fl = .next∧finF σ σ₂ .none=some w)):=by
  cases x with
  | none=>contradiction
  | some p=>cases p with | mk fl p=>cases fl with
    | ret v=>exact ⟨_,_,_,rfl, .inl ⟨v,rfl,h⟩⟩
    | next=>exact ⟨_,_,_,rfl, .inr ⟨rfl,h⟩⟩
    | _=>contradiction
theorem fn_post{f:Flow}{w:V}{ρ₂:List V}{σ₂:List AObj}(I:Inv G μ σ s)(st₁:Step W0 μ μ s.heap s₁.heap)(hown:∀b,Own cx fm b→s.heap.objs.size≤b)(h:(∃v,fl = .ret v∧finF σ σ₂ v=some (w,σ₁))∨(fl = .next∧finF σ σ₂ .none=some (w,σ₁)))
    (q:GoodS G cx fm μ s₁ fl ρ₂ σ₂ f s'):Good G μ s w σ₁ (match (generalizing:=false) f with | .ret v=>v | _=> .none) s':=by
  refine xe14 q fun μ₂ st₂ I₂ F₂ q=>?_
  have st:=(st₁.of0.trans st₂).weaken (W':=W0) fun b hb q=>absurd hb (Nat.not_lt.mpr (hown b q))
  rcases h with ⟨v,rfl,h⟩ | ⟨rfl,h⟩
  · exact xe12 q fun y e q=>e▸call_end I st I₂ q h
  · exact (q:f=_)▸call_end I st I₂ (v:= .none) rfl h
theorem FnAt.hpar{a:Addr}{fd:FuncData}{body:List Stmt}{ps:List Str}(N:FnAt G a fd body ps cx){i:Nat}{x:Str}(e:ps[i]?=some x):∃k,cx.xs[i]?=some (x,k):=by
  have hi:=(List.getElem?_eq_some_iff.mp e).1
  rw [N.par,List.getElem?_take_of_lt hi,List.getElem?_map] at e
  exact xe12 (Option.map_eq_some_iff.mp e) fun p e1 e2=>⟨p.2,e2▸e1⟩
theorem FnAt.at{a:Addr}{fd:FuncData}{body:List Stmt}{ps:List Str}(N:FnAt G a fd body ps cx){i:Nat}{x:Str}{k:VK}(hi:i<ps.length)(e:cx.xs[i]?=some (x,k)):ps[i]?=some x:=
  (N.hpar (List.getElem?_eq_getElem hi)).elim fun _ h=>(List.getElem?_eq_getElem hi).trans (congrArg (fun p=>some p.1) (Option.some.inj (h.symm.trans e)))
theorem pad_get{vs:List V}{n i:Nat}{w:V}(e:(vs++List.replicate n .undef)[i]?=some w)(h:w ≠ .undef):i<vs.length∧vs[i]?=some w:=by
  rcases Nat.lt_or_ge i vs.length with q | q
  · exact ⟨q,(List.getElem?_append_left q).symm.trans e⟩
  · exact absurd (List.eq_of_mem_replicate (zG ((List.getElem?_append_right q).symm.trans e))) h
theorem FnAt.own{a:Addr}{fd:FuncData}{body:List Stmt}{ps:List Str}(N:FnAt G a fd body ps cx)(h:Heap){b:Addr}(q:Own cx (fmFn fd h.objs.size a cx) b):h.objs.size≤b:=
  q.elim (fun q=>Nat.le_of_eq q.symm) fun q=>xe22 q fun _ _ _ e2=>xe12 (N.cellOk e2) fun y _ h3=>Nat.le_of_succ_le ((cells_ok fd h).empty y b (mem_of_lookup h3)).2
theorem fn_fr{a:Addr}{fd:FuncData}{body:List Stmt}{ps:List Str}{vs:List V}{ys:List Value}(N:FnAt G a fd body ps cx)(I:Inv G μ σ s)(q:VRs G μ s.heap vs ys)(hlen:vs.length=ps.length)(hnd:ps.Nodup)
    (X:InCallC s (callEnvC fd s.heap.objs.size a).locals (bindL (callEnvC fd s.heap.objs.size a).kindOf (ps.zip ys) fun _=>none) (callEnvC fd s.heap.objs.size a).cells (bindC (callEnvC fd s.heap.objs.size a).kindOf (ps.zip ys) fun _=>none) s₁)
    (st₁:Step W0 μ μ s.heap s₁.heap):FR G cx (fmFn fd s.heap.objs.size a cx) μ s₁.heap (vs++List.replicate (cx.xs.length-vs.length) .undef):=by
  have O:=N.fmok s.heap (a:=a)
  have ok:=cells_ok fd s.heap
  refine ⟨_,X.toInCall.ns,I.fresh,fun b q=>I.fresh0 (N.own s.heap q),fun i c e=>xe12 (N.cellOk e) fun y h2 h3=>?_,?_,fun i x w e1 e2 e3=>(pad_get e2 e3).elim fun hi e2=>xe12 (q.get e2) fun y e4 e5=>?_,fun i c w e1 e2 e3=>(pad_get e2 e3).elim fun hi e2=>xe12 (q.get e2) fun y e4 e5=>xe12 (N.cellOk e1) fun x h2 h3=>⟨y,?_,e5.step st₁⟩⟩
  · have:=(ok.empty y c (mem_of_lookup h3)).2
    exact ⟨fun q=>absurd (I.new c q).2 (Nat.not_lt.mpr (Nat.le_of_succ_le this)),Nat.ne_of_gt this,_,X.cell y c h3⟩
  · have:=congrArg List.length N.par
    rw [List.length_take,List.length_map] at this
    refine rg List.length_append ?_; refine rg List.length_replicate ?_; refine rg hlen ?_; grind
  · exact ⟨y,bindL_get ps ys _ hnd i x y (N.at (hlen▸hi) e1) e4 (O.klocal e1),e5.step st₁⟩
  · have:=X.cell x c h3
    rwa [bindC_get ps ys _ hnd i x y (N.at (hlen▸hi) h2) e4 (by refine rg (show (callEnvC fd s.heap.objs.size a).kindOf x=some .cell from O.kcel h2) ?_; decide)] at this
theorem enter_fn(K:GOk G){a:Addr}{fd:FuncData}{body:List Stmt}{ps:List Str}(N:FnAt G a fd body ps cx){vs:List V}{ys:List Value}{R:Result→Shared→Prop}(ak:AOk (r+1) A)(I:Inv G μ σ s)(q:VRs G μ s.heap vs ys)(hlen:vs.length=ps.length)
    (hq:∀s₁ L,s.heap.objs.size≤s₁.heap.objs.size→L=s.heap.objs.size→AOk r (A.deeper (fmFn fd L a cx).env)→FmOk cx (fmFn fd L a cx)→Inv G μ σ s₁→Step W0 μ μ s.heap s₁.heap→FR G cx (fmFn fd L a cx) μ s₁.heap (vs++List.replicate (cx.xs.length-vs.length) .undef)→(∀b,Own cx (fmFn fd L a cx) b→s.heap.objs.size≤b)→
      wpAny (model G.prog G.w) (A.deeper (fmFn fd L a cx).env) (execs body (fmFn fd L a cx).env) (fun f s'=>R (.ok (.ret (match f with | .ret v=>v | _=> .none))) s') (fun _ _=>False) s₁) :
    codeAny (model G.prog G.w) A (.call (.ref a) ⟨ys, []⟩) R s:=by
  have hnd:ps.Nodup:=by
    have:=N.ok
    simp only [Cx.ok,Bool.and_eq_true] at this
    refine rg N.par ?_
    exact (nodup_of this.2).sublist (List.take_sublist _ _)
  have O:=N.fmok s.heap
  refine xe12 N.obj fun o ho hd=>codeAny_call_cells ak.room (I.base _ _ ho) hd (I.nolimit K) (N.code.keeps I.base) N.body (N.bind ys (q.length.trans hlen)) N.clo (fun x hx=>?_) (fun s₁ X=>?_) N.co N.gen N.kind
  · refine (List.getElem?_of_mem (List.of_mem_zip hx).1).elim fun i hi=>(N.hpar hi).elim fun k hk=>?_
    by_cases hkl:k = .loc
    · subst hkl; exact .inl (O.klocal hk)
    · refine (N.var hk hkl).elim fun e hm=>(own_lookup (scope:=fd.scope) (s.heap.objs.size+1) hm).elim fun c h3=> .inr ⟨O.kcel (e▸hk),h3.1▸rfl⟩
  · have hsz:s.heap.objs.size≤s₁.heap.objs.size:=Nat.le_of_lt X.toInCall.ns.lt
    refine xe21 X.toInCall.same fun h₁ tk e=>?_
    subst e
    exact (I.kept (h':=h₁) X.toInCall.keep hsz tk).elim fun I₁ st₁=>wpAny_mono (hq _ _ hsz rfl (ak.deeper _) O I₁ st₁ (fn_fr N I q hlen hnd X st₁) fun b q=>N.own s.heap q) (fun _ _ x=>x) fun _ _ x=>x.elim
theorem call_fn(K:GOk G){a:Addr}{fd:FuncData}{body:List Stmt}{ps:List Str}{bf:SF}(N:FnAt G a fd body ps cx)(hb:SSs G r cx body bf):Z1 G (r+1) (.ref a) (fun vs σ=>if vs.length=ps.length then fnF cx.xs.length bf vs σ else none):=fun A μ σ s vs ys v σ' ak I q hf=>by
  have hf':vs.length=ps.length∧fnE σ (bf (vs++List.replicate (cx.xs.length-vs.length) .undef) σ)=some (v,σ'):=by
    by_cases h:vs.length=ps.length
    · exact ⟨h,(if_pos h).symm.trans hf⟩
    · exact nomatch (if_neg h).symm.trans hf
  exact hf'.elim fun hlen hf=>xe32 (fnE_inv hf) fun fl ρ₂ σ₂ e2 hf=>enter_fn K N ak I q hlen fun s₁ L hsz hL ak' O I₁ st₁ F₁ hown=>
    wpAny_mono (hb _ _ μ _ _ _ _ _ _ ak' O I₁ F₁ e2) (fun f s₂ q₂=>fn_post I st₁ hown hf q₂) fun _ _ x=>x
noncomputable def zy(g:EsF)(F:List V→List AObj→Option (V × List AObj)):EF:=fun ρ σ=>match g ρ σ with
  | some (vs,σ)=>F vs σ
  | none=>none
theorem se_callf(K:GOk G){x:Str}{p pos:Pos}{es:List Expr}{a:Addr}{o:Obj}{fd:FuncData}{g:EsF}{F:List V→List AObj→Option (V × List AObj)}(hx:cx.names.lookup x=some .globalImplicit)(hg:G.mg x=some (.ref a))(ho:G.h0.get? a=some o∧o.data = .func fd)(hp:Z1 G r (.ref a) F)(hs:SEs G r cx es g)
    (hd:(x==("__debug__":Str))=false:=by rfl) (hplain:∀env pos,(backTo pos (starEach es env)).any (·.1)=false:=by exact fun _ _=>rfl):SE G r cx (.Call (.Name x p) es [] pos) (zy g F):=fun A fm μ ρ σ s v σ' ak O I Fr hf'=>by
  unfold zy at hf'
  split at hf'
  · rename_i vs σ₁ e1
    simp only [yc]
    refine wpAny_bind (load_global K O I hx hg hd ?_)
    refine Calls.callWith_function (o:=o) (fd:=fd) (z6 (hplain _ _) (hs.use ak O I Fr e1 fun ys s₁ μ₁ st₁ I₁ F₁ q₁=>⟨⟨I₁.base _ _ ho.1,ho.2⟩,?_⟩))
    exact wpAny_mono (hp.wp A μ₁ _ s₁ vs ys _ _ ak I₁ q₁ hf') (fun _ _ g=>g.after st₁) fun _ _ x=>x.elim
  · exact nomatch hf'
end
end Mi
namespace Mi
section
variable {G:Gd}{r:Nat}{cx cx':Cx}{fm:Fm}{W W':Addr→Prop}{μ μ' μ₁ μ₀ ν:List Addr}{h h':Heap}{ρ ρ' ρ₁:List V}{σ σ' σ₁ σ₀:List AObj}{A:Around}{E:Value→Shared→Prop}{s s' s₁:Shared}{v:V}{b:Bool}{e:Expr}{fl:Fl}{scope:Scope}{js:List (Option Nat)}
noncomputable def fSwap(i j:Nat)(f:EF):SF:=fun ρ σ=>match f ρ σ with
  | some (.tup [u,w],σ)=>some (.next,(ρ.set j w).set i u,σ)
  | _=>none
theorem fSwap_inv{i j:Nat}{f:EF}{x:Fl × List V × List AObj}(h:fSwap i j f ρ σ=some x):∃u w σ₁,f ρ σ=some (.tup [u,w],σ₁)∧(.next,(ρ.set j w).set i u,σ₁)=x:=by
  unfold fSwap at h
  cases e:f ρ σ with
  | none=>rw [e] at h; contradiction
  | some p=>
    rw [e] at h
    cases p with | mk v σ₁=>cases v with
    | tup vs=>cases vs with
      | nil=>contradiction
      | cons u t=>cases t with
        | nil=>contradiction
        | cons w t=>cases t with
          | nil=>exact ⟨u,w,σ₁,rfl,Option.some.inj h⟩
          | cons _ _=>contradiction
    | _=>contradiction
theorem fm2{f:Expr→Option Str}{a b:Expr}{x y:Str}(h1:f a=some x)(h2:f b=some y): [a,b].filterMap f= [x,y]:=by
  rw [List.filterMap_cons,h1,List.filterMap_cons,h2]; rfl
theorem swap_stores{i j:Nat}{x y:Str}{p1 p2 p3 p4 tp vp:Pos}{k k2:Nat}(O:FmOk cx fm)(hi:cx.xs[i]?=some (x, .loc))(hj:cx.xs[j]?=some (y, .loc))(hl:p2.line=p1.line)(hxy:(x==y)=false) :
    swappedStores [.Tuple [.Name x p1, .Name y p2] k tp] (.Tuple [.Name y p3, .Name x p4] k2 vp) fm.env=pure (some [x,y]):=by
  have hb:fm.env.blockKind = .function:=by unfold Env.blockKind; refine rg O.kind ?_; rfl
  have h2:constantsAlone 8 (.Name y p3)=false:=(O.nodebug hj).1
  have h3:(y==x)=false:=by
    have:x≠y:=by simpa using hxy
    simpa using fun q:y=x=>this q.symm
  have f1:(if (fm.env.kindOf x==some .local&&p1.line==p1.line)=true then some x else none)=some x:=by refine rg (O.klocal hi) ?_; simp
  have f2:(if (fm.env.kindOf y==some .local&&p2.line==p1.line)=true then some y else none)=some y:=by refine rg (O.klocal hj) ?_; refine rg hl ?_; simp
  have f3:([x,y].eraseDups).length=2:=by
    simp only [List.eraseDups_cons,List.eraseDups_nil,List.filter_cons,List.filter_nil,h3,Bool.not_false,if_true]; rfl
  have f4: [Expr.Name y p3, .Name x p4].all (constantsAlone 8)=false:=by rw [List.all_cons,h2]; rfl
  have key:∀ns:List Str,ns= [x,y]→(if (ns.length != 2||ns.eraseDups.length != ns.length)=true then (pure none:Sem (Option (List Str))) else if [Expr.Name y p3, .Name x p4].all (foldedForSure 8)=true then pure none else if [Expr.Name y p3, .Name x p4].all (constantsAlone 8)=true then (do unsupported "assign.tuple-of-constant-expressions:order-of-the-stores"; pure (some ns)) else pure (some ns))=pure (some [x,y]):=fun ns e=>by
    subst e
    refine rg f3 ?_; refine rg f4 ?_; rfl
  have h0:(!([Expr.Name x p1, .Name y p2].length==2|| [Expr.Name x p1, .Name y p2].length==3)|| [Expr.Name y p3, .Name x p4].length != [Expr.Name x p1, .Name y p2].length||fm.env.blockKind != .function)=false:=by refine rg hb ?_; rfl
  unfold swappedStores
  dsimp only
  refine rg h0 ?_
  exact key _ (fm2 f1 f2)
theorem ss_swap{i j:Nat}{x y:Str}{p1 p2 p3 p4 tp vp pos:Pos}{k k2:Nat}{f:EF}(hi:cx.xs[i]?=some (x, .loc))(hj:cx.xs[j]?=some (y, .loc))(hv:SE G r cx (.Tuple [.Name y p3, .Name x p4] k2 vp) f)(hl:p2.line=p1.line:=by rfl)(hxy:(x==y)=false:=by rfl) :
    SS G r cx (.Assign [.Tuple [.Name x p1, .Name y p2] k tp] (.Tuple [.Name y p3, .Name x p4] k2 vp) pos) (fSwap i j f):=fun A fm μ ρ σ s fl ρ' σ' a O I F hf=>by
  refine xe32 (fSwap_inv hf) fun u w σ₁ e1 e=>pe3 e (PyProof.Rows.Assign_Tuple_swapped (hv.use a O I F e1 fun z s₁ μ₁ st₁ I₁ F₁ q₁=>xe33 q₁ fun ad items n e _ h=>yk ?_) (by rfl) (swap_stores O hi hj hl hxy))
  subst e
  have ht:IsTup s₁.heap ad items.toArray:=⟨_,h.1,rfl,n,rfl⟩
  rw [show [x,y].length=items.toArray.size from h.2.2.length.symm]
  refine PyProof.Rows.unpackItems_tuple a.handled ht fun h' hk hz=>(I₁.kept (h':=h') (fun b o e=>hk b o (Nat.ne_of_lt (Heap.lt_size e)) e) hz s₁.toks).elim fun I₂ st₂=>xe23 (VRs.two_inv h.2.2) fun yu yw e qu qw=>?_
  subst e
  refine wpAny_bind (wpAny_holding (PyProof.Rows.bindName_ (store_var O (F₁.step0 st₂) I₂ hj (by decide) (qw.step st₂) fun s₃ st₃ _ F₃ I₃=>?_)))
  exact wpAny_bind (wpAny_holding (PyProof.Rows.bindName_ (store_var O F₃ I₃ hi (by decide) ((qu.step st₂).step st₃) fun s₄ st₄ _ F₄ I₄=>wpAny_pure ⟨μ₁,((st₁.trans st₂).of0.trans st₃).trans st₄,I₄,F₄,rfl⟩)))
end
end Mi
namespace Mi
noncomputable def krun{α:Type}(lt:Nat→Nat→Bool):KasT α→α
  | .ret a=>a
  | .ask i j k=>krun lt (k (lt i j))
theorem krun_bind{α β:Type}(lt:Nat→Nat→Bool)(f:α→KasT β):∀t:KasT α,krun lt (t.bind f)=krun lt (f (krun lt t))
  | .ret _=>rfl
  | .ask i j k=>krun_bind lt f (k (lt i j))
section
variable (c:Nat→Nat)
noncomputable abbrev kP(p:Array Nat)(i:Nat):Nat:=c (p.getD i 0)
noncomputable abbrev klt(i j:Nat):Bool:=decide (c i<c j)
noncomputable def Zh(p:Array Nat)(k:Nat):Prop:= ∀i j,i≤j→j<k→kP c p i≤kP c p j
noncomputable def kDown(p:Array Nat)(k:Nat):Prop:= ∀i j,i≤j→j<k→kP c p j≤kP c p i
theorem kP_congr{p q:Array Nat}{i j:Nat}(h:p[i]?=q[j]?):kP c p i=kP c q j:=by
  unfold kP
  refine rg Array.getD_eq_getD_getElem? ?_; refine rg Array.getD_eq_getD_getElem? ?_; refine rg h ?_; rfl
theorem kP_mirror{p:Array Nat}{i j:Nat}(hj:j≤p.size)(k:Nat):kP c (kas_rev p i j) k=if i≤k∧k<j then kP c p (i+j-1-k) else kP c p k:=by
  have e:=getElem?_mirror_all (xs:=p) (i:=i) hj k
  by_cases h1:i≤k∧k<j
  · rw [if_pos h1] at e ⊢; exact kP_congr c e
  · rw [if_neg h1] at e ⊢; exact kP_congr c e
theorem kP_bubble{p:Array Nat}{src d:Nat}(hs:src<p.size)(hd:d≤src)(k:Nat) :
    kP c (bubble p src d) k=if k=src-d then kP c p src else if src-d<k∧k≤src then kP c p (k-1) else kP c p k:=by
  have e:=getElem?_bubble hs d hd k
  by_cases h1:k=src-d
  · rw [if_pos h1] at e ⊢; exact kP_congr c e
  · rw [if_neg h1] at e ⊢
    by_cases h2:src-d<k∧k≤src
    · rw [if_pos h2] at e ⊢; exact kP_congr c e
    · rw [if_neg h2] at e ⊢; exact kP_congr c e
theorem krev_perm(p:Array Nat)(i j:Nat):(kas_rev p i j).Perm p:=mirror_perm _ _ _ _
theorem krev_size(p:Array Nat)(i j:Nat):(kas_rev p i j).size=p.size:=mirror_size _ _ _ _
theorem asc_spec(p:Array Nat):∀(f n:Nat),n≤krun (klt c) (kas_asc p f n)∧krun (klt c) (kas_asc p f n)≤n+f∧∀i,n≤i→i<krun (klt c) (kas_asc p f n)→kP c p (i-1)≤kP c p i
  | 0,n=>⟨Nat.le_refl _,Nat.le_refl _,fun i h1 h2=>absurd h2 (Nat.not_lt.mpr h1)⟩
  | f+1,n=>by
    have e:krun (klt c) (kas_asc p (f+1) n)=krun (klt c) (if klt c (p.getD n 0) (p.getD (n-1) 0)=true then .ret n else kas_asc p f (n+1)):=rfl
    refine rg e ?_
    by_cases h:c (p.getD n 0)<c (p.getD (n-1) 0)
    · rw [if_pos (by simpa [klt] using h)]
      exact ⟨Nat.le_refl _,by simp [krun],fun i h1 h2=>absurd h2 (Nat.not_lt.mpr h1)⟩
    · rw [if_neg (by simpa [klt] using h)]
      refine xe03 (asc_spec p f (n+1)) fun h1 h2 h3=>?_
      refine ⟨by exact Nat.le_of_lt ‹_›,by omega,fun i hi hm=>?_⟩
      by_cases hin:i=n
      · subst hin; exact Nat.not_lt.mp h
      · exact h3 i (by lia) hm
theorem sorted_ext{p:Array Nat}{n m:Nat}(hs:Zh c p n)(h:∀i,n≤i→i<m→kP c p (i-1)≤kP c p i)(h1:1≤n):Zh c p m:=by
  have key:∀d i,i+d<m→kP c p i≤kP c p (i+d):=by
    intro d
    induction d with
    | zero=>intro i _; exact Nat.le_refl _
    | succ d ih=>
      intro i hi
      refine Nat.le_trans (ih i (by exact Nat.lt_of_succ_lt ‹_›)) ?_
      by_cases hn:i+(d+1)<n
      · exact hs _ _ (by simp) hn
      · have:=h (i+(d+1)) (by omega) hi
        rwa [show i+(d+1)-1=i+d by solve_by_elim [Nat.le_of_lt,Nat.lt_of_lt_of_le,Nat.lt_of_le_of_lt]] at this
  intro i j hij hj
  have:=key (j-i) i (by omega)
  rwa [show i+(j-i)=j by omega] at this
theorem desc_spec:∀(f:Nat) (p:Array Nat) (n q:Nat),q<n→n+f≤p.size→kDown c p n→(∀j,n-1-q≤j→j<n→kP c p j=kP c p (n-1))→
    ∃p' n' q',krun (klt c) (kas_desc f p n q)=(p',n',q')∧p'.Perm p∧q'<n'∧n≤n'∧n'≤n+f∧kDown c p' n'∧(∀j,n'-1-q'≤j→j<n'→kP c p' j=kP c p' (n'-1))
  | 0,p,n,q,hq,_,hd,he=>⟨p,n,q,rfl,Array.Perm.refl _,hq,Nat.le_refl _,Nat.le_refl _,hd,he⟩
  | f+1,p,n,q,hq,hsz,hd,he=>by
    have e:krun (klt c) (kas_desc (f+1) p n q)=krun (klt c) (if klt c (p.getD n 0) (p.getD (n-1) 0)=true then (if q>0 then kas_desc f (kas_rev p (n-(q+1)) n) (n+1) 0 else kas_desc f p (n+1) 0)
      else .ask (p.getD (n-1) 0) (p.getD n 0) fun d=>if d=true then .ret (p,n,q) else kas_desc f p (n+1) (q+1)):=rfl
    refine rg e ?_
    by_cases h:c (p.getD n 0)<c (p.getD (n-1) 0)
    · rw [if_pos (by simpa [klt] using h)]
      have h':kP c p n<kP c p (n-1):=h
      by_cases hq0:q>0
      · refine rg (if_pos hq0) ?_
        have hm:=fun k=>kP_mirror c (p:=p) (i:=n-(q+1)) (j:=n) (by lia) k
        have eqv:∀k,k<n→kP c (kas_rev p (n-(q+1)) n) k=kP c p k:=fun k hk=>by
          rw [hm]
          split
          · refine rg (he _ (by lia) (by omega)) ?_; refine rg (he k (by lia) hk) ?_; rfl
          · rfl
        have eqn:kP c (kas_rev p (n-(q+1)) n) n=kP c p n:=by rw [hm,if_neg (by simp)]
        have hd':kDown c (kas_rev p (n-(q+1)) n) (n+1):=fun i j hij hj=>by
          by_cases hjn:j=n
          · subst hjn
            by_cases hin:i=j
            · subst hin; exact Nat.le_refl _
            · refine rg eqn ?_; refine rg (eqv i (by omega)) ?_
              exact Nat.le_trans (Nat.le_of_lt h') (hd i (j-1) (by omega) (by omega))
          · refine rg (eqv i (by omega)) ?_; refine rg (eqv j (by omega)) ?_
            exact hd i j hij (by omega)
        refine xe37 (desc_spec f (kas_rev p (n-(q+1)) n) (n+1) 0 (by exact Nat.succ_pos _) (by rw [krev_size]; omega) hd' (fun j h1 h2=>by refine rg (show j=n+1-1 by lia) ?_; rfl)) fun p' n' q' g1 g2 g3 g4 g5 g6 g7=>?_
        exact ⟨p',n',q',g1,g2.trans (krev_perm _ _ _),g3,by exact Nat.le_of_lt ‹_›,by lia,g6,g7⟩
      · refine rg (if_neg hq0) ?_
        have hd':kDown c p (n+1):=fun i j hij hj=>by
          by_cases hjn:j=n
          · subst hjn
            by_cases hin:i=j
            · subst hin; exact Nat.le_refl _
            · exact Nat.le_trans (Nat.le_of_lt h') (hd i (j-1) (by lia) (by omega))
          · exact hd i j hij (by omega)
        refine xe37 (desc_spec f p (n+1) 0 (by exact Nat.succ_pos _) (by omega) hd' (fun j h1 h2=>by refine rg (show j=n+1-1 by lia) ?_; rfl)) fun p' n' q' g1 g2 g3 g4 g5 g6 g7=>?_
        exact ⟨p',n',q',g1,g2,g3,by exact Nat.le_of_lt ‹_›,by omega,g6,g7⟩
    · rw [if_neg (by simpa [klt] using h)]
      have h':kP c p (n-1)≤kP c p n:=Nat.not_lt.mp h
      show ∃p' n' q',krun (klt c) (if klt c (p.getD (n-1) 0) (p.getD n 0)=true then .ret (p,n,q) else kas_desc f p (n+1) (q+1))=(p',n',q')∧_
      by_cases h2:c (p.getD (n-1) 0)<c (p.getD n 0)
      · rw [if_pos (by simpa [klt] using h2)]
        exact ⟨p,n,q,rfl,Array.Perm.refl _,hq,Nat.le_refl _,by exact Nat.le_add_right _ _,hd,he⟩
      · rw [if_neg (by simpa [klt] using h2)]
        have h3:kP c p n=kP c p (n-1):=Nat.le_antisymm (Nat.not_lt.mp h2) h'
        have hd':kDown c p (n+1):=fun i j hij hj=>by
          by_cases hjn:j=n
          · subst hjn
            by_cases hin:i=j
            · subst hin; exact Nat.le_refl _
            · refine rg h3 ?_; exact hd i (j-1) (by lia) (by omega)
          · exact hd i j hij (by omega)
        have he':∀j,n+1-1-(q+1)≤j→j<n+1→kP c p j=kP c p (n+1-1):=fun j h1 h4=>by
          show kP c p j=kP c p n
          by_cases hjn:j=n
          · subst hjn; rfl
          · refine rg h3 ?_; exact he j (by lia) (by lia)
        refine xe37 (desc_spec f p (n+1) (q+1) (by exact Nat.succ_lt_succ ‹_›) (by omega) hd' he') fun p' n' q' g1 g2 g3 g4 g5 g6 g7=>?_
        exact ⟨p',n',q',g1,g2,g3,by exact Nat.le_of_lt ‹_›,by omega,g6,g7⟩
theorem rev_down{p:Array Nat}{n:Nat}(hn:n≤p.size)(hd:kDown c p n):Zh c (kas_rev p 0 n) n:=fun i j hij hj=>by
  rw [kP_mirror c hn,kP_mirror c hn,if_pos (by lia),if_pos (by lia)]
  exact hd _ _ (by omega) (by omega)
theorem tail_spec{n nrem:Nat}{p:Array Nat}(h1:1≤n)(hn:n≤nrem)(hsz:nrem≤p.size)(hd:kDown c p n) :
    ∃m p',krun (klt c) (kas_tail3 n nrem p)=(m,p')∧p'.Perm p∧m≤nrem∧Zh c p' m:=by
  unfold kas_tail3
  rw [krun_bind]
  refine xe03 (asc_spec c (kas_rev p 0 n) (nrem-n) n) fun h2 h3 h4=>?_
  exact ⟨_,_,rfl,krev_perm _ _ _,by omega,sorted_ext c (rev_down c (by lia) hd) h4 h1⟩
theorem descPart_spec{n nrem:Nat}{p:Array Nat}(h1:1≤n)(hn:n+1≤nrem)(hsz:nrem≤p.size)(hd:kDown c p (n+1)) :
    ∃m p',krun (klt c) (kas_descPart n nrem p)=(m,p')∧p'.Perm p∧m≤nrem∧Zh c p' m:=by
  unfold kas_descPart
  rw [krun_bind]
  refine xe37 (desc_spec c (nrem-(n+1)) p (n+1) 0 (by exact Nat.succ_pos _) (by omega) hd (fun j h1 h2=>by refine rg (show j=n+1-1 by lia) ?_; rfl)) fun p' n' q' g1 g2 g3 g4 g5 g6 g7=>?_
  refine rg g1 ?_
  have hsz':p'.size=p.size:=g2.size_eq
  dsimp only
  by_cases hq:q'>0
  · refine rg (if_pos hq) ?_
    have hm:=fun k=>kP_mirror c (p:=p') (i:=n'-(q'+1)) (j:=n') (by omega) k
    have hd':kDown c (kas_rev p' (n'-(q'+1)) n') n':=fun i j hij hj=>by
      have eqv:∀k,k<n'→kP c (kas_rev p' (n'-(q'+1)) n') k=kP c p' k:=fun k hk=>by
        rw [hm]
        split
        · refine rg (g7 _ (by lia) (by omega)) ?_; refine rg (g7 k (by lia) hk) ?_; rfl
        · rfl
      refine rg (eqv i (by exact Nat.lt_of_le_of_lt ‹_› ‹_›)) ?_; refine rg (eqv j hj) ?_
      exact g6 i j hij hj
    refine xe24 (tail_spec c (nrem:=nrem) (by solve_by_elim [Nat.le_of_lt,Nat.lt_of_lt_of_le,Nat.lt_of_le_of_lt]) (by omega) (by rw [krev_size]; lia) hd') fun m p'' k1 k2 k3 k4=>?_
    exact ⟨m,p'',k1,(k2.trans (krev_perm _ _ _)).trans g2,k3,k4⟩
  · refine rg (if_neg hq) ?_
    refine xe24 (tail_spec c (nrem:=nrem) (by solve_by_elim [Nat.le_of_lt,Nat.lt_of_lt_of_le,Nat.lt_of_le_of_lt]) (by omega) (by lia) g6) fun m p'' k1 k2 k3 k4=>?_
    exact ⟨m,p'',k1,k2.trans g2,k3,k4⟩
theorem asc_stop(p:Array Nat):∀(f n:Nat),krun (klt c) (kas_asc p f n)<n+f→kP c p (krun (klt c) (kas_asc p f n))<kP c p (krun (klt c) (kas_asc p f n)-1)
  | 0,n,h=>by simp [kas_asc,krun] at h
  | f+1,n,h=>by
    have e:krun (klt c) (kas_asc p (f+1) n)=krun (klt c) (if klt c (p.getD n 0) (p.getD (n-1) 0)=true then .ret n else kas_asc p f (n+1)):=rfl
    rw [e] at h ⊢
    by_cases h1:c (p.getD n 0)<c (p.getD (n-1) 0)
    · rw [if_pos (by simpa [klt] using h1)]
      exact h1
    · rw [if_neg (by simpa [klt] using h1)] at h ⊢
      exact asc_stop p f (n+1) (by omega)
theorem count_spec{nrem:Nat}{p:Array Nat}(h1:1≤nrem)(hsz:nrem≤p.size):∃m p',krun (klt c) (kas_count nrem p)=(m,p')∧p'.Perm p∧m≤nrem∧Zh c p' m:=by
  unfold kas_count
  rw [krun_bind]
  refine xe03 (asc_spec c p (nrem-1) 1) fun h2 h3 h4=>?_
  have hst:=asc_stop c p (nrem-1) 1
  generalize krun (klt c) (kas_asc p (nrem-1) 1)=n at h2 h3 h4 hst
  have hs:Zh c p n:=sorted_ext c (n:=1) (fun i j hij hj=>by refine rg (show i=j by lia) ?_; exact Nat.le_refl _) h4 (Nat.le_refl _)
  by_cases hn:n=nrem
  · refine rg (if_pos (by simpa using hn)) ?_
    exact ⟨n,p,rfl,Array.Perm.refl _,by lia,hs⟩
  · refine rg (if_neg (by simpa using hn)) ?_
    have hlt:=hst (by lia)
    by_cases hn1:n>1
    · refine rg (if_pos hn1) ?_
      show ∃m p',krun (klt c) (if klt c (p.getD 0 0) (p.getD (n-1) 0)=true then .ret (n,p) else kas_descPart n nrem (kas_rev p 0 n))=(m,p')∧_
      by_cases hr:c (p.getD 0 0)<c (p.getD (n-1) 0)
      · rw [if_pos (by simpa [klt] using hr)]
        exact ⟨n,p,rfl,Array.Perm.refl _,by lia,hs⟩
      · rw [if_neg (by simpa [klt] using hr)]
        have hr':kP c p (n-1)≤kP c p 0:=Nat.not_lt.mp hr
        have hall:∀k,k<n→kP c p k=kP c p 0:=fun k hk=>Nat.le_antisymm (Nat.le_trans (hs k (n-1) (by lia) (by omega)) hr') (hs 0 k (by exact Nat.zero_le _) hk)
        have hm:=fun k=>kP_mirror c (p:=p) (i:=0) (j:=n) (by omega) k
        have eqv:∀k,k<n→kP c (kas_rev p 0 n) k=kP c p 0:=fun k hk=>by rw [hm,if_pos (by lia)]; exact hall _ (by omega)
        have hd:kDown c (kas_rev p 0 n) (n+1):=fun i j hij hj=>by
          by_cases hjn:j=n
          · subst hjn
            by_cases hin:i=j
            · subst hin; exact Nat.le_refl _
            · have e1:kP c (kas_rev p 0 j) j=kP c p j:=by rw [hm,if_neg (by simp)]
              refine rg e1 ?_; refine rg (eqv i (by omega)) ?_; refine rl (hall (j-1) (by omega)) ?_
              exact Nat.le_of_lt hlt
          · refine rg (eqv i (by lia)) ?_; refine rg (eqv j (by lia)) ?_; exact Nat.le_refl _
        refine xe24 (descPart_spec c (n:=n) (nrem:=nrem) (by omega) (by lia) (by rw [krev_size]; exact hsz) hd) fun m p'' k1 k2 k3 k4=>?_
        exact ⟨m,p'',k1,k2.trans (krev_perm _ _ _),k3,k4⟩
    · refine rg (if_neg hn1) ?_
      have hn1:n=1:=by lia
      subst hn1
      refine descPart_spec c (Nat.le_refl _) (by lia) hsz fun i j hij hj=>?_
      by_cases h0:i=j
      · subst h0; exact Nat.le_refl _
      · have:i=0∧j=1:=by lia
        refine rg this.1 ?_; refine rg this.2 ?_; exact Nat.le_of_lt hlt
theorem place_spec{p:Array Nat}{k:Nat}(hs:Zh c p k):∀(f l r:Nat),l≤r→r≤k→r-l≤f→(∀i,i<l→kP c p i≤kP c p k)→(∀i,r≤i→i<k→kP c p k<kP c p i)→
    krun (klt c) (kas_place p k f l r)≤k∧(∀i,i<krun (klt c) (kas_place p k f l r)→kP c p i≤kP c p k)∧(∀i,krun (klt c) (kas_place p k f l r)≤i→i<k→kP c p k<kP c p i)
  | 0,l,r,hlr,hr,hf,h1,h2=>by
    have:l=r:=by grind
    subst this
    exact ⟨hr,h1,h2⟩
  | f+1,l,r,hlr,hr,hf,h1,h2=>by
    have e:kas_place p k (f+1) l r=if l≥r then .ret l else .ask (p.getD k 0) (p.getD ((l+r)/2) 0) fun c=>if c=true then kas_place p k f l ((l+r)/2) else kas_place p k f ((l+r)/2+1) r:=rfl
    refine rg e ?_
    by_cases hge:l≥r
    · refine rg (if_pos hge) ?_
      have:l=r:=by exact Nat.le_antisymm ‹_› ‹_›
      subst this
      exact ⟨hr,h1,h2⟩
    · refine rg (if_neg hge) ?_
      show krun (klt c) (if klt c (p.getD k 0) (p.getD ((l+r)/2) 0)=true then kas_place p k f l ((l+r)/2) else kas_place p k f ((l+r)/2+1) r)≤k∧_
      by_cases hl:c (p.getD k 0)<c (p.getD ((l+r)/2) 0)
      · have hc:klt c (p.getD k 0) (p.getD ((l+r)/2) 0)=true:=by simpa [klt] using hl
        have:=place_spec hs f l ((l+r)/2) (by lia) (by lia) (by omega) h1 fun i g1 g2=>Nat.lt_of_lt_of_le hl (hs _ _ g1 g2)
        simpa only [krun,hc,if_true] using this
      · have hc:klt c (p.getD k 0) (p.getD ((l+r)/2) 0)=false:=by simpa [klt] using hl
        have:=place_spec hs f ((l+r)/2+1) r (by lia) (by omega) (by omega) (fun i g1=>Nat.le_trans (hs i ((l+r)/2) (by exact Nat.le_of_lt_succ ‹_›) (by lia)) (Nat.not_lt.mp hl)) h2
        simpa only [krun,hc,Bool.false_eq_true,if_false] using this
theorem bin_spec:∀(f:Nat) (p:Array Nat) (k:Nat),k+f≤p.size→Zh c p k→(krun (klt c) (kas_bin f p k)).Perm p∧Zh c (krun (klt c) (kas_bin f p k)) (k+f)
  | 0,p,k,_,hs=>⟨Array.Perm.refl _,hs⟩
  | f+1,p,k,hk,hs=>by
    have e:krun (klt c) (kas_bin (f+1) p k)=krun (klt c) (kas_bin f (bubble p k (k-krun (klt c) (kas_place p k k 0 k))) (k+1)):=krun_bind _ _ _
    refine rg e ?_
    refine xe03 (place_spec c hs k 0 k (Nat.zero_le _) (Nat.le_refl _) (by exact Nat.sub_le _ _) (fun i hi=>absurd hi (Nat.not_lt_zero _)) (fun i g1 g2=>absurd g2 (Nat.not_lt.mpr g1))) fun h1 h2 h3=>?_
    generalize krun (klt c) (kas_place p k k 0 k)=l at h1 h2 h3
    have hs':Zh c (bubble p k (k-l)) (k+1):=fun i j hij hj=>by
      rw [kP_bubble c (by lia) (by exact Nat.sub_le _ _),kP_bubble c (by lia) (by exact Nat.sub_le _ _),show k-(k-l)=l by lia]
      repeat' split
      all_goals first
        | (exfalso; lia)
        | exact Nat.le_refl _
        | exact h2 _ (by lia)
        | exact Nat.le_of_lt (h3 _ (by omega) (by omega))
        | exact hs _ _ (by omega) (by omega)
    obtain ⟨g1,g2⟩:=bin_spec f (bubble p k (k-l)) (k+1) (by rw [bubble_size]; lia) hs'
    exact ⟨g1.trans (bubble_perm _ _ _),by rwa [show k+(f+1)=k+1+f by lia]⟩
theorem sort_spec{n:Nat}(h1:1≤n):(krun (klt c) (kas_sort n)).Perm (List.range n).toArray∧Zh c (krun (klt c) (kas_sort n)) n:=by
  unfold kas_sort
  rw [krun_bind]
  refine xe24 (count_spec c (nrem:=n) (p:=(List.range n).toArray) h1 (by simp)) fun m p' e1 e2 e3 e4=>?_
  refine rg e1 ?_
  dsimp only
  have hsz:p'.size=n:=by refine rg e2.size_eq ?_; simp
  by_cases hm:m<n
  · refine rg (if_pos hm) ?_
    have hs:Zh c p' (max m 1):=fun i j hij hj=>by
      by_cases hj':j<m
      · exact e4 i j hij hj'
      · have:i=j:=by lia
        subst this; exact Nat.le_refl _
    obtain ⟨g1,g2⟩:=bin_spec c (n-max m 1) p' (max m 1) (by lia) hs
    exact ⟨g1.trans e2,by rwa [show max m 1+(n-max m 1)=n by lia] at g2⟩
  · refine rg (if_neg hm) ?_
    have:m=n:=by lia
    subst this
    exact ⟨e2,e4⟩
end
noncomputable def kOk{α:Type}(N:Nat)(P:α→Prop):KasT α→Prop
  | .ret a=>P a
  | .ask i j k=>i<N∧j<N∧∀b,kOk N P (k b)
theorem kOk.bind{α β:Type}{N:Nat}{P:α→Prop}{P':β→Prop}{f:α→KasT β}(hf:∀a,P a→kOk N P' (f a)):∀{t:KasT α},kOk N P t→kOk N P' (t.bind f)
  | .ret a,h=>hf a h
  | .ask i j k,h=>⟨h.1,h.2.1,fun b=>kOk.bind hf (h.2.2 b)⟩
noncomputable def ZD(N:Nat)(p:Array Nat):Prop:=0<N∧∀x∈p,x<N
theorem ZD.get{N:Nat}{p:Array Nat}(h:ZD N p)(i:Nat):p.getD i 0<N:=by
  refine rg Array.getD_eq_getD_getElem? ?_
  cases hq:p[i]? with
  | none=>exact h.1
  | some x=>exact h.2 x (Array.mem_of_getElem? hq)
theorem ZD.perm{N:Nat}{p q:Array Nat}(h:ZD N p)(hp:q.Perm p):ZD N q:=⟨h.1,fun x hx=>h.2 x (by
  have:=(Array.perm_iff_toList_perm.mp hp).mem_iff (a:=x)
  simpa using this.mp (by simpa using hx))⟩
theorem ZD.rev{N:Nat}{p:Array Nat}(h:ZD N p)(i j:Nat):ZD N (kas_rev p i j):=h.perm (krev_perm _ _ _)
theorem asc_ok{N:Nat}{p:Array Nat}(h:ZD N p):∀f n,kOk N (fun _=>True) (kas_asc p f n)
  | 0,n=>trivial
  | f+1,n=>⟨h.get _,h.get _,fun b=>by cases b; exact asc_ok h f (n+1); exact trivial⟩
theorem desc_ok{N:Nat}:∀f (p:Array Nat) n q,ZD N p→kOk N (fun r=>ZD N r.1) (kas_desc f p n q)
  | 0,p,n,q,h=>h
  | f+1,p,n,q,h=>⟨h.get _,h.get _,fun b=>by
    cases b
    · exact ⟨h.get _,h.get _,fun b=>by cases b; exact desc_ok f p _ _ h; exact h⟩
    · show kOk N _ (if q>0 then kas_desc f (kas_rev p (n-(q+1)) n) (n+1) 0 else kas_desc f p (n+1) 0)
      split
      · exact desc_ok f _ _ _ (h.rev _ _)
      · exact desc_ok f _ _ _ h⟩
theorem tail_ok{N:Nat}{n m:Nat}{p:Array Nat}(h:ZD N p):kOk N (fun r=>ZD N r.2) (kas_tail3 n m p):=by
  skip
  exact kOk.bind (P:=fun _=>True) (P':=fun r:Nat × Array Nat=>ZD N r.2) (fun a _=>show kOk N (fun r:Nat × Array Nat=>ZD N r.2) (.ret (a,kas_rev p 0 n)) from h.rev _ _) (asc_ok (h.rev _ _) _ _)
theorem descPart_ok{N:Nat}{n m:Nat}{p:Array Nat}(h:ZD N p):kOk N (fun r=>ZD N r.2) (kas_descPart n m p):=kOk.bind (fun a ha=>by
  show kOk N _ (if a.2.2>0 then _ else _)
  split
  · exact tail_ok (ZD.rev ha _ _)
  · exact tail_ok ha) (desc_ok _ _ _ _ h)
theorem count_ok{N:Nat}{n:Nat}{p:Array Nat}(h:ZD N p):kOk N (fun r=>ZD N r.2) (kas_count n p):=kOk.bind (fun a _=>by
  split
  · exact h
  · split
    · exact ⟨h.get _,h.get _,fun b=>by cases b; exact descPart_ok (h.rev _ _); exact h⟩
    · exact descPart_ok h) (asc_ok h _ _)
theorem place_ok{N:Nat}{p:Array Nat}(h:ZD N p)(k:Nat):∀f l r,kOk N (fun _=>True) (kas_place p k f l r)
  | 0,_,_=>trivial
  | f+1,l,r=>by
    show kOk N _ (if l≥r then .ret l else _)
    split
    · trivial
    · exact ⟨h.get _,h.get _,fun b=>by cases b; exact place_ok h k f _ _; exact place_ok h k f _ _⟩
theorem bin_ok{N:Nat}:∀f (p:Array Nat) k,ZD N p→kOk N (ZD N) (kas_bin f p k)
  | 0,p,k,h=>h
  | f+1,p,k,h=>kOk.bind (fun l _=>bin_ok f _ _ (h.perm (bubble_perm _ _ _))) (place_ok h k _ _ _)
theorem sort_ok{n:Nat}(h1:1≤n):kOk n (ZD n) (kas_sort n):=kOk.bind (fun r hr=>by
  show kOk n _ (if r.1<n then _ else _)
  split
  · exact bin_ok _ _ _ hr
  · exact hr) (count_ok ⟨h1,fun x hx=>by simpa using hx⟩)
end Mi
namespace Mi
open MeetsSeq MeetsSeq2 MeetsSeq3 SeqRoads2 SeqAt
noncomputable def lkey:List Int→Nat
  | []=>0
  | x::r=>x.toNat*1000 ^ r.length+lkey r
noncomputable def yR(xs:List Int):Bool:=xs.all fun x=>decide (0≤x)&&decide (x<1000)
theorem lkey_lt:∀{xs:List Int},yR xs=true→lkey xs<1000 ^ xs.length
  | [],_=>by trivial
  | x::r,h=>by
    simp only [yR,List.all_cons,Bool.and_eq_true,decide_eq_true_eq] at h
    have ih:=lkey_lt (xs:=r) (by simpa [yR] using h.2)
    have hx:x.toNat<1000:=by omega
    dsimp only [lkey,List.length_cons,Nat.pow_succ]
    have:x.toNat*1000 ^ r.length+1000 ^ r.length≤1000*1000 ^ r.length:=by
      rw [←Nat.succ_mul]; exact Nat.mul_le_mul_right _ hx
    rw [Nat.mul_comm (1000 ^ r.length)]; lia
theorem lkey_ltInts:∀{xs ys:List Int},yR xs=true→yR ys=true→xs.length=ys.length→Zs xs ys=decide (lkey xs<lkey ys)
  | [], [],_,_,_=>by rfl
  | [],_::_,_,_,h=>by contradiction
  | _::_, [],_,_,h=>by contradiction
  | x::r,y::r',h,h',hl=>by
    simp only [yR,List.all_cons,Bool.and_eq_true,decide_eq_true_eq] at h h'
    have hr:yR r=true:=by simpa [yR] using h.2
    have hr':yR r'=true:=by simpa [yR] using h'.2
    have hl':r.length=r'.length:=by simpa using hl
    have b1:=lkey_lt hr
    have b2:=lkey_lt hr'
    rw [lkey,lkey,←hl']
    rw [←hl'] at b2
    by_cases hxy:x=y
    · subst hxy
      have:=lkey_ltInts hr hr' hl'
      simp only [Zs,if_true,this]
      congr 1
      simp
    · simp only [Zs,hxy,if_false]
      congr 1
      refine propext ⟨fun hlt=>?_,fun hlt=>?_⟩
      · have hx:x.toNat+1≤y.toNat:=by grind
        have:=Nat.mul_le_mul_right (1000 ^ r.length) hx
        rw [Nat.succ_mul] at this; lia
      · by_cases hyx:y<x
        · have hx:y.toNat+1≤x.toNat:=by grind
          have:=Nat.mul_le_mul_right (1000 ^ r.length) hx
          rw [Nat.succ_mul] at this; omega
        · lia
theorem lkey_inj:∀{xs ys:List Int},yR xs=true→yR ys=true→xs.length=ys.length→lkey xs=lkey ys→xs=ys
  | [], [],_,_,_,_=>rfl
  | [],_::_,_,_,h,_=>by contradiction
  | _::_, [],_,_,h,_=>by contradiction
  | x::r,y::r',h,h',hl,e=>by
    simp only [yR,List.all_cons,Bool.and_eq_true,decide_eq_true_eq] at h h'
    have hr:yR r=true:=by simpa [yR] using h.2
    have hr':yR r'=true:=by simpa [yR] using h'.2
    have hl':r.length=r'.length:=by simpa using hl
    have b1:=lkey_lt hr
    have b2:=lkey_lt hr'
    rw [lkey,lkey,←hl'] at e
    rw [←hl'] at b2
    have hxy:x.toNat=y.toNat:=by
      rcases Nat.lt_trichotomy x.toNat y.toNat with q | q | q
      · have:=Nat.mul_le_mul_right (1000 ^ r.length) (show x.toNat+1≤y.toNat from q)
        rw [Nat.succ_mul] at this; omega
      · exact q
      · have:=Nat.mul_le_mul_right (1000 ^ r.length) (show y.toNat+1≤x.toNat from q)
        rw [Nat.succ_mul] at this; omega
    rw [hxy] at e
    refine rg (lkey_inj hr hr' hl' (by lia)) ?_; refine rg (show x=y by grind) ?_; rfl
noncomputable def intsOf(v:V):List Int:=match v with
  | .tup vs=>(zM vs).getD []
  | _=> []
noncomputable def vkey(v:V):Nat:=lkey (intsOf v)
noncomputable def tkOk(n:Nat)(v:V):Bool:=match v with
  | .tup vs=>match zM vs with
    | some xs=>decide (xs.length=n)&&yR xs
    | none=>false
  | _=>false
theorem tupInts_eq:∀{vs:List V} {xs:List Int},zM vs=some xs→vs=xs.map .int
  | [],xs,h=>by simp [zM] at h; subst h; rfl
  | .int i::r,xs,h=>by
    rw [zM,Option.map_eq_some_iff] at h
    obtain ⟨ys,h1,rfl⟩:=h
    refine rg (tupInts_eq h1) ?_; rfl
  | .undef::_,_,e=>by contradiction
  | .none::_,_,e=>by contradiction
  | .bool _::_,_,e=>by contradiction
  | .str _::_,_,e=>by contradiction
  | .tup _::_,_,e=>by contradiction
  | .lst _::_,_,e=>by contradiction
  | .loc _::_,_,e=>by contradiction
  | .cst _::_,_,e=>by contradiction
theorem ZH:∀(xs:List Int),zM (xs.map .int)=some xs
  | []=>rfl
  | x::r=>by simp [zM,ZH r]
theorem tkOk_iff{n:Nat}{v:V}(h:tkOk n v=true):∃xs:List Int,v = .tup (xs.map .int)∧xs.length=n∧yR xs=true∧intsOf v=xs:=by
  unfold tkOk at h
  split at h
  · rename_i vs
    split at h
    · rename_i xs e1
      simp only [Bool.and_eq_true,decide_eq_true_eq] at h
      refine ⟨xs,by rw [tupInts_eq e1],h.1,h.2,by simp [intsOf,e1]⟩
    · contradiction
  · contradiction
noncomputable def vle(a b:V):Bool:=decide (vkey a≤vkey b)
theorem vle_trans(a b c:V)(h1:vle a b=true)(h2:vle b c=true):vle a c=true:=by
  simp only [vle,decide_eq_true_eq] at *; exact Nat.le_trans ‹_› ‹_›
theorem vle_total(a b:V):(vle a b||vle b a)=true:=by
  dsimp only [vle,Bool.or_eq_true,decide_eq_true_eq]; lia
theorem vsort_unique{n:Nat}{vs ws:List V}(hk:vs.all (tkOk n)=true)(hp:ws.Perm vs)(hs:ws.Pairwise fun a b=>vkey a≤vkey b):ws=vs.mergeSort vle:=by
  have hmem:∀v,v∈vs→tkOk n v=true:=fun v hv=>List.all_eq_true.mp hk v hv
  refine List.Perm.eq_of_pairwise (le:=fun a b=>vkey a≤vkey b) (fun a b ha hb h1 h2=>?_) hs ?_ (hp.trans (List.mergeSort_perm vs vle).symm)
  · obtain ⟨xs,rfl,e2,e3,e4⟩:=tkOk_iff (hmem a (hp.mem_iff.mp ha))
    obtain ⟨ys,rfl,g2,g3,g4⟩:=tkOk_iff (hmem b ((List.mergeSort_perm vs vle).mem_iff.mp hb))
    have:vkey (.tup (xs.map .int))=vkey (.tup (ys.map .int)):=Nat.le_antisymm h1 h2
    unfold vkey at this
    rw [e4,g4] at this
    refine rg (lkey_inj e3 g3 (e2.trans g2.symm) this) ?_; rfl
  · have:=List.pairwise_mergeSort vle_trans vle_total vs
    exact this.imp fun h=>by simpa [vle] using h
section
variable {G:Gd}{r:Nat}{cx cx':Cx}{fm:Fm}{W W':Addr→Prop}{μ μ' μ₁ μ₀ ν:List Addr}{h h':Heap}{ρ ρ' ρ₁:List V}{σ σ' σ₁ σ₀:List AObj}{A:Around}{E:Value→Shared→Prop}{s s' s₁:Shared}{v:V}{b:Bool}{e:Expr}{fl:Fl}
theorem kwp_of{α:Type}{cmp:Nat→Nat→(Bool→Shared→Prop)→Shared→Prop}{lt:Nat→Nat→Bool}{Q:α→Shared→Prop}{N:Nat}{P:α→Prop}(hc:∀i j C,i<N→j<N→C (lt i j) s→cmp i j C s):∀t:KasT α,kOk N P t→Q (krun lt t) s→t.kasWp cmp Q s
  | .ret a,_,h=>h
  | .ask i j k,g,h=>hc i j _ g.1 g.2.1 (kwp_of hc (k (lt i j)) (g.2.2 _) h)
theorem getD_toList(p:Array Nat){k:Nat}(hk:k<p.toList.length):p.getD k 0=p.toList[k]:=by
  have hk':k<p.size:=by simpa using hk
  simp [Array.getD,hk']
structure TupAt(h:Heap)(v:V)(x:Value)(n:Nat):Prop where
  ok:tkOk n v=true
  at':∃a items c,x = .ref a∧h.get? a=some (tupObj items c)∧IntsAre items (intsOf v)
theorem lex_wp{prog:Program}{w:World}{b fin:Bool}{Q:Bool→Shared→Prop}{xs:List Int}{as:List Value}(ha:IntsAre as xs):∀{ys:List Int} {bs:List Value} {i:Nat},IntsAre bs ys→xs.length=ys.length→fin=false→Q (Zs xs ys) s→KatLex prog w A b fin Q (as.zip bs) i s:=by
  induction ha with
  | nil=>intro ys bs i hb hl hf h; cases hb with
    | nil=>subst hf; exact h
    | cons=>cases hl
  | cons x t ha ih=>intro ys bs i hb hl hf h; cases hb with
    | nil=>cases hl
    | cons y u hb=>
      have h2:Q (if x=y then Zs _ _ else decide (x<y)) s:=h
      refine kat_cons (EqGives.int x y t u prog w _ _ _ _ ?_)
      by_cases hxy:x=y
      · rw [if_pos hxy] at h2
        clear h
        subst hxy
        rw [beq_self_eq_true]
        exact kat_yes (ih hb (Nat.succ.inj hl) hf h2)
      · rw [if_neg hxy] at h2
        rw [show (x==y)=false from beq_eq_false_iff_ne.mpr hxy]
        refine kat_no ?_
        cases hb':(b&&i==0) with
        | true=>exact oneLt_int h2
        | false=>exact kat_one _ _ (P.lt_int h2)
theorem tup_lt{prog:Program}{w:World}{b:Bool}{Q:Bool→Shared→Prop}{v1 v2:V}{x y:Value}{n:Nat}(h1:TupAt s.heap v1 x n)(h2:TupAt s.heap v2 y n)(h:Q (decide (vkey v1<vkey v2)) s):wpAny (model prog w) A (keyLt' (tuples' b) x y) Q E s:=by
  obtain ⟨o1,a1,it1,c1,rfl,g1,i1⟩:=h1
  obtain ⟨o2,a2,it2,c2,rfl,g2,i2⟩:=h2
  refine xe14 (tkOk_iff o1) fun xs _ l1 k1 e1=>?_
  refine xe14 (tkOk_iff o2) fun ys _ l2 k2 e2=>?_
  rw [e1] at i1
  rw [e2] at i2
  have hl:=i1.length
  have hl2:=i2.length
  refine kat_lt g1 rfl g2 rfl ?_
  refine lex_wp i1 i2 (l1.trans l2.symm) ?_ ?_
  · simp only [List.size_toArray,decide_eq_false_iff_not]; lia
  · refine rg (lkey_ltInts k1 k2 (l1.trans l2.symm)) ?_
    unfold vkey at h
    rwa [e1,e2] at h
noncomputable def yP(h:Heap)(n:Nat):List V→List Value→Prop
  | [],xs=>xs= []
  | v::vs,xs=> ∃y ys,xs=y::ys∧TupAt h v y n∧yP h n vs ys
theorem yP.get{n:Nat}:∀{vs:List V} {xs:List Value},yP h n vs xs→∀{i:Nat},i<vs.length→TupAt h (vs.getD i .undef) (xs.getD i Value.none) n
  | []=>fun _ _ hi=>absurd hi (Nat.not_lt_zero _)
  | v::vs=>fun q i hi=>xe23 q fun y ys e h1 h2=>by
    subst e
    cases i with
    | zero=>exact h1
    | succ i=>exact yP.get h2 (i:=i) (Nat.lt_of_succ_lt_succ hi)
theorem TupAt.keeps{n:Nat}{y:Value}(hk:∀b o,h.get? b=some o→h'.get? b=some o)(q:TupAt h v y n):TupAt h' v y n:=⟨q.ok,xe33 q.at' fun a it c e2 h2 h3=>⟨a,it,c,e2,hk _ _ h2,h3⟩⟩
theorem yP.keeps{n:Nat}(hk:∀b o,h.get? b=some o→h'.get? b=some o):∀{vs:List V} {xs:List Value},yP h n vs xs→yP h' n vs xs
  | []=>fun q=>q
  | v::vs=>fun q=>xe23 q fun y ys e h1 h4=>⟨y,ys,e,h1.keeps hk,yP.keeps hk h4⟩
theorem yP.of{n:Nat}:∀{vs:List V} {xs:List Value},VRs G μ h vs xs→vs.all (tkOk n)=true→yP h n vs xs
  | []=>fun q _=>q
  | v::vs=>fun q hk=>xe23 q fun y ys e q1 q2=>by
    have hk:=Bool.and_eq_true_iff.mp (List.all_cons.symm.trans hk)
    refine ⟨y,ys,e,⟨hk.1,?_⟩,yP.of q2 hk.2⟩
    obtain ⟨xs,rfl,_,_,e4⟩:=tkOk_iff hk.1
    exact xe35 q1 fun a items c e1 _ e2 _ e3=>⟨a,items,c,e1,e2,by refine rg e4 ?_; exact yG (ZH xs) e3⟩
theorem yP.firsts{n:Nat}(hn:0<n):∀{vs:List V} {xs:List Value},yP h n vs xs→∃fs,KatTups h xs fs∧fs.length=vs.length∧∀f∈fs,∃i t,f=Value.int i t
  | [],_,q=>by
    have q:_= []:=q
    subst q
    exact ⟨[],trivial,rfl,fun _ h=>nomatch h⟩
  | v::vs,_,⟨y,ys,e,⟨h1,a,it,c,e',h2,h3⟩,h4⟩=>by
    subst e e'
    refine xe13 (h4.firsts hn) fun fs g1 g2 g3=>?_
    refine xe14 (tkOk_iff h1) fun xs _ l1 _ e1=>?_
    rw [e1] at h3
    cases h3 with
    | nil=>simp at l1; lia
    | cons i t h3=>
      refine ⟨.int i t::fs,KatTups.cons h2 rfl rfl (by rfl) g1,by simp [g2],fun f hf=>?_⟩
      rcases List.mem_cons.mp hf with rfl | hf
      · exact ⟨i,t,rfl⟩
      · exact g3 f hf
theorem short_zip{xs:List Value}(h:xs.length<2):(xs.toArray.zip xs.toArray).map (·.2)=((List.range xs.length).map fun i=>xs.getD i Value.none).toArray:=by
  cases xs with
  | nil=>simp
  | cons x xs=>cases xs with
    | nil=>simp
    | cons y xs=>exact absurd h (Nat.not_lt.mpr (Nat.le_add_left 2 _))
theorem short_pw{vs:List V}(h:vs.length<2):((List.range vs.length).map fun i=>vs.getD i .undef).Pairwise (fun a b=>vkey a≤vkey b):=by
  cases vs with
  | nil=>exact List.Pairwise.nil
  | cons x xs=>cases xs with
    | nil=>exact List.pairwise_singleton _ _
    | cons y xs=>exact absurd h (Nat.not_lt.mpr (Nat.le_add_left 2 _))
theorem sorted_tups{prog:Program}{w:World}{l:Addr}{xs:List Value}{vs:List V}{n:Nat}{Q:Value→Shared→Prop}(hl:s.heap.IsList l xs.toArray)(hT:yP s.heap n vs xs)(hlen:xs.length=vs.length)(hn:0<n)(h64:xs.length<64)
    (h:∀p:List Nat,p.Perm (List.range xs.length)→(p.map fun i=>vs.getD i .undef).Pairwise (fun a b=>vkey a≤vkey b)→Q (.ref (s.heap.objs.size+1)) {s with heap:=sortedAll s.heap xs (p.map fun i=>xs.getD i Value.none).toArray}) :
    wpAny (model prog w) A (call (.builtin "sorted") [.ref l]) Q E s:=by
  refine Calls.call_function_entry PyProof.Rows.kind_sorted PyProof.Rows.plain_sorted PyProof.Rows.entry_sorted (PyProof.Rows.args_sorted1 _) ?_
  unfold Builtin.«sorted»
  refine wpAny_bind (m:=checkCount "sorted" 1 1 _) (wpAny_pure ?_)
  refine wpAny_bind (collect_list hl ?_ (by refine rg sizeLine_eq ?_; lia))
  refine wpAny_bind (wpAny_newList ?_ (by refine rg sizeLine_eq ?_; lia))
  have hsz:((s.heap.push (seqObj "list" #[] 0)).update s.heap.objs.size (Obj.mapSeq (· ++ xs.toArray))).objs.size=s.heap.objs.size+1:=by
    rw [Heap.size_update,size_push']
  have hoL:(((s.heap.push (seqObj "list" #[] 0)).update s.heap.objs.size (Obj.mapSeq (· ++ xs.toArray))).push (seqObj "list" xs.toArray 0)).get? (s.heap.objs.size+1)=some (seqObj "list" xs.toArray 0):=by
    refine rl hsz ?_; exact Heap.get?_push_size _ rfl
  show wpAny _ _ _ _ _ {s with heap:=((s.heap.push (seqObj "list" #[] 0)).update s.heap.objs.size (Obj.mapSeq (· ++ xs.toArray))).push (seqObj "list" xs.toArray 0)}
  rw [hsz]
  have hk1:∀b o,s.heap.get? b=some o→(((s.heap.push (seqObj "list" #[] 0)).update s.heap.objs.size (Obj.mapSeq (· ++ xs.toArray))).push (seqObj "list" xs.toArray 0)).get? b=some o:=fun b o e=>by
    refine Heap.get?_push_of_some _ ?_
    refine rg (Heap.get?_update_ne _ _ _ _ (Nat.ne_of_lt (Heap.lt_size e))) ?_
    exact Heap.get?_push_of_some _ e
  unfold sortedAll at h
  have hT1:=hT.keeps hk1
  have ha1:∀b o,s.heap.get? b=some o→b≠s.heap.objs.size+1:=fun b o e=>Nat.ne_of_lt (Nat.lt_succ_of_lt (Heap.lt_size e))
  generalize hH:((s.heap.push (seqObj "list" #[] 0)).update s.heap.objs.size (Obj.mapSeq (· ++ xs.toArray))).push (seqObj "list" xs.toArray 0)=H at hoL h hT1 hk1 ⊢
  generalize ha:s.heap.objs.size+1=a at hoL h ha1 ⊢
  refine wpAny_bind (wpAny_holding (wpAny_call_entry PyProof.Rows.slot_list_sort ⟨_,hoL,rfl⟩ PyProof.Rows.entry_list_sort ?_ (PyProof.Rows.args_list_sort _)))
  rw [list_sort_plain]
  have ho:=hoL
  have haH:a<H.objs.size:=Heap.lt_size ho
  refine wpAny_bind (listItems_at ho rfl ?_)
  refine wpAny_bind (listUpdate_at ho rfl ?_ (by refine rg List.size_toArray ?_; refine rg sizeLine_eq ?_; lia) (Nat.zero_le _))
  obtain ⟨e1,ho1⟩:∃e1,(H.update a (Obj.mapSeq fun _=> #[])).get? a=some (seqObj "list" #[] e1):=⟨_,get?_update_seq ho (fun _=> #[])⟩
  refine wpAny_bind (seqEpoch_at ho1 rfl ?_)
  refine wpAny_bind (wpAny_newTuple ?_ (by show xs.length≤_; refine rg sizeLine_eq ?_; lia))
  refine wpAny_bind (wpAny_newList ?_ (Nat.zero_le _))
  refine wpAny_holding ?_
  have ho6:(((H.update a (Obj.mapSeq fun _=> #[])).push (seqObj "tuple" xs.toArray 0)).push (seqObj "list" #[] 0)).get? a=some (seqObj "list" #[] e1):=by
    rw [Heap.get?_push_ne _ _ _ (by rw [size_push',Heap.size_update]; exact Nat.ne_of_lt (Nat.lt_succ_of_lt haH)),Heap.get?_push_ne _ _ _ (by rw [Heap.size_update]; exact Nat.ne_of_lt haH)]
    exact ho1
  show wpAny (model prog w) _ _ _ _ {s with heap:=((H.update a (Obj.mapSeq fun _=> #[])).push (seqObj "tuple" xs.toArray 0)).push (seqObj "list" #[] 0)}
  have hT2:yP (((H.update a (Obj.mapSeq fun _=> #[])).push (seqObj "tuple" xs.toArray 0)).push (seqObj "list" #[] 0)) n vs xs:=by
    refine hT.keeps fun b o e=>Heap.get?_push_of_some _ (Heap.get?_push_of_some _ ?_)
    refine rg (Heap.get?_update_ne _ _ _ _ (ha1 b o e)) ?_
    exact hk1 b o e
  dsimp only
  by_cases h2:xs.toArray.size<2
  · refine rg (if_pos h2) ?_; refine rg (if_pos h2) ?_
    refine wpAny_bind (wpAny_pure ?_)
    dsimp only [StateT.run_pure]
    refine wpAny_bind (wpAny_pure ?_)
    dsimp only
    have hout:(arrOf (SortSt.mk' general' (xs.toArray.zip xs.toArray) #[] 7 none)).map (·.2)=((List.range xs.length).map fun i=>xs.getD i Value.none).toArray:=by
      show (xs.toArray.zip xs.toArray).map (·.2)=_
      exact short_zip (by simpa using h2)
    refine rg hout ?_
    refine wpAny_bind (seqEpoch_at ho6 rfl ?_)
    refine wpAny_bind (listUpdate_at ho6 rfl ?_ (Nat.zero_le _) (by show _≤sizeLine+1; simp only [List.size_toArray,List.length_map,List.length_range,sizeLine_eq]; lia))
    simp only [bne_self_eq_false,Bool.false_eq_true,if_false]
    refine wpAny_pure ⟨_,rfl,wpAny_pure ⟨_,rfl,h _ (List.Perm.refl _) ?_⟩⟩
    refine rg hlen ?_
    exact short_pw (show vs.length<2 by refine rl hlen ?_; simpa using h2)
  · have hx2:2≤xs.length:=by simp at h2; omega
    refine rg (if_neg h2) ?_; refine rg (if_neg h2) ?_
    refine xe13 (hT2.firsts hn) fun fs f1 f2 f3=>?_
    refine wpAny_bind (kat_kind (T:= .type "int") f1 (by lia) (fun v hv=>?_) rfl ?_)
    · obtain ⟨i,t,rfl⟩:=f3 v hv
      exact fun A Q E s _ hq=>wpAny_pure hq
    have hn1:1≤xs.length:=by exact Nat.le_of_lt ‹_›
    have hsp:=sort_spec (fun i=>vkey (vs.getD i .undef)) hn1
    have key:(kas_sort xs.length).kasWp (kas_ask prog w A.in1.in1 (tuples' (Value.type "int" != Value.type "tuple")) xs) (fun p s'=>p=krun (klt fun i=>vkey (vs.getD i .undef)) (kas_sort xs.length)∧s'={s with heap:=((H.update a (Obj.mapSeq fun _=> #[])).push (seqObj "tuple" xs.toArray 0)).push (seqObj "list" #[] 0)}) {s with heap:=((H.update a (Obj.mapSeq fun _=> #[])).push (seqObj "tuple" xs.toArray 0)).push (seqObj "list" #[] 0)}:=by
      refine kwp_of (N:=xs.length) (lt:=klt fun i=>vkey (vs.getD i .undef)) (fun i j C hi hj hC=>?_) _ (sort_ok hn1) ⟨rfl,rfl⟩
      exact tup_lt (hT2.get (by lia)) (hT2.get (by lia)) hC
    refine wpAny_bind (wpAny_mono (kat_run (ks:=xs) (vs:=xs) (Q:=fun st' s'=>(arrOf st').map (·.2)=((krun (klt fun i=>vkey (vs.getD i .undef)) (kas_sort xs.length)).toList.map fun i=>xs.getD i Value.none).toArray∧failedOf st'=none∧s'={s with heap:=((H.update a (Obj.mapSeq fun _=> #[])).push (seqObj "tuple" xs.toArray 0)).push (seqObj "list" #[] 0)})
      rfl hx2 h64 (fun p' st' s' a1 a2 a3 ⟨a4,a5⟩=>⟨by subst a4; exact kat_snds rfl a2,a3,a5⟩) key) ?_ fun _ _ x=>x)
    rintro ⟨⟨⟩,st'⟩ s' ⟨hout,hf,rfl⟩
    dsimp only
    refine rg hout ?_
    have hpp:(krun (klt fun i=>vkey (vs.getD i .undef)) (kas_sort xs.length)).toList.Perm (List.range xs.length):=by simpa using Array.perm_iff_toList_perm.mp hsp.1
    refine wpAny_bind (seqEpoch_at ho6 rfl ?_)
    refine wpAny_bind (listUpdate_at ho6 rfl ?_ (Nat.zero_le _) (by show _≤sizeLine+1; simp only [List.size_toArray,List.length_map,hpp.length_eq,List.length_range,sizeLine_eq]; lia))
    rw [hf]
    simp only [bne_self_eq_false,Bool.false_eq_true,if_false]
    refine wpAny_pure ⟨_,rfl,wpAny_pure ⟨_,rfl,h _ hpp ?_⟩⟩
    have hsz:(krun (klt fun i=>vkey (vs.getD i .undef)) (kas_sort xs.length)).size=xs.length:=by
      have:=hpp.length_eq; simpa using this
    rw [List.pairwise_map,List.pairwise_iff_getElem]
    intro i j hi hj hij
    have h3:=hsp.2 i j (Nat.le_of_lt hij) (by refine rl hsz ?_; simpa using hj)
    have g:∀k (hk:k<(krun (klt fun i=>vkey (vs.getD i .undef)) (kas_sort xs.length)).toList.length),(krun (klt fun i=>vkey (vs.getD i .undef)) (kas_sort xs.length)).getD k 0=(krun (klt fun i=>vkey (vs.getD i .undef)) (kas_sort xs.length)).toList[k]:=fun k hk=>by
      exact getD_toList _ hk
    unfold kP at h3
    rw [g i hi,g j hj] at h3
    exact h3
noncomputable def yN(σ:List AObj):List V→Option V
  | [v]=>match (if isLst v then yM σ v else none) with
    | some vs=>if vs.length<64 then match zM vs with
        | some xs=>some (.lst ((xs.mergeSort fun a b=>decide (a≤b)).map .int))
        | none=>if vs.all (tkOk 2)||vs.all (tkOk 3) then some (.lst (vs.mergeSort vle)) else none
      else none
    | none=>none
  | _=>none
theorem isLst_obj(I:Inv G μ σ s){y:Value}{vs:List V}(q:VR G μ s.heap v y)(hl:isLst v=true)(e1:yM σ v=some vs):∃a items n,y = .ref a∧s.heap.get? a=some (zN items n)∧vs.length≤LIM∧VRs G μ s.heap vs items:=by
  have e3:yx σ v=some (.lst vs):=by
    cases v <;> simp [isLst] at hl
    · simpa [yM,yx] using e1
    · rename_i l
      dsimp only [yM] at e1
      split at e1
      · rename_i ws e4
        simp only [yx,e4]
        simpa using e1
      · contradiction
  refine xe34 (q.islist I e3) fun a items n rfl h1 h2 h3=>?_
  exact ⟨a,items,n,rfl,h1,h2,h3⟩
theorem VRs.ofInts{xs:List Int}{ys:List Value}(q:IntsAre ys xs):VRs G μ h (xs.map V.int) ys:=by
  induction q with
  | nil=>rfl
  | cons x t hb ih=>exact ⟨_,_,rfl,⟨t,rfl⟩,ih⟩
theorem VRs.pick{vs:List V}{xs:List Value}(q:VRs G μ h vs xs):∀{p:List Nat},(∀i∈p,i<vs.length)→VRs G μ h (p.map fun i=>vs.getD i .undef) (p.map fun i=>xs.getD i Value.none)
  | [],_=>rfl
  | i::p,hp=>by
    have hi:=hp i List.mem_cons_self
    refine xe12 (q.get (List.getElem?_eq_getElem hi)) fun y e1 e2=>?_
    refine ⟨_,_,rfl,?_,VRs.pick q fun j hj=>hp j (List.mem_cons_of_mem _ hj)⟩
    show VR G μ h (vs.getD i .undef) (xs.getD i Value.none)
    refine rg List.getD_eq_getElem?_getD ?_; refine rg List.getD_eq_getElem?_getD ?_; refine rg e1 ?_; refine rg (List.getElem?_eq_getElem hi) ?_
    exact e2
theorem ZL:PrimOk G r (.builtin "sorted") yN:=fun A μ σ s vs ys v a I q hf=>by
  unfold yN at hf
  split at hf
  · rename_i w
    split at hf
    · rename_i ws e0
      have hl:isLst w=true:=by
        cases hq:isLst w
        · simp [hq] at e0
        · rfl
      rw [if_pos hl] at e0
      split at hf
      · rename_i h64
        obtain ⟨y,rfl,q'⟩:=VRs.one_inv q
        obtain ⟨ad,items,n,rfl,ho,h2,h3⟩:=isLst_obj I q' hl e0
        have hL:s.heap.IsList ad items.toArray:=⟨_,ho,rfl,n,rfl⟩
        have hlen:=h3.length
        have hkeep:∀(out:Array Value) b o,s.heap.get? b=some o→(sortedAll s.heap items out).get? b=some o:=fun out b o e=>sortedAll_old e
        split at hf
        · rename_i xs e1
          cases hf
          have hi:=yG e1 h3
          refine yk (sorted_ints hL hi (by lia) fun out ns' a1 a2 a3 hz=>?_)
          obtain ⟨e,he⟩:=sortedAll_at s.heap items out
          refine Good.keep I (tk:=s.toks) (fun b o e=>hkeep _ b o e) hz ?_
          have hns:ns'=xs.mergeSort fun a b=>decide (a≤b):=by
            refine List.Perm.eq_of_pairwise (le:=fun a b:Int=>a≤b) (fun a b _ _ h1 h2=>Int.le_antisymm h1 h2) a3 ?_ (a2.trans (List.mergeSort_perm xs _).symm)
            have:=List.pairwise_mergeSort (le:=fun a b:Int=>decide (a≤b)) (fun a b c h1 h2=>by simp only [decide_eq_true_eq] at *; lia) (fun a b=>by simp only [Bool.or_eq_true,decide_eq_true_eq]; lia) xs
            exact this.imp fun h=>by simpa using h
          refine rl hns ?_
          refine ⟨_,out.toList,e,rfl,fun q=>?_,he,?_,VRs.ofInts a1⟩
          · exact absurd (I.new _ q).2 (Nat.not_lt.mpr (Nat.le_succ _))
          · have:=a1.length
            have h5:=a2.length_eq
            have h6:=hi.length
            have:=zv
            simp only [List.length_map]; lia
        · split at hf
          · rename_i hk
            cases hf
            have hk':∃n,0<n∧ws.all (tkOk n)=true:=by
              simp only [Bool.or_eq_true] at hk
              rcases hk with hk | hk
              · exact ⟨2,by decide,hk⟩
              · exact ⟨3,by decide,hk⟩
            refine xe12 hk' fun n' hn' hk'=>?_
            refine yk (sorted_tups hL (yP.of h3 hk') hlen hn' (by lia) fun p hp hs hz=>?_)
            obtain ⟨e,he⟩:=sortedAll_at s.heap items (p.map fun i=>items.getD i Value.none).toArray
            refine Good.keep I (tk:=s.toks) (fun b o e=>hkeep _ b o e) hz ?_
            have hpm:(p.map fun i=>ws.getD i .undef).Perm ws:=by
              have h7:((List.range items.length).map fun i=>ws.getD i .undef)=ws:=by
                refine rg hlen ?_
                refine List.ext_getElem (by simp) fun i h1 h2=>?_
                simp at h1
                simp [h1]
              exact (hp.map _).trans (List.Perm.of_eq h7)
            refine rl (vsort_unique hk' hpm hs) ?_
            obtain ⟨_,st⟩:=I.kept (fun b o e=>hkeep (p.map fun i=>items.getD i Value.none).toArray b o e) hz s.toks
            refine ⟨_,_,e,rfl,fun q=>?_,he,?_,(VRs.pick h3 fun i hi=>?_).step st⟩
            · exact absurd (I.new _ q).2 (Nat.not_lt.mpr (Nat.le_succ _))
            · have:=zv
              refine rg hpm.length_eq ?_; omega
            · have:=hp.mem_iff.mp hi
              rw [List.mem_range,hlen] at this
              exact this
          · contradiction
      · contradiction
    · contradiction
  · contradiction
end
end Mi
namespace Mi
open MeetsSeq MeetsSeq2 MeetsSeq3 SeqRoads2 SeqAt
theorem okS.of{l:List Nat}(h:(decide (l.length≤LIM)&&l.all fun c=>decide (c<1114112))=true):okS l:=by
  simp only [Bool.and_eq_true,decide_eq_true_eq,List.all_eq_true] at h
  exact h
section
variable {G:Gd}{r:Nat}{cx cx':Cx}{fm:Fm}{W W':Addr→Prop}{μ μ' μ₁ μ₀ ν:List Addr}{h h':Heap}{ρ ρ' ρ₁:List V}{σ σ' σ₁ σ₀:List AObj}{A:Around}{E:Value→Shared→Prop}{s s' s₁:Shared}{v:V}{b:Bool}{e:Expr}{fl:Fl}
noncomputable def GI(G:Gd)(x:Str)(i:Int):Prop:= ∃t,G.mg x=some (.int i t)
theorem ZJ(K:GOk G){x:Str}{i:Int}{pos:Pos}(hx:cx.names.lookup x=some .globalImplicit)(hg:GI G x i)(hd:(x==("__debug__":Str))=false:=by kernel_rfl):SE G r cx (.Name x pos) (za (.int i)):=fun A fm μ ρ σ s v σ' a O I F hf=>by
  cases hf
  refine xe11 hg fun t hg=>?_
  exact load_global K O I hx hg hd (Good.same0 I ⟨t,rfl⟩)
structure GFn(G:Gd)(r:Nat)(x:Str)(F:List V→List AObj→Option (V × List AObj)):Prop where
  ex:∃a o fd,G.mg x=some (.ref a)∧G.h0.get? a=some o∧o.data = .func fd∧Z1 G r (.ref a) F
theorem GFn.le{r':Nat}{x:Str}{F:List V→List AObj→Option (V × List AObj)}(h:GFn G r x F)(hr:r≤r'):GFn G r' x F:=by
  obtain ⟨a,o,fd,h1,h2,h3,h4⟩:=h
  exact ⟨a,o,fd,h1,h2,h3,fun A μ σ s vs ys v σ' ak=>h4 A μ σ s vs ys v σ' (ak.le hr)⟩
theorem zV(K:GOk G){x:Str}{p pos:Pos}{es:List Expr}{g:EsF}{F:List V→List AObj→Option (V × List AObj)}(hx:cx.names.lookup x=some .globalImplicit)(H:GFn G r x F)(hs:SEs G r cx es g)
    (hd:(x==("__debug__":Str))=false:=by kernel_rfl) (hplain:∀env pos,(backTo pos (starEach es env)).any (·.1)=false:=by exact fun _ _=>rfl):SE G r cx (.Call (.Name x p) es [] pos) (zy g F):=by
  obtain ⟨a,o,fd,h1,h2,h3,h4⟩:=H
  exact se_callf K hx h1 ⟨h2,h3⟩ h4 hs hd hplain
noncomputable abbrev fnG(n m:Nat)(body:SF):List V→List AObj→Option (V × List AObj):=fun vs σ=>if vs.length=m then fnF n body vs σ else none
theorem ZN(K:GOk G){a:Addr}{x:Str}{fd:FuncData}{body:List Stmt}{ps:List Str}{bf:SF}(hg:G.mg x=some (.ref a))(N:FnAt G a fd body ps cx)(hb:SSs G r cx body bf):GFn G (r+1) x (fnG cx.xs.length ps.length bf):=by
  refine xe12 N.obj fun o h1 h2=>?_
  exact ⟨a,o,fd,hg,h1,h2,call_fn K N hb⟩
noncomputable def fAsg2(f:EF)(g h:TF):SF:=fun ρ σ=>match f ρ σ with
  | some (v,σ)=>match g v ρ with
    | some ρ=>(h v ρ).map fun ρ=>(.next,ρ,σ)
    | none=>none
  | none=>none
theorem ss_asg2{t u value:Expr}{pos:Pos}{f:EF}{g h:TF}(hv:SE G r cx value f)(ht:ST G r cx t g)(hu:ST G r cx u h)
    (hw:∀env,swappedStores [t,u] value env=pure none:=by exact fun _=>rfl) (he:∀env,(assignEach [t,u] env).map (·.2)= [assign t env,assign u env]:=by exact fun _=>rfl) :
    SS G r cx (.Assign [t,u] value pos) (fAsg2 f g h):=fun A fm μ ρ σ s fl ρ' σ' a O I F hf=>by
  unfold fAsg2 at hf
  split at hf
  · rename_i v σ₁ e1
    split at hf
    · rename_i ρ₁ e2
      rw [Option.map_eq_some_iff] at hf
      refine xe12 hf fun ρ₂ e3 e4=>?_
      cases e4
      refine wpAny_Assign_two (hv.use a O I F e1 fun y s₁ μ₁ st₁ I₁ F₁ q₁=>?_) (he _) (hw _)
      refine wpAny_mono (ht A fm μ₁ ρ ρ₁ _ s₁ v y a O I₁ F₁ q₁ e2) (fun _ s₂ g=>?_) fun _ _ x=>x.elim
      refine xe03 g fun st₂ F₂ I₂=>?_
      refine wpAny_mono (hu A fm μ₁ ρ₁ _ _ s₂ v y a O I₂ F₂ (q₁.step st₂) e3) (fun _ s₃ g=>?_) fun _ _ x=>x.elim
      exact ⟨μ₁,(st₁.of0.trans st₂).trans g.1,g.2.2,g.2.1,rfl⟩
    · contradiction
  · contradiction
theorem oVl{γ:Type}{v:γ}{F:List V→Option γ}{a:Option V}{C:Prop}(h:(match a with | some (.lst i)=>F i | _=>none)=some v)(k:∀i,a=some (.lst i)→F i=some v→C):C:=by
  cases a with
  | none=>contradiction
  | some x=>cases x with
    | lst i=>exact k i rfl h
    | _=>contradiction
noncomputable def catOf(new:Bool)(σ:List AObj)(a b:V):Option (V × List AObj):=match yx σ a with
  | some (.lst x)=>match yx σ b with
    | some (.lst y)=>if x.length+y.length≤LIM then some (cond new (.loc σ.length,σ++ [.list (x++y)]) (.lst (x++y),σ)) else none
    | _=>none
  | _=>none
noncomputable def fCat(new:Bool)(f g:EF):EF:=fun ρ σ=>match f ρ σ with
  | some (a,σ)=>match g ρ σ with
    | some (b,σ)=>catOf new σ a b
    | none=>none
  | none=>none
theorem cat_good(K:GOk G)(I:Inv G μ σ s){vs:List V}{items:List Value}(hl:vs.length≤LIM)(q:VRs G μ s.heap vs items):∀new:Bool,Good G μ s (cond new (.loc σ.length) (.lst vs)) (cond new (σ++ [.list vs]) σ) (.ref s.heap.objs.size) {s with heap:=s.heap.push (zN items 0)}
  | true=>Good.newlist K I s.toks 0 q hl
  | false=>Good.lst I s.toks 0 q hl
theorem se_cat(new:Bool)(K:GOk G){l rr:Expr}{pos:Pos}{f g:EF}(hl:SE G r cx l f)(hr:SE G r cx rr g):SE G r cx (.BinOp l .Add rr pos) (fCat new f g):=fun A fm μ ρ σ s v σ' a O I F hf=>by
  refine oE hf fun x σ₁ e1 hf=>oE hf fun y σ₂ e2 hf=>oVl hf fun xs e3 hf=>oVl hf fun ys e4 hf=>oIf hf fun hlen e5=>?_
  refine wpAny_BinOp (hl.use a O I F e1 fun p s₁ μ₁ st₁ I₁ F₁ q₁=>hr.use a O I₁ F₁ e2 fun q s₂ μ₂ st₂ I₂ F₂ q₂=>?_)
  refine xe34 ((q₁.step st₂).islist I₂ e3) fun a1 i1 n1 z1 h1 _ h3=>xe34 (q₂.islist I₂ e4) fun a2 i2 n2 z2 g1 _ g3=>?_
  have gg:=(cat_good K I₂ ((List.length_append (as:=xs) (bs:=ys)).symm▸hlen) (h3.append g3) new).after (st₁.trans st₂)
  refine z1▸z2▸P.add_list h1 g1 ?_ (Nat.le_trans (by simpa [h3.length,g3.length] using hlen) yd)
  cases new <;> exact (Prod.mk.inj e5).1▸(Prod.mk.inj e5).2▸(by simpa [zN] using gg)
structure Bis(G:Gd):Prop where
  K:GOk G
  len:BI G "len" (.builtin "len")
  list:BI G "list" (.type "list")
  range:BI G "range" (.type "range")
  min:BI G "min" (.builtin "min")
  max:BI G "max" (.builtin "max")
  sum:BI G "sum" (.builtin "sum")
  str:BI G "str" (.type "str")
  int:BI G "int" (.type "int")
  sorted:BI G "sorted" (.builtin "sorted")
  reversed:BI G "reversed" (.type "reversed")
end
end Mi
namespace Mi
open MeetsSeq MeetsSeq2 MeetsSeq3 SeqRoads2 SeqAt
structure ClsOk(h:Heap)(C N:Addr)(mN:Str→Option Value):Prop where
  obj:∃nm q bs sn sub ab col dd k0 k1 k2 k3 k5 newId,h.get? C=some (excClassObj nm q C N bs [.type "object"] true sn sub ab col dd k0 k1 k2 k3 k5 newId)
  ns:h.Ns N mN
  ga:mN "__getattribute__"=none
  gt:mN "__getattr__"=none
  sa:mN "__setattr__"=none
structure LexG(G:Gd)(C N D:Addr)(mN:Str→Option Value):Prop where
  cls:ClsOk G.h0 C N mN
  inst:∃o,G.h0.get? (G.cst 0)=some o∧o.cls = .ref C∧(∀c,o.data ≠ .cls c)∧o.dict=some D
  ne:D≠G.cst 0
  neC:G.cst 0≠C
  fix:G.fix[1]?=some D
theorem ClsOk.elim{h:Heap}{C N:Addr}{mN:Str→Option Value}{P:Prop}(x:ClsOk h C N mN)(k:∀nm q bs sn sub ab col dd k0 k1 k2 k3 k5 ni,h.get? C=some (excClassObj nm q C N bs [.type "object"] true sn sub ab col dd k0 k1 k2 k3 k5 ni)→P):P:=
  xe51 x.obj fun nm q bs sn sub h=>xe51 h fun ab col dd k0 k1 h=>xe41 h fun k2 k3 k5 ni h=>k nm q bs sn sub ab col dd k0 k1 k2 k3 k5 ni h
theorem ClsOk.keeps{h h':Heap}{C N:Addr}{mN:Str→Option Value}(x:ClsOk h C N mN)(k:∀b o,h.get? b=some o→h'.get? b=some o):ClsOk h' C N mN:=
  ⟨x.elim fun nm q bs sn sub ab col dd k0 k1 k2 k3 k5 ni h1=>⟨nm,q,bs,sn,sub,ab,col,dd,k0,k1,k2,k3,k5,ni,k _ _ h1⟩,x.ns.keeps k,x.ga,x.gt,x.sa⟩
theorem selfE{γ:Type}{x:Option (V × List AObj)}{F:List (Str × V)→List AObj→Option γ}{r:γ}{C:Prop}(h:(match x with | some (.cst 0,σ)=>(match (σ[1]?:Option AObj) with | some (.ns fs)=>F fs σ | _=>none) | _=>none)=some r)
    (k:∀σ₁ fs,x=some (.cst 0,σ₁)→σ₁[1]?=some (.ns fs)→F fs σ₁=some r→C):C:=by
  cases x with
  | none=>contradiction
  | some p=>cases p with | mk v σ=>cases v with
    | cst n=>cases n with
      | zero=>
        have h:(match (σ[1]?:Option AObj) with | some (.ns fs)=>F fs σ | _=>none)=some r:=h
        cases e:(σ[1]?:Option AObj) with
        | none=>rw [e] at h; contradiction
        | some o=>
          rw [e] at h
          cases o with
          | ns fs=>exact k σ fs rfl e h
          | _=>contradiction
      | succ n=>contradiction
    | _=>contradiction
noncomputable def nsPut(fs:List (Str × V))(x:Str)(v:V):List (Str × V):=fs.map fun p=>if p.1==x then (p.1,v) else p
theorem nsPut_lookup{fs:List (Str × V)}{x y:Str}{v:V}:(nsPut fs x v).lookup y=if y=x then (fs.lookup y).map fun _=>v else fs.lookup y:=by
  induction fs with
  | nil=>simp [nsPut]
  | cons p fs ih=>
    obtain ⟨z,u⟩:=p
    show ((if z==x then (z,v) else (z,u))::nsPut fs x v).lookup y=_
    by_cases hzx:z=x
    · subst hzx
      simp only [beq_self_eq_true,if_true,List.lookup_cons]
      by_cases hyz:y=z
      · subst hyz; simp
      · have:(y==z)=false:=by simpa using hyz
        simp only [this,ih,hyz,if_false]
    · have h1:(z==x)=false:=by simpa using hzx
      simp only [h1,Bool.false_eq_true,if_false,List.lookup_cons]
      by_cases hyz:y=z
      · subst hyz; simp [hzx]
      · have:(y==z)=false:=by simpa using hyz
        simp only [this,ih]
section
variable {G:Gd}{r:Nat}{cx cx':Cx}{fm:Fm}{W W':Addr→Prop}{μ μ' μ₁ μ₀ ν:List Addr}{h h':Heap}{ρ ρ' ρ₁:List V}{σ σ' σ₁ σ₀:List AObj}{A:Around}{E:Value→Shared→Prop}{s s' s₁:Shared}{v:V}{b:Bool}{e:Expr}{fl:Fl}{C N D:Addr}{mN:Str→Option Value}
theorem Inv.fixed(I:Inv G μ σ s){l:Nat}{a:Addr}(h:G.fix[l]?=some a):μ[l]?=some a:=by
  obtain ⟨ν,rfl⟩:=I.fix
  refine rg (List.getElem?_append_left (List.getElem?_eq_some_iff.mp h).1) ?_; exact h
theorem inst_at(L:LexG G C N D mN)(I:Inv G μ σ s){fs:List (Str × V)}(e:σ[1]?=some (.ns fs)):∃mA,s.heap.Inst (G.cst 0) C mA∧s.heap.Ns1 D mA∧(∀x,fs.lookup x=none→mA x=none)∧∀x v,fs.lookup x=some v→∃y,mA x=some y∧VR G μ s.heap v y:=
  xe13 (I.obj 1 D _ (I.fixed L.fix) e) fun m h1 h2 h3=>xe14 L.inst fun o g1 g2 g3 g4=>⟨m,⟨o,I.base _ _ g1,g2,g3, .inr ⟨D,g4,L.ne,h1⟩⟩,h1,h2,h3⟩
theorem VR.handed{y:Value}(q:VR G μ h v y):handedOut y=pure y:=by
  cases v with
  | undef=>exact q.elim
  | none=>refine rg (show y=_ from q) ?_; rfl
  | bool b=>refine rg (show y=_ from q) ?_; rfl
  | int i=>obtain ⟨t,rfl⟩:=q; rfl
  | str l=>obtain ⟨_,t,rfl⟩:=q; rfl
  | tup vs=>obtain ⟨_,_,_,rfl,_⟩:=q; rfl
  | lst vs=>obtain ⟨_,_,_,rfl,_⟩:=q; rfl
  | loc l=>obtain ⟨_,_,rfl⟩:=q; rfl
  | cst n=>refine rg (show y=_ from q) ?_; rfl
noncomputable def yO(f:EF)(name:Str):EF:=fun ρ σ=>match f ρ σ with
  | some (.cst 0,σ)=>match (σ[1]?:Option AObj) with
    | some (.ns fs)=>(fs.lookup name).map (·,σ)
    | _=>none
  | _=>none
theorem attr_wp(L:LexG G C N D mN)(I:Inv G μ σ s){fs:List (Str × V)}{name:Str}{expr:Bool}(e:σ[1]?=some (.ns fs))(hv:fs.lookup name=some v)(hn:mN name=none)(hB:typeLookup (.type "object") name=pure none) {Q:Value→Shared→Prop}
    (k:∀y,VR G μ s.heap v y→Q y {s with toks:=s.toks+1}):wpAny (model G.prog G.w) A (getAttr (.ref (G.cst 0)) name expr) Q E s:=by
  refine xe14 (inst_at L I e) fun mA h1 _ h2 h3=>xe12 (h3 _ _ hv) fun y g1 g2=>?_
  have X:=L.cls.keeps I.base
  cases s
  exact X.elim fun _ _ _ _ _ _ _ _ _ _ _ _ _ _ hC=>load_attr hC X.ns X.ga hn hB h1 g1 g2.handed (k y g2)
theorem se_attr(L:LexG G C N D mN){o:Expr}{name:Str}{pos:Pos}{f:EF}(ho:SE G r cx o f)(hn:mN name=none)(hB:typeLookup (.type "object") name=pure none)
    (he:∀env,eval (.Attribute o name pos) env=(do
      let ov ←eval o env
      standAt pos.atName
      let r ←holding [ov] (getAttr ov name true)
      letTemporaryGo o ov r
      pure r):=by exact fun _=>rfl):SE G r cx (.Attribute o name pos) (yO f name):=fun A fm μ ρ σ s v σ' a O I F hf=>by
  refine selfE hf fun σ₁ fs e1 e2 hf=>oM hf fun e3 e=>e▸PyProof.Rows.Attribute_any_ (ho.use a O I F e1 fun y s₁ μ₁ st₁ I₁ F₁ q₁=>?_) (he _)
  refine rg (show y=_ from q₁) ?_
  exact attr_wp L I₁ e2 e3 hn hB fun y q=>(Good.same I₁ _ q).after st₁
noncomputable def z7(name:Str)(f:EF)(g:EsF)(F:List V→List AObj→Option (V × List AObj)):EF:=fun ρ σ=>match f ρ σ with
  | some (.cst 0,σ)=>match (σ[1]?:Option AObj) with
    | some (.ns fs)=>match fs.lookup name with
      | none=>match g ρ σ with
        | some (vs,σ)=>F (.cst 0::vs) σ
        | none=>none
      | some _=>none
    | _=>none
  | _=>none
structure MFn(G:Gd)(r:Nat)(mN:Str→Option Value)(x:Str)(F:List V→List AObj→Option (V × List AObj)):Prop where
  ex:∃a o fd,mN x=some (.ref a)∧G.h0.get? a=some o∧o.data = .func fd∧o.cls = .type "function"∧Z1 G r (.ref a) F
theorem MFn.le{r':Nat}{x:Str}{F:List V→List AObj→Option (V × List AObj)}(h:MFn G r mN x F)(hr:r≤r'):MFn G r' mN x F:=
  ⟨xe35 h.ex fun a o fd h1 h2 h3 h5 h4=>⟨a,o,fd,h1,h2,h3,h5,fun A μ σ s vs ys v σ' ak=>h4 A μ σ s vs ys v σ' (ak.le hr)⟩⟩
theorem Zk(L:LexG G C N D mN){o:Expr}{name:Str}{apos pos:Pos}{es:List Expr}{f:EF}{g:EsF}{F:List V→List AObj→Option (V × List AObj)}{y:Option Value}(H:MFn G r mN name F)(hB:typeLookup (.type "object") name=pure y) (ho:SE G r cx o f) (hs:SEs G r cx es g)
    (he:MethArm o name apos pos es:=by exact fun _=>⟨_,rfl⟩) (hplain:∀env pos,(backTo pos (starEach es env)).any (·.1)=false:=by exact fun _ _=>rfl) :
    SE G r cx (.Call (.Attribute o name apos) es [] pos) (z7 name f g F):=fun A fm μ ρ σ s v σ' a O I Fr hf=>by
  refine selfE hf fun σ₁ fs e1 e2 hf=>?_
  have hf':fs.lookup name=none∧∃vs σ₂,g ρ σ₁=some (vs,σ₂)∧F (.cst 0::vs) σ₂=some (v,σ'):=by
    cases e:fs.lookup name with
    | some _=>rw [e] at hf; contradiction
    | none=>rw [e] at hf; exact oS hf fun vs σ₂ e1 e2=>⟨rfl,vs,σ₂,e1,e2⟩
  refine hf'.elim fun e3 hf=>xe22 hf fun vs σ₂ e4 hf=>(he fm.env).elim fun pl he=>xe35 H.ex fun af of fd m1 m2 m3 m5 m4=>PyProof.Rows.MethodCall_ (ho.use a O I Fr e1 fun y s₁ μ₁ st₁ I₁ F₁ q₁=>?_) he
  refine rg (show y=_ from q₁) ?_
  have key:wpAny (model G.prog G.w) A (callWith pos (.ref af) [.ref (G.cst 0)] (backTo pos (starEach es fm.env)) []) (Good G μ s v σ') (fun _ _=>False) s₁:=
    Calls.callWith_function (o:=of) (fd:=fd) (z6 (hplain _ _) (hs.use a O I₁ F₁ e4 fun ys s₂ μ₂ st₂ I₂ F₂ q₂=>⟨⟨I₂.base _ _ m2,m3⟩,
      wpAny_mono (m4.wp A μ₂ σ₂ s₂ (.cst 0::vs) (.ref (G.cst 0)::ys) v σ' a I₂ ⟨_,_,rfl,rfl,q₂⟩ hf) (fun _ _ g=>g.after (st₁.trans st₂)) fun _ _ x=>x⟩))
  refine xe14 (inst_at L I₁ e2) fun mA h1 _ h2 h3=>?_
  have X:=L.cls.keeps I₁.base
  have gf:=I₁.base _ _ m2
  clear I₁ F₁ q₁ e4 e1 h3 hf' hf m4 he
  cases s₁
  exact X.elim fun _ _ _ _ _ _ _ _ _ _ _ _ _ _ hC=>method_of hC X.ns X.ga X.gt m1 gf m5 hB h1 (h2 _ e3) key
theorem Inv.upd2(I:Inv G μ σ s){l:Nat}{a:Addr}{ob:AObj}(e:μ[l]?=some a)(hk:∀b o,b≠a→s.heap.get? b=some o→h'.get? b=some o)(hz:s.heap.objs.size≤h'.objs.size)(hob:Step W0 μ μ s.heap h'→ORel G μ h' a ob)(t:Nat) :
    Inv G μ (σ.set l ob) {s with heap:=h',toks:=t}∧Step W0 μ μ s.heap h':=by
  have ha:=zG e
  have st:Step W0 μ μ s.heap h':=⟨⟨[],(List.append_nil _).symm,nofun⟩,hz,fun b o hb _ e=>hk b o (fun q=>hb (q▸ha)) e,fun b o hb _ e=>hk b o (fun q=>hb (q▸ha)) e⟩
  refine ⟨⟨fun b o q=>hk b o (fun q'=>by rw [q',(I.new a ha).1] at q; contradiction) (I.base b o q),fun b hb=>⟨(I.new b hb).1,Nat.lt_of_lt_of_le (I.new b hb).2 hz⟩,I.nodup,I.len.trans List.length_set.symm,fun j b o' e1 e2=>?_,I.gens,I.os,I.fix⟩,st⟩
  by_cases hj:l=j
  · subst hj
    rw [List.getElem?_set_self (I.len▸(List.getElem?_eq_some_iff.mp e).1)] at e2
    exact Option.some.inj e2▸Option.some.inj (e.symm.trans e1)▸hob st
  · rw [List.getElem?_set_ne hj] at e2
    refine (I.obj j b o' e1 e2).step st fun _ e'=>hk _ _ (fun q=>hj ?_) e'
    exact (List.getElem?_inj (List.getElem?_eq_some_iff.mp e).1 I.nodup).mp (e.trans (q▸e1.symm))
theorem obj_eq{a b:Obj}(h1:a.cls=b.cls)(h2:a.dict=b.dict)(h3:a.data=b.data)(h4:a.slots=b.slots):a=b:=
  show Obj.mk a.cls a.dict a.data a.slots=b from h1▸h2▸h3▸h4▸rfl
theorem ns_store(L:LexG G C N D mN)(I:Inv G μ σ s){fs fs':List (Str × V)}{name:Str}{w:V}{z:Value}(e2:σ[1]?=some (.ns fs))(hn:mN name=none)(hB:typeLookup (.type "object") name=pure none) (hlen:fs.length≤LIM) (q:VR G μ s.heap w z)
    (hfs:∀x,fs'.lookup x=if x=name then some w else fs.lookup x) {Q:Unit→Shared→Prop} (k:∀s',Step W0 μ μ s.heap s'.heap→Inv G μ (σ.set 1 (.ns fs')) s'→Q () s'):wpAny (model G.prog G.w) A (setAttr (.ref (G.cst 0)) name z) Q E s:=by
  refine xe14 (inst_at L I e2) fun mA h1 h1' h2 h3=>xe14 L.inst fun oi g1 g2 g3 g4=>?_
  have X:=L.cls.keeps I.base
  have gi:=I.base _ _ g1
  have I':=I
  obtain ⟨hp,g,d,tk,os⟩:=s
  refine X.elim fun _ _ _ _ _ _ _ _ _ _ _ _ _ _ hC=>yk (store_attr PySem.F.store_object hC X.ns X.sa hn hB L.neC h1 (ns:=fs.map (·.1)) (fun h' tk' hI hk ho' hz=>?_) (fun z hz=>?_) (by rw [List.length_map]; exact Nat.le_trans hlen yd))
  · refine xe15 (ho' oi gi) fun o1 k1 k2 k3 k4 k5=>?_
    have ho1:o1=oi:=obj_eq k2 ((k5 D g4).trans g4.symm) k3 k4
    subst ho1
    refine (I'.upd2 (h':=h') (ob:= .ns fs') (I'.fixed L.fix) (fun b o hb eb=>?_) hz (fun st=>?_) tk').elim fun I₃ st₃=>k _ st₃ I₃
    · by_cases hbx:b=G.cst 0
      · subst hbx; exact k1.trans (gi.symm.trans eb)
      · exact hk b o hbx (fun o₀ dx e1 e2=>Option.some.inj (g4.symm.trans (Option.some.inj (gi.symm.trans e1)▸e2))▸hb) eb
    · refine xe14 hI fun oI i1 i2 i3 i4=>?_
      have e:=Option.some.inj (k1.symm.trans i1)
      subst e
      refine i4.elim (fun i=>nomatch i.1.symm.trans g4) fun i=>xe13 i fun d' i4 _ i5=>?_
      have e:=Option.some.inj (g4.symm.trans i4)
      subst e
      refine ⟨_,i5,fun z hz=>?_,fun z v hz=>?_⟩ <;> rw [hfs] at hz <;> by_cases hzn:z=name
      · rw [if_pos hzn] at hz; contradiction
      · rw [if_neg hzn] at hz; exact (if_neg hzn).trans (h2 z hz)
      · rw [if_pos hzn] at hz; exact ⟨_,if_pos hzn,Option.some.inj hz▸q.step st⟩
      · rw [if_neg hzn] at hz; exact xe12 (h3 z v hz) fun y y1 y2=>⟨y,(if_neg hzn).trans y1,y2.step st⟩
  · cases hq:fs.lookup z with
    | none=>exact absurd (h2 z hq) hz
    | some w=>exact List.mem_map_of_mem (f:=(·.1)) (mem_of_lookup hq)
noncomputable def fAugAttr(name:Str)(f:EF)(j:Int):SF:=fun ρ σ=>match f ρ σ with
  | some (.cst 0,σ)=>match (σ[1]?:Option AObj) with
    | some (.ns fs)=>match fs.lookup name with
      | some (.int i)=>if fs.length≤LIM then some (.next,ρ,σ.set 1 (.ns (nsPut fs name (.int (i+j))))) else none
      | _=>none
    | _=>none
  | _=>none
theorem ss_augattr(L:LexG G C N D mN){o:Expr}{name:Str}{tpos pos p:Pos}{f:EF}{j:Int}{k:Nat}(ho:SE G r cx o f)(hn:mN name=none)(hB:typeLookup (.type "object") name=pure none):SS G r cx (.AugAssign (.Attribute o name tpos) .Add (.Constant (.int j) k p) pos) (fAugAttr name f j):=fun A fm μ ρ σ s fl ρ' σ' a O I F hf=>by
  refine selfE hf fun σ₁ fs e1 e2 hf=>?_
  have hf':∃i,fs.lookup name=some (.int i)∧fs.length≤LIM∧(Fl.next,ρ,σ₁.set 1 (.ns (nsPut fs name (.int (i+j)))))=(fl,ρ',σ'):=by
    cases e:fs.lookup name with
    | none=>rw [e] at hf; contradiction
    | some w=>
      rw [e] at hf
      cases w with
      | int i=>exact oIf hf fun h1 h2=>⟨i,rfl,h1,h2⟩
      | _=>contradiction
  refine xe13 hf' fun i e3 hlen e=>pe3 e (wpAny_AugAssign_AttributeAny (ho.use a O I F e1 fun y s₁ μ₁ st₁ I₁ F₁ q₁=>?_))
  refine rg (show y=_ from q₁) ?_
  refine attr_wp L I₁ e2 e3 hn hB fun z hz=>Exists.elim hz fun t hz=>hz▸wpAny_Constant_int (P.iadd_int (ns_store L (w:= .int (i+j)) (I₁.toks _) (fs':=nsPut fs name (.int (i+j))) e2 hn hB hlen ⟨_,rfl⟩ (fun x=>?_) fun s' st I'=>⟨μ₁,(st₁.trans st).of0,I',F₁.step0 st,rfl⟩))
  refine rg nsPut_lookup ?_
  by_cases hx:x=name
  · refine rg (if_pos hx) ?_; refine rg (if_pos hx) ?_; refine rg hx ?_; refine rg e3 ?_; rfl
  · refine rg (if_neg hx) ?_; refine rg (if_neg hx) ?_; rfl
end
end Mi
namespace Mi
open Builtin Builtin.ObjectAttr
theorem fn_ga:typeLookup (.type "function") "__getattribute__"=pure (some (.builtin "object.__getattribute__")):=by rw [typeLookup_type,builtinLookup_eq_fast]; kernel_rfl
theorem fn_gt:typeLookup (.type "function") "__getattr__"=pure none:=by rw [typeLookup_type,builtinLookup_eq_fast]; kernel_rfl
theorem fn_read:typeLookup (.type "function") "read"=pure none:=by rw [typeLookup_type,builtinLookup_eq_fast]; kernel_rfl
theorem slot_fn_ga:Slot "function" "__getattribute__" "object.__getattribute__":=
  .of (owner:="object") (n:="__getattribute__") (by rw [typeLookup_type,builtinLookup_eq_fast]; kernel_rfl) (by decide +kernel) (by decide +kernel) (by decide +kernel)
    (by first | exact .inl (by decide +kernel) | exact .inr (by decide +kernel)) (by rw [isSubtype_type]; kernel_rfl)
section
variable {prog:Program}{w:World}{A:Around}{E:Value→Shared→Prop}{h:Heap}{g:Array GenState}{d:Drawn}{t:Nat}{os:OsState}
theorem fn_entry{x D:Addr}{o:Obj}{fd:FuncData}{m:Str→Option Value}{name:Str}{v:Value}{tk:Tok}{Q:PySem.Fin→Shared→Prop}(hx:h.get? x=some o)(hc:o.cls = .type "function") (hd:o.data = .func fd) (hdx:o.dict=some D) (hD:h.Ns D m) (hv:m name=some v)
    (hB:typeLookup (.type "function") name=pure none) (hq:Q (.done (.ret v)) ⟨h,g,d,t,os⟩) :
    wpAny (model prog w) A (Builtin.«object.__getattribute__» ⟨[.ref x, .str name tk], []⟩) Q E ⟨h,g,d,t,os⟩:=by
  unfold Builtin.«object.__getattribute__»
  repeat (first | (with_reducible refine wpAny_loadPart_at hx ?_; refine rg hc ?_) | rw [hB] | wp_step)
  refine rg hd ?_
  dsimp only
  skip
  repeat (first | (with_reducible refine wpAny_loadPart_at hx ?_; rw [hc]) | wp_step)
  refine rg hdx ?_
  repeat (first | (with_reducible refine wpAny_nsGet hD ?_; refine rg hv ?_) | wp_step)
  exact hq
theorem fn_attr{x D:Addr}{o:Obj}{fd:FuncData}{m:Str→Option Value}{name:Str}{v:Value}{expr:Bool}{Q:Value→Shared→Prop}(hx:h.get? x=some o)(hc:o.cls = .type "function") (hd:o.data = .func fd) (hdx:o.dict=some D) (hD:h.Ns D m) (hv:m name=some v)
    (hB:typeLookup (.type "function") name=pure none) (hh:handedOut v=pure v) (hq:Q v ⟨h,g,d,t+1,os⟩) :
    wpAny (model prog w) A (getAttr (.ref x) name expr) Q E ⟨h,g,d,t,os⟩:=by
  unfold getAttr getAttrBy
  repeat (first | (with_reducible refine wpAny_loadPart_at hx ?_; refine rg hc ?_) | rw [fn_ga] | wp_step)
  rw [show (expr&&onTheHeap (Value.builtin "object.__getattribute__"))=false from by simp [onTheHeap]]
  dsimp only [Bool.false_eq_true,if_false]
  unfold boundAndCalled
  dsimp only [slot_fn_ga.bind]
  refine wpAny_bind (wpAny_pure ?_)
  show wpAny _ _ (call (.builtin "object.__getattribute__") [.ref x, .str name t]) _ _ _
  refine wpAny_call_entry slot_fn_ga ⟨_,hx,hc⟩ PySem.F.entry_object_getattribute (fn_entry hx hc hd hdx hD hv hB ⟨_,rfl,?_⟩) (PySem.F.args_object_getattribute_2 _ _)
  show wpAny _ _ (handedOut v) _ _ _
  refine rg hh ?_
  exact wpAny_pure hq
theorem fn_method{x D:Addr}{o:Obj}{fd:FuncData}{m:Str→Option Value}{name:Str}{v:Value}{pl:Sem Bool}{Q:Value × List Value→Shared→Prop}(hx:h.get? x=some o)(hc:o.cls = .type "function") (hd:o.data = .func fd) (hdx:o.dict=some D) (hD:h.Ns D m) (hv:m name=some v)
    (hB:typeLookup (.type "function") name=pure none) (hh:handedOut v=pure v) (hq:Q (v, []) ⟨h,g,d,t+1,os⟩) :
    wpAny (model prog w) A (getMethod (.ref x) name pl) Q E ⟨h,g,d,t,os⟩:=by
  have hcan:=PySem.F.canon_object_ga
  have hT:(⟨h,g,d,t,os⟩:Shared).TypeIs (.ref x) "function":=⟨_,hx,hc⟩
  unfold getMethod specialOf
  refine wpAny_bind (wpAny_bind (wpAny_typeOf hT ?_))
  refine rg fn_ga ?_
  refine wpAny_pure ?_
  dsimp only
  refine rg hcan ?_
  simp only [Bool.false_eq_true,if_false]
  refine wpAny_bind (wpAny_bind (wpAny_typeOf hT ?_))
  refine rg fn_gt ?_
  refine wpAny_pure ?_
  dsimp only [Option.isSome_none,Bool.false_eq_true,if_false]
  refine wpAny_bind (wpAny_bind (wpAny_typeOf hT ?_))
  refine rg hB ?_
  refine wpAny_pure ?_
  dsimp only
  exact wpAny_bind (fn_attr hx hc hd hdx hD hv hB hh (wpAny_pure hq))
end
end Mi
namespace Mi
open Builtin Builtin.ObjectAttr
theorem fn_get_lk:typeLookup (.type "function") "__get__"=pure (some (.builtin "function.__get__")):=by rw [typeLookup_type,builtinLookup_eq_fast]; kernel_rfl
theorem fn_set_lk:typeLookup (.type "function") "__set__"=pure none:=by rw [typeLookup_type,builtinLookup_eq_fast]; kernel_rfl
theorem fn_del_lk:typeLookup (.type "function") "__delete__"=pure none:=by rw [typeLookup_type,builtinLookup_eq_fast]; kernel_rfl
section
variable {prog:Program}{w:World}{A:Around}{E:Value→Shared→Prop}{h:Heap}{g:Array GenState}{d:Drawn}{t:Nat}{os:OsState}
variable {nm q:Str}{C N x:Addr}{bs:List Value}{sn:List Str}{sub:List Value}{ab:Bool}{col:Option Bool}{dd:Option Addr}{k0 k1 k2 k3 k5:Option Value}{newId:String}
  {mN mA:Str→Option Value} {name:Str} {v:Value}
theorem bound_entry{f:Addr}{of:Obj}{tk:Tok}{Q:PySem.Fin→Shared→Prop}
    (hC:h.get? C=some (excClassObj nm q C N bs [.type "object"] true sn sub ab col dd k0 k1 k2 k3 k5 newId)) (hn:h.Ns N mN) (hnh:mN "__getattr__"=none) (hna:mN name=some (.ref f)) (hfo:h.get? f=some of) (hfc:of.cls = .type "function")
    (hB:typeLookup (.type "object") name=pure none) {o:Obj} {dx:Addr} (hx:h.get? x=some o) (hc:o.cls = .ref C) (hnc:∀c,o.data ≠ .cls c) (hdx:o.dict=some dx) (hns:h.Ns1 dx mA) (hv:mA name=none) (hcp:(["__module__","__name__","__qualname__","__doc__","__annotations__"]:List Str).contains name=false)
    (hq:Q (.done (.ret (.ref h.objs.size))) ⟨h.push (methodObj (.ref f) (.ref x)),g,d,t,os⟩) :
    wpAny (model prog w) A (Builtin.«proto.getattr_hooked» ⟨[.ref x, .str name tk], []⟩) Q E ⟨h,g,d,t,os⟩:=by
  unfold Builtin.«proto.getattr_hooked»
  repeat (first | (with_reducible refine wpAny_loadPart_at hx ?_; refine rg hc ?_) | (with_reducible refine wpAny_typeLookup_exc hC hn PySem.F.mro_object hB ?_; refine rg hna ?_) | (with_reducible refine wpAny_typeLookup_exc hC hn PySem.F.mro_object PySem.F.lk_object_getattr ?_; rw [hnh]) | (with_reducible refine wpAny_typeOf (T:="function") ⟨_,hfo,hfc⟩ ?_) | rw [fn_get_lk] | rw [fn_set_lk] | rw [fn_del_lk] | rw [hfc] | wp_step)
  split
  · rename_i c hcd
    exact absurd hcd (hnc c)
  skip
  repeat (first | (with_reducible refine wpAny_loadPart_at hx ?_; rw [hc]) | with_reducible refine wpAny_loadPart_at hC ?_ | wp_step)
  refine rg hdx ?_
  repeat (first | (with_reducible refine wpAny_nsGet hns.ns ?_; rw [hv]) | rw [hcp] | (with_reducible refine wpAny_typeLookup_exc hC hn PySem.F.mro_object PySem.F.lk_object_getattr ?_; refine rg hnh ?_) | wp_step)
  refine fn_get (K:= [(f,of)]) (fun a ob e=>?_) ?_ (wpAny_pure hq)
  · rw [List.lookup_cons] at e
    by_cases ha:a=f
    · subst ha; simp at e; subst e; exact hfo
    · have:(a==f)=false:=by simpa using ha
      simp [this] at e
  · show Option.map _ _=_
    simp [List.lookup_cons,hfc]
theorem bound_attr{f:Addr}{of:Obj}{expr:Bool}{Q:Value→Shared→Prop}
    (hC:h.get? C=some (excClassObj nm q C N bs [.type "object"] true sn sub ab col dd k0 k1 k2 k3 k5 newId)) (hn:h.Ns N mN) (hng:mN "__getattribute__"=none) (hnh:mN "__getattr__"=none) (hna:mN name=some (.ref f)) (hfo:h.get? f=some of) (hfc:of.cls = .type "function")
    (hB:typeLookup (.type "object") name=pure none) {o:Obj} {dx:Addr} (hx:h.get? x=some o) (hc:o.cls = .ref C) (hnc:∀c,o.data ≠ .cls c) (hdx:o.dict=some dx) (hns:h.Ns1 dx mA) (hv:mA name=none) (hcp:(["__module__","__name__","__qualname__","__doc__","__annotations__"]:List Str).contains name=false)
    (hq:Q (.ref h.objs.size) ⟨h.push (methodObj (.ref f) (.ref x)),g,d,t+1,os⟩) :
    wpAny (model prog w) A (getAttr (.ref x) name expr) Q E ⟨h,g,d,t,os⟩:=by
  unfold getAttr getAttrBy
  repeat (first | (with_reducible refine wpAny_loadPart_at hx ?_; refine rg hc ?_) | (with_reducible refine wpAny_typeLookup_exc hC hn PySem.F.mro_object PySem.F.lk_object_ga ?_; refine rg hng ?_) | wp_step)
  show wpAny _ _ ((runValue (.builtin "proto.getattr_hooked" ⟨[.ref x, .str name t], []⟩)).onRaise (noteIf true (.ref x) (.str name t))) _ _ _
  refine wpAny_onRaise (wpAny_runValue (codeAny_builtin PySem.F.plainObj_entry_getattr_hooked (bound_entry hC hn hnh hna hfo hfc hB hx hc hnc hdx hns hv hcp ?_)))
  show wpAny _ _ (handedOut (.ref h.objs.size)) _ _ _
  exact wpAny_pure hq
end
end Mi
namespace Mi
open MeetsSeq MeetsSeq2 MeetsSeq3 SeqRoads2 SeqAt
theorem y7:Slot "callable_iterator" "__next__" "callable_iterator.__next__":=
  .of (owner:="callable_iterator") (n:="__next__") (by rw [typeLookup_type,builtinLookup_eq_fast]; kernel_rfl) (by decide +kernel) (by decide +kernel) (by decide +kernel)
    (by first | exact .inl (by decide +kernel) | exact .inr (by decide +kernel)) (by rw [isSubtype_type]; kernel_rfl)
theorem entry_cit_next:entryFor table "callable_iterator.__next__"=some Builtin.«callable_iterator.__next__» := entryFor_of_fast (by kernel_rfl)
theorem args_cit_next(a:Value):argsOk "callable_iterator.__next__" ⟨[a], []⟩:=by skip; kernel_rfl
theorem slot_cit_iter:Slot "callable_iterator" "__iter__" "callable_iterator.__iter__":=
  .of (owner:="callable_iterator") (n:="__iter__") (by rw [typeLookup_type,builtinLookup_eq_fast]; kernel_rfl) (by decide +kernel) (by decide +kernel) (by decide +kernel)
    (by first | exact .inl (by decide +kernel) | exact .inr (by decide +kernel)) (by rw [isSubtype_type]; kernel_rfl)
theorem entry_cit_iter:entryFor table "callable_iterator.__iter__"=some Builtin.«dict_keyiterator.__iter__» :=
  entryFor_alias (id':="dict_keyiterator.__iter__") (by kernel_rfl) rfl (by decide +kernel) (by kernel_rfl)
theorem args_cit_iter(a:Value):argsOk "callable_iterator.__iter__" ⟨[a], []⟩:=by skip; kernel_rfl
section
variable {prog:Program}{w:World}{A:Around}{E:Value→Shared→Prop}{s:Shared}
theorem wpAny_callBorrowed{M:Model}{f:Value}{pos:List Value}{Q:Value→Shared→Prop}(h:wpAny M A (call f pos) Q E s):wpAny M A (callBorrowed f pos) Q E s:=fun Γ p hΓ=>by
  have h2:=h Γ p hΓ
  unfold call at h2
  rw [Sem.wp_runValue] at h2
  unfold callBorrowed
  dsimp only [Sem.wp]
  refine wpCode_mono (fun r s' hr=>?_) h2
  cases r with
  | error e=>exact hr
  | ok f=>cases f <;> exact hr
noncomputable abbrev citObj(mth:Addr)(t:Tok):Obj:={cls:= .type "callable_iterator",dict:=none,data:= .fields #[.ref mth, .str ⟨#[]⟩ t, .bool false],slots:= #[]}
noncomputable abbrev citEnd:Obj:={cls:= .type "callable_iterator",dict:=none,data:= .fields #[.none, .none, .bool true],slots:= #[]}
theorem cit_next{it mth f x:Addr}{t:Tok}{of:Obj}{fd:FuncData}{Q:Option Value→Shared→Prop}(hit:s.heap.get? it=some (citObj mth t))(hm:s.heap.get? mth=some (methodObj (.ref f) (.ref x)))(hf:s.heap.get? f=some of)(hd:of.data = .func fd)(hh:A.handled=none)
    (h:codeAny (model prog w) A.in1 (.call (.ref f) ⟨[.ref x], []⟩) (fun r s₁=>match r with
      | .ok (.ret y)=> ∃t₁ c u,s₁.heap.get? it=some (citObj mth t₁)∧s₁.heap.get? mth=some (methodObj (.ref f) (.ref x))∧s₁.heap.get? f=some of∧y = .str ⟨(c:List Nat).toArray⟩ u ∧
          (c= []→∀h',Heap.ExtBut it s₁.heap h'→h'.get? it=some citEnd→s₁.heap.objs.size≤h'.objs.size→Q none {s₁ with heap:=h'})∧(c≠ []→Q (some y) s₁)
      | _=>False) s):wpAny (model prog w) A (pyNext (.ref it)) Q E s:=by
  have hT:s.TypeIs (.ref it) "callable_iterator":=⟨_,hit,rfl⟩
  skip
  refine wpAny_bind (wpAny_attempt (wpAny_callSpecial?_slot (name:=Str.ofString "__next__") hT y7 (wpAny_call_entry y7 hT entry_cit_next ?_ (args_cit_next _))))
  unfold Builtin.«callable_iterator.__next__»
  refine wpAny_bind (wpAny_pure ?_)
  dsimp only
  refine wpAny_bind (wpAny_field (x:= .bool false) hit rfl rfl ?_)
  refine rg (if_neg (by decide)) ?_
  refine wpAny_bind (wpAny_field (x:= .ref mth) hit rfl rfl ?_)
  have hb:∀{A:Around} {E:Value→Shared→Prop} {s:Shared} {Q:Bool→Shared→Prop},s.heap.get? mth=some (methodObj (.ref f) (.ref x))→s.heap.get? f=some of→Q true s→wpAny (model prog w) A (borrowsExactly (.ref mth)) Q E s:=by
    intro A E s Q h1 h2 h3
    skip
    refine wpAny_bind (wpAny_load h1 ?_)
    show wpAny _ _ (do
      match (←load f).data with
      | .func _=>pure true
      | _=>pure false) _ _ _
    refine wpAny_bind (wpAny_load h2 ?_)
    refine rg hd ?_
    exact wpAny_pure h3
  skip
  refine wpAny_bind (wpAny_attempt (wpAny_bind (hb hm hf ?_)))
  refine rg (if_pos rfl) ?_
  refine wpAny_callBorrowed (wpAny_call (method_call hm (codeAny_mono h fun r s₁ hr=>?_)))
  cases r with
  | error e=>exact hr.elim
  | ok fl=>
    cases fl with
    | ret y=>
      obtain ⟨t₁,c,u,h1,h2,h3,rfl,h4,h5⟩:=hr
      dsimp only
      refine wpAny_bind (wpAny_field (x:= .bool false) h1 rfl rfl ?_)
      refine rg (if_neg (by decide)) ?_
      refine wpAny_bind (wpAny_field (x:= .str ⟨#[]⟩ t₁) h1 rfl rfl ?_)
      refine wpAny_bind (wpAny_holding (PyProof.Rows.eqBool_str ?_))
      by_cases hc:c= []
      · subst hc
        refine rg (if_neg (by decide)) ?_
        refine wpAny_bind (wpAny_rule ?_)
        show wpAny _ _ ((do
          slotLetsGo "callable_iterator.__next__" (←field (.ref it) 0) fun | .builtin "callable_iterator.__next__" x=>x.pos.head?==some (.ref it) | _=>false
          setField (.ref it) 0 .none; setField (.ref it) 1 .none; setField (.ref it) 2 (.bool true)) >>= _) _ _ _
        refine wpAny_bind (wpAny_bind (wpAny_field (x:= .ref mth) h1 rfl rfl ?_))
        skip
        refine wpAny_bind (wpAny_bind (hb h2 h3 ?_))
        refine rg (if_pos rfl) ?_
        refine wpAny_pure ?_
        refine wpAny_bind (wpAny_setField h1 rfl (by show 0<3; exact Nat.succ_pos _) ?_)
        refine wpAny_bind (wpAny_setField (Heap.get?_update_self _ h1 rfl) rfl (by show 1<3; exact Nat.le_add_left _ _) ?_)
        refine wpAny_setField (Heap.get?_update_self _ (Heap.get?_update_self _ h1 rfl) rfl) rfl (by show 2<3; exact Nat.lt_succ_self _) ?_
        skip
        refine wpAny_bind ?_
        simp only [newExc,newTuple]
        refine wpAny_bind (wpAny_newObj_type ?_ (by size_fits))
        refine wpAny_bind (m:=firstArgMember _ _) (wpAny_of_eq (a:=Value.none) (by first | rfl | (simp only [firstArgMember]; rfl)) ?_)
        refine wpAny_newObj_type ?_ (by size_fits)
        dsimp only [raiseNew]
        refine wpAny_bind (wpAny_handled ?_)
        rw [show A.in1.handled=none from hh]
        refine wpAny_bind (wpAny_pure (wpAny_throw ?_))
        refine wpAny_bind (wpAny_isInstance (T:="StopIteration") (b:=true) ⟨_,Heap.get?_push_size _ rfl,rfl⟩ isSubtype_stop ?_)
        refine wpAny_pure (h4 rfl _ ?_ ?_ ?_)
        · exact ((((Heap.SameBut.update ..).trans (Heap.SameBut.update ..)).trans (Heap.SameBut.update ..)).extBut.push _).push _
        · refine Heap.get?_push_of_some _ (Heap.get?_push_of_some _ ?_)
          exact Heap.get?_update_self _ (Heap.get?_update_self _ (Heap.get?_update_self _ h1 rfl) rfl) rfl
        · simp; exact Nat.le_succ_of_le (Nat.le_succ _)
      · have:((⟨#[]⟩:Str)==⟨c.toArray⟩)=false:=by
          cases c with
          | nil=>exact absurd rfl hc
          | cons a l=>rfl
        refine rg this ?_
        simp only [Bool.not_false,if_true]
        exact wpAny_pure ⟨_,rfl,wpAny_pure (h5 hc)⟩
    | next=>exact hr.elim
    | brk=>exact hr.elim
    | cont=>exact hr.elim
end
end Mi
namespace Mi
open MeetsSeq MeetsSeq2 MeetsSeq3 SeqRoads2 SeqAt
theorem kind_iter:builtinKind "iter"=none:=by decide +kernel
theorem plain_iter:plainId "iter"=true:=by decide +kernel
theorem entry_iter:entryFor table "iter"=some Builtin.«iter» := entryFor_of_fast (by kernel_rfl)
theorem args_iter(a b:Value):argsOk "iter" ⟨[a,b], []⟩:=by skip; kernel_rfl
theorem meth_call_lk:typeLookup (.type "method") "__call__"=pure (some (.builtin "method.__call__")):=by rw [typeLookup_type,builtinLookup_eq_fast]; kernel_rfl
section
variable {prog:Program}{w:World}{A:Around}{E:Value→Shared→Prop}{s:Shared}
theorem cit_dead{it:Addr}{Q:Option Value→Shared→Prop}(hit:s.heap.get? it=some citEnd)(hh:A.handled=none)
    (h:∀h',(∀b o,s.heap.get? b=some o→h'.get? b=some o)→s.heap.objs.size≤h'.objs.size→Q none {s with heap:=h'}):wpAny (model prog w) A (pyNext (.ref it)) Q E s:=by
  have hT:s.TypeIs (.ref it) "callable_iterator":=⟨_,hit,rfl⟩
  skip
  refine wpAny_bind (wpAny_attempt (wpAny_callSpecial?_slot (name:=Str.ofString "__next__") hT y7 (wpAny_call_entry y7 hT entry_cit_next ?_ (args_cit_next _))))
  unfold Builtin.«callable_iterator.__next__»
  refine wpAny_bind (wpAny_pure ?_)
  dsimp only
  refine wpAny_bind (wpAny_field (x:= .bool true) hit rfl rfl ?_)
  refine rg (if_pos (by decide)) ?_
  refine wpAny_bind (wpAny_rule ?_)
  skip
  refine wpAny_bind (wpAny_bind ?_)
  dsimp only [newExc,newTuple]
  refine wpAny_bind (wpAny_newObj_type ?_ (by size_fits))
  refine wpAny_bind (m:=firstArgMember _ _) (wpAny_of_eq (a:=Value.none) (by first | rfl | (simp only [firstArgMember]; rfl)) ?_)
  refine wpAny_newObj_type ?_ (by size_fits)
  dsimp only [raiseNew]
  refine wpAny_bind (wpAny_handled ?_)
  refine rg (show A.in1.handled=none from hh) ?_
  refine wpAny_bind (wpAny_pure (wpAny_throw ?_))
  refine wpAny_bind (wpAny_isInstance (T:="StopIteration") (b:=true) ⟨_,Heap.get?_push_size _ rfl,rfl⟩ isSubtype_stop ?_)
  refine wpAny_pure (h _ (fun b o e=>Heap.get?_push_of_some _ (Heap.get?_push_of_some _ e)) ?_)
  simp; exact Nat.le_succ_of_le (Nat.le_succ _)
theorem cit_iter{it:Addr}{o:Obj}{Q:Value→Shared→Prop}(hit:s.heap.get? it=some o)(hc:o.cls = .type "callable_iterator") (h:Q (.ref it) s):wpAny (model prog w) A (pyIter (.ref it)) Q E s:=by
  have hT:s.TypeIs (.ref it) "callable_iterator":=⟨_,hit,hc⟩
  refine wpAny_pyIter_slot hT slot_cit_iter (wpAny_call_entry slot_cit_iter hT entry_cit_iter ?_ (args_cit_iter _))
  show wpAny _ _ (ret (.ref it)) _ _ s
  exact wpAny_pure ⟨_,rfl,"callable_iterator",_,hT,y7.lookup,h⟩
theorem call_iter2{mth:Addr}{f x v:Value}{Q:Value→Shared→Prop}(hm:s.heap.get? mth=some (methodObj f x))(h:Q (.ref s.heap.objs.size) {s with heap:=s.heap.push {cls:= .type "callable_iterator",data:= .fields #[.ref mth,v, .bool false]}}) :
    wpAny (model prog w) A (call (.builtin "iter") [.ref mth,v]) Q E s:=by
  refine Calls.call_function_entry kind_iter plain_iter entry_iter (args_iter _ _) ?_
  unfold Builtin.«iter»
  refine wpAny_bind (m:=someArgs "iter" 1 2 _) (wpAny_pure ?_)
  dsimp only
  skip
  refine wpAny_bind (wpAny_bind (wpAny_typeOf (T:="method") ⟨_,hm,rfl⟩ ?_))
  refine rg meth_call_lk ?_
  refine wpAny_pure ?_
  dsimp only [Option.isNone_some,Bool.false_eq_true,if_false]
  refine wpAny_bind (wpAny_rule ?_)
  refine wpAny_bind ?_
  skip
  exact wpAny_newObj_type (wpAny_pure ⟨_,rfl,h⟩) (by size_fits)
end
section
variable {G:Gd}{r:Nat}{cx cx':Cx}{fm:Fm}{W W':Addr→Prop}{μ μ' μ₁ μ₀ ν:List Addr}{h h':Heap}{ρ ρ' ρ₁:List V}{σ σ' σ₁ σ₀:List AObj}{A:Around}{E:Value→Shared→Prop}{s s' s₁:Shared}{v:V}{b:Bool}{e:Expr}{fl:Fl}{C N D:Addr}{mN:Str→Option Value}
noncomputable def fIterC(name:Str)(f:EF):EF:=fun ρ σ=>match f ρ σ with
  | some (.cst 0,σ)=>match (σ[1]?:Option AObj) with
    | some (.ns fs)=>match fs.lookup name with
      | none=>some (.loc (σ.length+1),σ++ [.bnd]++ [.cit true σ.length])
      | some _=>none
    | _=>none
  | _=>none
structure BndOk(G:Gd)(mN:Str→Option Value)(name:Str)(f:Addr):Prop where
  m:mN name=some (.ref f)
  obj:∃of fd,G.h0.get? f=some of∧of.cls = .type "function"∧of.data = .func fd
  bnd:G.bnd=methodObj (.ref f) (.ref (G.cst 0))
theorem se_iterc(K:GOk G)(L:LexG G C N D mN){fr:Addr}{o:Expr}{name:Str}{p apos pos cp:Pos}{k:Nat}{f:EF}(B:BndOk G mN name fr)(hx:cx.names.lookup ("iter":Str)=some .globalImplicit) (hb:BI G "iter" (.builtin "iter")) (hB:typeLookup (.type "object") name=pure none)
    (hcp:(["__module__","__name__","__qualname__","__doc__","__annotations__"]:List Str).contains name=false) (ho:SE G r cx o f) {x0:Str} (hx0:x0=⟨#[]⟩)
    (he:∀env,eval (.Attribute o name apos) env=(do
      let ov ←eval o env
      standAt apos.atName
      let r ←holding [ov] (getAttr ov name true)
      letTemporaryGo o ov r
      pure r):=by exact fun _=>rfl)
    (hplain:∀env,starEach [.Attribute o name apos, .Constant (.str x0) k cp] env= [(false,eval (.Attribute o name apos) env),(false,eval (.Constant (.str x0) k cp) env)]:=by exact fun _=>rfl) :
    SE G r cx (.Call (.Name "iter" p) [.Attribute o name apos, .Constant (.str x0) k cp] [] pos) (fIterC name f):=fun A fm μ ρ σ s v σ' a O I F hf=>by
  refine selfE hf fun σ₁ fs e1 e2 hf=>?_
  have hf':fs.lookup name=none∧some (V.loc (σ₁.length+1),σ₁++ [.bnd]++ [.cit true σ₁.length])=some (v,σ'):=by
    cases e:fs.lookup name with
    | some _=>rw [e] at hf; contradiction
    | none=>rw [e] at hf; exact ⟨rfl,hf⟩
  simp only [yc]
  have hany:(backTo pos (starEach [.Attribute o name apos, .Constant (.str x0) k cp] fm.env)).any (·.1)=false:=by rw [hplain]; rfl
  refine se2 hf'.2 (wpAny_bind (yY K O I hx hb (zT rfl hany (z6 hany ?_))))
  dsimp only [hplain]
  refine Calls.spliced_cons (rest:= [(false,eval (.Constant (.str x0) k cp) fm.env)]) (PyProof.Rows.Attribute_any_ (ho.use a O I F e1 fun y s₁ μ₁ st₁ I₁ F₁ q₁=>?_) (he _))
  refine rg (show y=_ from q₁) ?_
  refine xe14 (inst_at L I₁ e2) fun mA h1 h1' h2 h3=>xe14 L.inst fun oi g1 g2 g3 g4=>xe23 B.obj fun of fd f1 f2 f3=>?_
  have X:=L.cls.keeps I₁.base
  have gi:=I₁.base _ _ g1
  have gf:=I₁.base _ _ f1
  have hbnd:=B.bnd
  have hb1:(s₁.heap.push G.bnd).get? s₁.heap.objs.size=some G.bnd:=Heap.get?_push_size _ (by refine rg hbnd ?_; rfl)
  have I₂:=I₁.newloc K G.bnd .bnd (s₁.toks+1) hb1
  have st₂:=step_new (μ:=μ₁) (h:=s₁.heap) G.bnd
  have key:wpAny (model G.prog G.w) A (spliced [(false,eval (.Constant (.str x0) k cp) fm.env)]) (fun vs s₂=>wpAny (model G.prog G.w) A (call (.builtin "iter") (.ref s₁.heap.objs.size::vs) []) (Good G μ s (.loc (σ₁.length+1)) (σ₁++ [.bnd]++ [.cit true σ₁.length])) (fun _ _=>False) s₂) (fun _ _=>False) {s₁ with heap:=s₁.heap.push G.bnd,toks:=s₁.toks+1}:=by
    refine Calls.spliced_cons (wpAny_Constant_str (Calls.spliced_nil (call_iter2 (f:= .ref fr) (x:= .ref (G.cst 0)) (hbnd▸hb1) ?_)))
    subst hx0
    have I₃:=(I₂.toks (s₁.toks+1+1)).newloc K {cls:= .type "callable_iterator",data:= .fields #[.ref s₁.heap.objs.size, .str ⟨#[]⟩ (s₁.toks+1), .bool false]} (.cit true σ₁.length) (s₁.toks+1+1)
      ⟨s₁.heap.objs.size,s₁.toks+1,by rw [←I₁.len]; simp,Heap.get?_push_size _ rfl⟩
    exact ⟨_,(st₁.trans st₂).trans (step_new _),I₃,_,by rw [←I₁.len]; simp,rfl⟩
  have hno:=hf'.1
  clear I₁ I₂ F₁ st₁ st₂ q₁ h3 hf hf' F I
  cases s₁
  refine X.elim fun _ _ _ _ _ _ _ _ _ _ _ _ _ _ hC=>bound_attr hC X.ns X.ga X.gt B.m gf f2 hB gi g2 g3 g4 h1' (h2 _ hno) hcp ?_
  refine rl hbnd ?_
  exact key
end
end Mi
namespace Mi
open MeetsSeq MeetsSeq2 MeetsSeq3 SeqRoads2 SeqAt
noncomputable def vStr?:V→Option (List Nat)
  | .str x=>some x
  | _=>none
theorem vStr?_some{v:V}{x:List Nat}(h:vStr? v=some x):v = .str x:=by
  cases v with
  | str y=>exact congrArg V.str (Option.some.inj h)
  | _=>contradiction
noncomputable def citAt(σ:List AObj)(l:Nat):Option (Bool × Nat):=match (σ[l]?:Option AObj) with
  | some (.cit b n)=>some (b,n)
  | _=>none
theorem citAt_some{σ:List AObj}{l:Nat}{b:Bool}{n:Nat}(h:citAt σ l=some (b,n)):σ[l]?=some (.cit b n):=by
  unfold citAt at h
  revert h
  cases σ[l]? with
  | none=>exact nofun
  | some o=>cases o with
    | cit b n=>exact fun h=>se2 h rfl
    | _=>exact nofun
noncomputable def bndAt(σ:List AObj)(l:Nat):Bool:=match (σ[l]?:Option AObj) with
  | some .bnd=>true
  | _=>false
theorem bndAt_true{σ:List AObj}{l:Nat}(h:bndAt σ l=true):σ[l]?=some .bnd:=by
  unfold bndAt at h
  revert h
  cases σ[l]? with
  | none=>exact nofun
  | some o=>cases o with
    | bnd=>exact fun _=>rfl
    | _=>exact nofun
noncomputable def citC(g:TF)(b rest:SF)(l lb:Nat)(ρ:List V)(σ:List AObj):List Nat→Option (Fl × List V × List AObj)
  | []=>some (.next,ρ,σ.set l (.cit false lb))
  | x::xs=>match g (.str (x::xs)) ρ with
    | some ρ'=>lpF rest (b ρ' σ)
    | none=>none
noncomputable def citStep(F:List V→List AObj→Option (V × List AObj))(g:TF)(b:SF)(l:Nat)(rest:SF):SF:=fun ρ σ=>match citAt σ l with
  | some (false,_)=>some (.next,ρ,σ)
  | some (true,lb)=>if bndAt σ lb then match F [.cst 0] σ with
      | some (v,σ')=>match vStr? v with
        | some c=>if citAt σ' l=some (true,lb)∧bndAt σ' lb=true then citC g b rest l lb ρ σ' c else none
        | none=>none
      | none=>none
    else none
  | none=>none
noncomputable def citN(F:List V→List AObj→Option (V × List AObj))(g:TF)(b:SF)(l:Nat):Nat→SF
  | 0=>fun _ _=>none
  | n+1=>citStep F g b l (citN F g b l n)
noncomputable def CitC(g:TF)(b rest:SF)(l lb:Nat)(x:Fl × List V × List AObj)(ρ:List V)(σ:List AObj)(c:List Nat):Prop:=
  (c= []∧x=(.next,ρ,σ.set l (.cit false lb)))∨∃ρ₁ fl ρ₂ σ₂,c≠ []∧g (.str c) ρ=some ρ₁∧b ρ₁ σ=some (fl,ρ₂,σ₂)∧Lx rest x fl ρ₂ σ₂
section
variable {F:List V→List AObj→Option (V × List AObj)}{g:TF}{b rest:SF}{l lb n:Nat}{ρ:List V}{σ σ₁:List AObj}{x:Fl × List V × List AObj}{c:List Nat}
theorem citC_inv(h:citC g b rest l lb ρ σ c=some x):CitC g b rest l lb x ρ σ c:=by
  cases c with
  | nil=>exact .inl ⟨rfl,(Option.some.inj h).symm⟩
  | cons y ys=>
    cases e:g (.str (y::ys)) ρ with
    | none=>rw [citC,e] at h; contradiction
    | some ρ₁=>
      rw [citC,e] at h
      exact xe32 (lpx_of (y:=b ρ₁ σ) h) fun fl ρ₂ σ₂ e1 e2=> .inr ⟨ρ₁,fl,ρ₂,σ₂,nofun,e,e1,e2⟩
theorem citC_to(h:CitC g b rest l lb x ρ σ c):citC g b rest l lb ρ σ c=some x:=by
  rcases h with ⟨rfl,rfl⟩ | h
  · rfl
  · refine xe44 h fun ρ₁ fl ρ₂ σ₂ hc e1 e2 hx=>?_
    cases c with
    | nil=>exact absurd rfl hc
    | cons y ys=>rw [citC,e1]; exact (congrArg (lpF rest) e2).trans (lpx_to hx)
theorem citStep_inv(h:citStep F g b l rest ρ σ=some x):(∃lb,citAt σ l=some (false,lb)∧x=(.next,ρ,σ)) ∨
    ∃lb c σ₁,citAt σ l=some (true,lb)∧bndAt σ lb=true∧F [.cst 0] σ=some (.str c,σ₁)∧(citAt σ₁ l=some (true,lb)∧bndAt σ₁ lb=true)∧CitC g b rest l lb x ρ σ₁ c:=by
  unfold citStep at h
  split at h
  · rename_i lb e; exact .inl ⟨lb,e,(Option.some.inj h).symm⟩
  · rename_i lb e
    split at h
    · rename_i e1
      split at h
      · rename_i v σ₁ e2
        split at h
        · rename_i c e3
          split at h
          · rename_i e4
            exact .inr ⟨lb,c,σ₁,e,e1,vStr?_some e3▸e2,e4,citC_inv h⟩
          · contradiction
        · contradiction
      · contradiction
    · contradiction
  · contradiction
theorem citStep_yes(e:citAt σ l=some (true,lb))(e1:bndAt σ lb=true)(e2:F [.cst 0] σ=some (.str c,σ₁))(e3:citAt σ₁ l=some (true,lb)∧bndAt σ₁ lb=true):citStep F g b l rest ρ σ=citC g b rest l lb ρ σ₁ c:=by
  unfold citStep; refine rg e ?_
  show (if bndAt σ lb=true then _ else _)=_
  refine rg (if_pos e1) ?_; refine rg e2 ?_
  exact if_pos e3
theorem citStep_no(e:citAt σ l=some (false,lb)):citStep F g b l rest ρ σ=some (.next,ρ,σ):=by
  unfold citStep; refine rg e ?_; rfl
end
theorem citN_up{F:List V→List AObj→Option (V × List AObj)}{g:TF}{b:SF}{l:Nat}(x:Fl × List V × List AObj):∀(n:Nat) (ρ:List V) (σ:List AObj),citN F g b l n ρ σ=some x→citN F g b l (n+1) ρ σ=some x
  | 0=>fun _ _ h=>nomatch h
  | n+1=>fun ρ σ h=>(citStep_inv h).elim (fun h=>xe12 h fun _ e q=>q▸citStep_no e) fun h=>xe35 h fun _ _ _ e e1 e2 e3 hc=>(citStep_yes e e1 e2 e3).trans (citC_to (hc.imp_right fun h=>xe44 h fun ρ₁ fl ρ₂ σ₂ hn e1 e2 hx=>⟨ρ₁,fl,ρ₂,σ₂,hn,e1,e2,hx.mono (citN_up x n)⟩))
noncomputable def citAll(F:List V→List AObj→Option (V × List AObj))(g:TF)(b:SF)(l:Nat):SF:=lim (citN F g b l)
theorem citAll_of{F:List V→List AObj→Option (V × List AObj)}{g:TF}{b:SF}{l n:Nat}{ρ:List V}{σ:List AObj}{x:Fl × List V × List AObj}(h:citN F g b l n ρ σ=some x):citAll F g b l ρ σ=some x:=lim_of citN_up h
noncomputable def fForC(F:List V→List AObj→Option (V × List AObj))(f:EF)(g:TF)(b:SF):SF:=fun ρ σ=>match f ρ σ with
  | some (.loc l,σ)=>citAll F g b l ρ σ
  | _=>none
section
variable {G:Gd}{r:Nat}{cx cx':Cx}{fm:Fm}{W W':Addr→Prop}{μ μ' μ₁ μ₀ ν:List Addr}{h h':Heap}{ρ ρ' ρ₁:List V}{σ σ' σ₁ σ₀:List AObj}{A:Around}{E:Value→Shared→Prop}{s s' s₁:Shared}{v:V}{b:Bool}{e:Expr}{fl:Fl}{C N D:Addr}{mN:Str→Option Value}
theorem fForC_inv{F:List V→List AObj→Option (V × List AObj)}{f:EF}{g:TF}{b:SF}{x:Fl × List V × List AObj}(h:fForC F f g b ρ σ=some x):∃l σ₀ n,f ρ σ=some (.loc l,σ₀)∧citN F g b l n ρ σ₀=some x:=by
  unfold fForC at h
  revert h
  cases f ρ σ with
  | none=>exact nofun
  | some p=>cases p with | mk v σ₀=>cases v with
    | loc l=>exact fun h=>(lim_ex h).elim fun n hn=>⟨l,σ₀,n,rfl,hn⟩
    | _=>exact nofun
structure CitI(G:Gd)(cx:Cx)(fm:Fm)(μ:List Addr)(s:Shared)(l ad:Nat)(it:Nat→SF)(x:Fl × List V × List AObj)(k:Nat)(s₂:Shared)(μ₂:List Addr)(ρ₂:List V)(σ₂:List AObj):Prop where
  st:Step (Own cx fm) μ μ₂ s.heap s₂.heap
  hl:μ₂[l]?=some ad
  I:Inv G μ₂ σ₂ s₂
  F:FR G cx fm μ₂ s₂.heap ρ₂
  h:it k ρ₂ σ₂=some x
theorem cit_at{l ad:Nat}{lb:Nat}(I:Inv G μ σ s)(hl:μ[l]?=some ad)(e:citAt σ l=some (b,lb)):ORel G μ s.heap ad (.cit b lb):=I.obj l ad _ hl (citAt_some e)
theorem cit_obj{F:List V→List AObj→Option (V × List AObj)}{g:TF}{b rest:SF}{l ad:Nat}{x:Fl × List V × List AObj}(I:Inv G μ σ s)(hl:μ[l]?=some ad)(h:citStep F g b l rest ρ σ=some x):∃o,s.heap.get? ad=some o∧o.cls = .type "callable_iterator":=
  (citStep_inv h).elim (fun h=>xe12 h fun _ e _=>xe22 (cit_at I hl e) fun _ _ _ h=>⟨_,h,rfl⟩) fun h=>xe35 h fun _ _ _ e _ _ _ _=>xe22 (cit_at I hl e) fun _ _ _ h=>⟨_,h,rfl⟩
theorem cit_read{fr:Addr}{name:Str}{F:List V→List AObj→Option (V × List AObj)}(B:BndOk G mN name fr)(H:Z1 G r (.ref fr) F){l ad lb:Nat}{c:List Nat}{Q:Option Value→Shared→Prop}(a:AOk (r+1) A)(I:Inv G μ σ s)(hl:μ[l]?=some ad)
    (e2:citAt σ l=some (true,lb)) (e3:bndAt σ lb=true) (e4:F [.cst 0] σ=some (.str c,σ₁)) (e5:citAt σ₁ l=some (true,lb)∧bndAt σ₁ lb=true)
    (k0:∀μ' s',c= []→Step W0 μ μ' s.heap s'.heap→Inv G μ' (σ₁.set l (.cit false lb)) s'→Q none s')
    (k1:∀μ' s' y,c≠ []→Step W0 μ μ' s.heap s'.heap→Inv G μ' σ₁ s'→VR G μ' s'.heap (.str c) y→Q (some y) s'):wpAny (model G.prog G.w) A (pyNext (.ref ad)) Q E s:=by
  refine xe22 (cit_at I hl e2) fun m t hm h2=>xe23 B.obj fun of fd f1 f2 f3=>cit_next h2 ((I.obj _ m _ hm (bndAt_true e3)).trans (congrArg some B.bnd)) (I.base _ _ f1) f3 a.handled (codeAny_mono (H A.in1 μ σ s [.cst 0] [.ref (G.cst 0)] _ _ a.in1 I ⟨_,_,rfl,rfl,rfl⟩ e4) fun r s₃ hr=>?_)
  cases r with
  | error e=>exact hr.elim
  | ok fl'=>cases fl' with
    | ret y=>
      refine xe13 hr fun μ₃ st₃ I₃ q=>q.2.elim fun u hy=>xe22 (cit_at I₃ (st₃.getl hl) e5.1) fun m' t' hm' h2'=>?_
      have hmm:m'=m:=Option.some.inj (hm'.symm.trans (st₃.getl hm))
      subst hmm
      exact ⟨t',c,u,h2',(I₃.obj _ m' _ hm' (bndAt_true e5.2)).trans (congrArg some B.bnd),I₃.base _ _ f1,hy,
        fun hc0 h' hex hend hz=>(I₃.upd2 (h':=h') (ob:= .cit false lb) (st₃.getl hl) hex hz (fun _=>⟨m',t',hm',hend⟩) s₃.toks).elim fun I₄ st₄=>k0 _ _ hc0 (st₃.trans st₄) I₄,fun hc0=>k1 _ _ y hc0 st₃ I₃ q⟩
    | _=>exact hr.elim
theorem ss_forc{fr:Addr}{name:Str}{F:List V→List AObj→Option (V × List AObj)}(B:BndOk G mN name fr)(H:Z1 G r (.ref fr) F){x:Str}{tp pos:Pos}{it:Expr}{body:List Stmt}{f:EF}{g:TF}{b:SF}(hi:SE G (r+1) cx it f)(ht:ST G (r+1) cx (.Name x tp) g)(hb:SSs G (r+1) cx body b)
    (hs:∀env y,foldedSetIterable it env y=pure y:=by exact fun _ _=>rfl):SS G (r+1) cx (.For (.Name x tp) it body [] pos) (fForC F f g b):=fun A fm μ ρ σ s fl ρ' σ' a O I Fr hf=>by
  refine xe32 (fForC_inv hf) fun l σ₀ n e1 hn=>wpAny_For (hi.use a O I Fr e1 fun y s₁ μ₁ st₁ I₁ F₁ q₁=>xe12 q₁ fun ad hl hy=>hy▸?_) (hs _)
  have hst:∃o,s₁.heap.get? ad=some o∧o.cls = .type "callable_iterator":=by
    cases n with
    | zero=>contradiction
    | succ n=>exact cit_obj I₁ hl hn
  refine xe12 hst fun o ho hc=>cit_iter ho hc (RS.to (forT (fun k s₂=> ∃μ₂ ρ₂ σ₂,CitI G cx fm μ s l ad (citN F g b l) (fl,ρ',σ') k s₂ μ₂ ρ₂ σ₂) (fun k s₂ h=>xe31 h fun μ₂ ρ₂ σ₂ J=>?_) n ⟨μ₁,ρ,σ₀,st₁.of0,hl,I₁,F₁,hn⟩))
  have hk:=J.h
  cases k with
  | zero=>contradiction
  | succ k=>
    refine (citStep_inv hk).elim (fun h=>xe12 h fun lb e2 ex=>xe22 (cit_at J.I J.hl e2) fun m t _ h2=>cit_dead h2 a.handled fun h' hkp hz=>(J.I.kept hkp hz s₂.toks).elim fun I₃ st₃=>pr3 ex ⟨μ₂,J.st.trans st₃.of0,I₃,J.F.step0 st₃,rfl⟩) fun h=>xe35 h fun lb c σ₃ e2 e3 e4 e5 hc=>cit_read B H a J.I J.hl e2 e3 e4 e5 (fun μ₃ s₃ hc0 st₃ I₃=>?_) fun μ₃ s₃ y hc0 st₃ I₃ q=>?_
    · exact hc.elim (fun hc=>pr3 hc.2 ⟨μ₃,J.st.trans st₃.of0,I₃,J.F.step0 st₃,rfl⟩) fun h=>xe44 h fun _ _ _ _ hn _ _ _=>absurd hc0 hn
    · exact hc.elim (fun hc=>absurd hc.1 hc0) fun h=>xe44 h fun ρ₃ fl₁ ρ₅ σ₅ _ e7 e8 hx=>wpAny_pure (for_body (v:= .str c) ht hb a O I₃ (J.F.step0 st₃) q e7 e8 hx (fun st=>(J.st.trans st₃.of0).trans st) fun μ₅ s₅ st₅ I₅ F₅ hk=>
          ⟨k,Nat.lt_succ_self k,μ₅,ρ₅,σ₅,(J.st.trans st₃.of0).trans st₅,st₅.getl (st₃.getl J.hl),I₅,F₅,hk⟩)
end
end Mi
namespace Mi
open MeetsSeq MeetsSeq2 MeetsSeq3 SeqRoads2 SeqAt
structure StrG(G:Gd)(name:Str)(rf:Addr):Prop where
  ex:∃o fd FD m,G.h0.get? (G.cst 1)=some o∧o.cls = .type "function"∧o.data = .func fd∧o.dict=some FD∧G.h0.Ns FD m∧m name=some (.ref rf)
  fn:∃o fd,G.h0.get? rf=some o∧o.data = .func fd
noncomputable def fFMeth(f:EF)(g:EsF)(F:List V→List AObj→Option (V × List AObj)):EF:=fun ρ σ=>match f ρ σ with
  | some (.cst 1,σ)=>match g ρ σ with
    | some (vs,σ)=>F vs σ
    | none=>none
  | _=>none
section
variable {G:Gd}{r:Nat}{cx cx':Cx}{fm:Fm}{W W':Addr→Prop}{μ μ' μ₁ μ₀ ν:List Addr}{h h':Heap}{ρ ρ' ρ₁:List V}{σ σ' σ₁ σ₀:List AObj}{A:Around}{E:Value→Shared→Prop}{s s' s₁:Shared}{v:V}{b:Bool}{e:Expr}{fl:Fl}{C N D:Addr}{mN:Str→Option Value}
theorem se_fmeth{o:Expr}{name:Str}{rf:Addr}{apos pos:Pos}{es:List Expr}{f:EF}{g:EsF}{F:List V→List AObj→Option (V × List AObj)}(S:StrG G name rf)(H:Z1 G r (.ref rf) F)(hB:typeLookup (.type "function") name=pure none) (ho:SE G r cx o f) (hs:SEs G r cx es g)
    (he:MethArm o name apos pos es:=by exact fun _=>⟨_,rfl⟩) (hplain:∀env pos,(backTo pos (starEach es env)).any (·.1)=false:=by exact fun _ _=>rfl) :
    SE G r cx (.Call (.Attribute o name apos) es [] pos) (fFMeth f g F):=fun A fm μ ρ σ s v σ' a O I Fr hf=>by
  unfold fFMeth at hf
  split at hf
  · rename_i σ₁ e1
    split at hf
    · rename_i vs σ₂ e4
      obtain ⟨pl,he⟩:=he fm.env
      refine xe22 S.fn fun of fdf m2 m3=>?_
      refine xe46 S.ex fun os fds FD m n1 n2 n3 n4 n5 n6=>?_
      refine PyProof.Rows.MethodCall_ (ho.use a O I Fr e1 fun y s₁ μ₁ st₁ I₁ F₁ q₁=>?_) he
      refine rg (show y=_ from q₁) ?_
      have I₁':=I₁.toks (s₁.toks+1)
      have key:wpAny (model G.prog G.w) A (callWith pos (.ref rf) [] (backTo pos (starEach es fm.env)) []) (Good G μ s v σ') (fun _ _=>False) {s₁ with toks:=s₁.toks+1}:=by
        refine Calls.callWith_function (o:=of) (fd:=fdf) (z6 (hplain _ _) (hs.use a O I₁' F₁ e4 fun ys s₂ μ₂ st₂ I₂ F₂ q₂=>⟨⟨I₂.base _ _ m2,m3⟩,?_⟩))
        exact wpAny_mono (H.wp A μ₂ σ₂ s₂ vs ys v σ' a I₂ q₂ hf) (fun _ _ g=>g.after (st₁.trans st₂)) fun _ _ x=>x
      have b1:=I₁.base _ _ n1
      have b2:=n5.keeps I₁.base
      obtain ⟨hp,g',d,tk,os'⟩:=s₁
      exact fn_method b1 n2 n3 n4 b2 n6 hB rfl key
    · contradiction
  · contradiction
structure FnAtC(G:Gd)(a:Addr)(fd:FuncData)(body:List Stmt)(ps:List Str)(cx:Cx)(tail:List V):Prop where
  obj:∃o,G.h0.get? a=some o∧o.data = .func fd
  code:G.h0.CodeRec fd.code fd.qualname
  body:fd.body = .stmts body
  bind:∀vals:List Value,vals.length=ps.length→bindArgs fd ⟨vals, []⟩=pure (ps.zip vals)
  glob:fd.globals=mainGlobals
  blt:fd.builtins=builtinsNs
  names:fd.scope.names=cx.names
  kind:fd.scope.kind = .function
  co:fd.scope.isCoroutine=false
  gen:fd.scope.isGenerator=false
  ok:cx.ok=true
  nocell:∀x∈fd.scope.names,x.2 ≠ .cell
  par:ps=(cx.xs.map (·.1)).take ps.length
  parl:∀i:Nat,i<ps.length→∃x,cx.xs[i]?=some (x, .loc)
  len:ps.length+tail.length=cx.xs.length
  loc:∀(i:Nat) (x:Str),cx.xs[ps.length+i]?=some (x, .loc)→tail[i]?=some .undef
  fre:∀(i:Nat) (x:Str) (k:VK),cx.xs[ps.length+i]?=some (x,k)→k ≠ .loc→∃c v y,tail[i]?=some v∧fd.closure.lookup x=some c∧G.h0.IsCell c (some y)∧k = .fre∧∀μ σ s,Inv G μ σ s→VR G μ s.heap v y
  dist:∀(i j:Nat) (x y:Str) (c:Addr),cx.xs[i]?=some (x, .fre)→cx.xs[j]?=some (y, .fre)→fd.closure.lookup x=some c→fd.closure.lookup y=some c→i=j
noncomputable def fnFC(tail:List V)(body:SF)(vs:List V)(σ:List AObj):Option (V × List AObj):=match body (vs++tail) σ with
  | some (.ret v,_,σ')=>finF σ σ' v
  | some (.next,_,σ')=>finF σ σ' .none
  | _=>none
noncomputable def fmC(fd:FuncData)(L a:Addr)(cx:Cx):Fm:=⟨newEnv fd.scope L fd.globals fd.closure (fd.qualname++".<locals>.") (some a) fd.code none fd.builtins,cx.xs.map fun p=>if p.2 = .loc then none else fd.closure.lookup p.1⟩
theorem zip_lookup:∀(ps:List Str) (vals:List Value),ps.Nodup→∀(i:Nat) (x:Str) (v:Value),ps[i]?=some x→vals[i]?=some v→(ps.zip vals).lookup x=some v
  | [],_,_,i,_,_,e,_=>by contradiction
  | n::r, [],_,i,_,_,_,e=>by contradiction
  | n::r,w::vals,hn,0,x,v,e,e'=>by
    simp at e e'; subst e e'
    simp [List.lookup_cons]
  | n::r,w::vals,hn,i+1,x,v,e,e'=>by
    simp at e e'
    have:x≠n:=fun q=>(List.nodup_cons.mp hn).1 (q▸List.mem_of_getElem? e)
    have hb:(x==n)=false:=by simpa using this
    rw [List.zip_cons_cons,List.lookup_cons,hb]
    exact zip_lookup r vals (List.nodup_cons.mp hn).2 i x v e e'
theorem lookup_reverse_nodup{l:List (Str × Value)}(hn:(l.map (·.1)).Nodup)(x:Str):l.reverse.lookup x=l.lookup x:=by
  induction l with
  | nil=>rfl
  | cons p l ih=>
    obtain ⟨y,v⟩:=p
    rw [List.map_cons,List.nodup_cons] at hn
    rw [List.reverse_cons,ZC,ih hn.2,List.lookup_cons]
    by_cases hxy:x=y
    · subst hxy
      have:l.lookup x=none:=by
        cases hq:l.lookup x with
        | none=>rfl
        | some w=>exact absurd (List.mem_map_of_mem (f:=(·.1)) (mem_of_lookup hq)) hn.1
      simp [this,List.lookup_cons]
    · have hb:(x==y)=false:=by simpa using hxy
      simp [hb,List.lookup_cons]
theorem FnAtC.ge{a:Addr}{fd:FuncData}{body:List Stmt}{ps:List Str}{tail:List V}(Nf:FnAtC G a fd body ps cx tail){i:Nat}{x:Str}{k:VK}(e:cx.xs[i]?=some (x,k))(hk:k ≠ .loc):ps.length≤i:=
  Nat.not_lt.mp fun q=>(Nf.parl i q).elim fun _ h=>hk (Prod.mk.inj (Option.some.inj (e.symm.trans h))).2
theorem FnAtC.cel{a:Addr}{fd:FuncData}{body:List Stmt}{ps:List Str}{tail:List V}(Nf:FnAtC G a fd body ps cx tail){i:Nat}{x:Str}{k:VK}(e:cx.xs[i]?=some (x,k))(hk:k ≠ .loc) :
    ∃c v y,tail[i-ps.length]?=some v∧fd.closure.lookup x=some c∧G.h0.IsCell c (some y)∧k = .fre∧∀μ σ s,Inv G μ σ s→VR G μ s.heap v y:=
  Nf.fre (i-ps.length) x k ((Nat.add_sub_cancel' (Nf.ge e hk)).symm▸e) hk
theorem csC_get{fd:FuncData}{L a:Addr}{i:Nat}{x:Str}{k:VK}(e:cx.xs[i]?=some (x,k)):(fmC fd L a cx).cs[i]?=some (if k = .loc then none else fd.closure.lookup x):=by
  show (cx.xs.map _)[i]?=_
  refine rg List.getElem?_map ?_; refine rg e ?_; rfl
theorem csC_inv{a:Addr}{fd:FuncData}{body:List Stmt}{ps:List Str}{tail:List V}(Nf:FnAtC G a fd body ps cx tail){L:Addr}{i:Nat}{c:Addr}(e:(fmC fd L a cx).cs[i]?=some (some c)) :
    ps.length≤i∧∃x v y,cx.xs[i]?=some (x, .fre)∧fd.closure.lookup x=some c∧tail[i-ps.length]?=some v∧G.h0.IsCell c (some y)∧∀μ σ s,Inv G μ σ s→VR G μ s.heap v y:=by
  cases hq:cx.xs[i]? with
  | none=>
    have e:(cx.xs.map _)[i]?=_:=e
    rw [List.getElem?_map,hq] at e; contradiction
  | some p=>
    have e:=Option.some.inj ((csC_get (fd:=fd) (L:=L) (a:=a) hq).symm.trans e)
    by_cases hk:p.2 = .loc
    · rw [if_pos hk] at e; contradiction
    · rw [if_neg hk] at e
      exact xe35 (Nf.cel hq hk) fun c' v y h1 h2 h3 h4 h5=>⟨Nf.ge hq hk,p.1,v,y,h4▸rfl,e,h1,Option.some.inj (h2.symm.trans e)▸h3,h5⟩
theorem FnAtC.fmok{a:Addr}{fd:FuncData}{body:List Stmt}{ps:List Str}{tail:List V}(Nf:FnAtC G a fd body ps cx tail)(L:Addr):FmOk cx (fmC fd L a cx) where
  ok:=Nf.ok
  kind:=Nf.kind
  names:=Nf.names
  glob:=Nf.glob
  blt:=Nf.blt
  loc:=fun i x e=>csC_get e
  cel:=fun i x k e hk=>xe32 (Nf.cel e hk) fun c _ _ _ h=>⟨c,(csC_get e).trans (congrArg some ((if_neg hk).trans h.1)),h.1⟩
  dist:=fun i j c e1 e2=>xe32 (csC_inv Nf e1).2 fun x _ _ h1 h=>xe32 (csC_inv Nf e2).2 fun y _ _ g1 g=>Nf.dist i j x y c h1 g1 h.1 g.1
theorem FnAtC.hpar{a:Addr}{fd:FuncData}{body:List Stmt}{ps:List Str}{tail:List V}(Nf:FnAtC G a fd body ps cx tail){i:Nat}{x:Str}(e:ps[i]?=some x):cx.xs[i]?=some (x, .loc):=by
  have hi:=(List.getElem?_eq_some_iff.mp e).1
  rw [Nf.par,List.getElem?_take_of_lt hi,List.getElem?_map] at e
  exact (Nf.parl i hi).elim fun x' h=>by rw [h] at e; exact h.trans (congrArg (fun x=>some (x,VK.loc)) (Option.some.inj e))
theorem fr_inC{a:Addr}{fd:FuncData}{body:List Stmt}{ps:List Str}{tail:List V}{vs:List V}{ys:List Value}{m:Str→Option Value}(Nf:FnAtC G a fd body ps cx tail)(I:Inv G μ σ s)(q:VRs G μ s.heap vs ys)(hlen:vs.length=ps.length)
    (hns:h'.Ns s.heap.objs.size m) (hlk:∀(i:Nat) (x:Str) (y:Value),ps[i]?=some x→ys[i]?=some y→m x=some y) (hkp:∀b o,s.heap.get? b=some o→h'.get? b=some o) (st₁:Step W0 μ μ s.heap h'):FR G cx (fmC fd s.heap.objs.size a cx) μ h' (vs++tail):=by
  refine ⟨m,hns,I.fresh,fun b q=>q.elim (fun q=>I.fresh0 (Nat.le_of_eq q.symm)) fun q=>xe22 q fun i x e1 e2=>xe32 (csC_inv Nf e2).2 fun _ _ _ h _=>(nomatch e1.symm.trans h),fun i c e=>?_,?_,fun i x w e1 e2 e3=>?_,fun i c w e1 e2 e3=>?_⟩
  · refine xe35 (csC_inv Nf e).2 fun x v y _ _ _ h4 _=>h4.elim fun oc h=>?_
    have hcs:=I.base _ _ h.1
    exact ⟨fun q=>(nomatch (I.new c q).1.symm.trans h.1),Nat.ne_of_lt (Heap.lt_size hcs),_,oc,hkp _ _ hcs,h.2⟩
  · refine rg List.length_append ?_; refine rg hlen ?_; exact Nf.len
  · rcases Nat.lt_or_ge i vs.length with hi | hi
    · rw [List.getElem?_append_left hi] at e2
      refine xe12 (q.get e2) fun y e4 e5=>⟨y,hlk i x y ?_ e4,e5.step st₁⟩
      have hip:=List.getElem?_eq_getElem (hlen▸hi)
      exact hip.trans (congrArg (fun p=>some p.1) (Option.some.inj ((Nf.hpar hip).symm.trans e1)))
    · rw [List.getElem?_append_right hi,hlen] at e2
      exact absurd (Option.some.inj (e2.symm.trans (Nf.loc (i-ps.length) x ((Nat.add_sub_cancel' (hlen▸hi)).symm▸e1)))) e3
  · refine (csC_inv Nf e1).elim fun hi h=>xe35 h fun x v y _ _ h3 h4 h5=>?_
    rw [List.getElem?_append_right (hlen.symm▸hi),hlen,h3] at e2
    exact ⟨y,(h4.keeps I.base).keeps hkp,Option.some.inj e2▸(h5 μ σ s I).step st₁⟩
theorem call_fnC(K:GOk G){a:Addr}{fd:FuncData}{body:List Stmt}{ps:List Str}{tail:List V}{bf:SF}(Nf:FnAtC G a fd body ps cx tail)(hb:SSs G r cx body bf):Z1 G (r+1) (.ref a) (fun vs σ=>if vs.length=ps.length then fnFC tail bf vs σ else none):=fun A μ σ s vs ys v σ' ak I q hf=>by
  have hf':vs.length=ps.length∧fnE σ (bf (vs++tail) σ)=some (v,σ'):=by
    by_cases h:vs.length=ps.length
    · exact ⟨h,(if_pos h).symm.trans hf⟩
    · exact nomatch (if_neg h).symm.trans hf
  refine hf'.elim fun hlen hf=>xe32 (fnE_inv hf) fun fl ρ₂ σ₂ e2 hf=>xe12 Nf.obj fun o ho hd=>?_
  have hyl:ys.length=ps.length:=q.length.trans hlen
  have hnd:ps.Nodup:=by
    have:=Nf.ok
    simp only [Cx.ok,Bool.and_eq_true] at this
    refine rg Nf.par ?_
    exact (nodup_of this.2).sublist (List.take_sublist _ _)
  have O:=Nf.fmok s.heap.objs.size
  refine codeAny_call_function ak.room (I.base _ _ ho) hd Nf.co Nf.gen Nf.body (Nf.code.keeps I.base) ?_
  rw [Nf.bind ys hyl]
  refine wpAny_pure (wpAny_newFunctionEnv Nf.nocell (fun x hx=>?_) (fun h' hns hsb=>?_) Nf.kind)
  · refine (List.getElem?_of_mem (List.of_mem_zip hx).1).elim fun i hi=>?_
    have:=O.klocal (Nf.hpar hi)
    rw [O.kindOf,←Nf.names] at this
    exact this
  · have hkp:∀b o,s.heap.get? b=some o→h'.get? b=some o:=fun b o e=>(hsb.2 b (Nat.ne_of_lt (Heap.lt_size e))).trans (Heap.get?_push_of_some _ e)
    refine (I.kept (h':=h') hkp (by refine rg hsb.1 ?_; simp) (s.toks+(ps.zip ys).length)).elim fun I₁ st₁=>⟨(I.nolimit K).keeps hkp,codeAny_func (wpAny_mono (hb _ _ μ _ _ _ _ _ _ (ak.deeper _) O I₁ (fr_inC Nf I q hlen hns (fun i x y e1 e2=>?_) hkp st₁) e2) (fun f s₂ q₂=>fn_post I st₁ (fun b q=>?_) hf q₂) fun _ _ x=>x.elim)⟩
    · show (ps.zip ys).reverse.lookup x=some y
      rw [lookup_reverse_nodup (by rw [List.map_fst_zip (Nat.le_of_eq hyl.symm)]; exact hnd)]
      exact zip_lookup ps ys hnd i x y e1 e2
    · exact q.elim (fun q=>Nat.le_of_eq q.symm) fun q=>xe22 q fun i x e1 e2=>xe32 (csC_inv Nf e2).2 fun _ _ _ h _=>nomatch e1.symm.trans h
end
end Mi
namespace Mi
open MeetsSeq MeetsSeq2 MeetsSeq3 SeqRoads2 SeqAt
structure LX(G:Gd)(C N D:Addr)(mN:Str→Option Value):Prop where
  L:LexG G C N D mN
  pushback:mN "pushback"=none
  lineno:mN "lineno"=none
  instream:mN "instream"=none
  whitespace:mN "whitespace"=none
  iter:BI G "iter" (.builtin "iter")
theorem ol_pushback:typeLookup (.type "object") "pushback"=pure none:=by kernel_rfl
theorem ol_lineno:typeLookup (.type "object") "lineno"=pure none:=by kernel_rfl
theorem ol_instream:typeLookup (.type "object") "instream"=pure none:=by kernel_rfl
theorem ol_whitespace:typeLookup (.type "object") "whitespace"=pure none:=by kernel_rfl
theorem ZX:typeLookup (.type "object") "_read_char"=pure none:=by kernel_rfl
theorem Zq:typeLookup (.type "object") "get_token"=pure none:=by kernel_rfl
theorem ol_push_token:typeLookup (.type "object") "push_token"=pure none:=by kernel_rfl
end Mi
namespace Mi
open Builtin Builtin.ObjectAttr
theorem slot_fn_sa:Slot "function" "__setattr__" "object.__setattr__":=
  .of (owner:="object") (n:="__setattr__") (by rw [typeLookup_type,builtinLookup_eq_fast]; kernel_rfl) (by decide +kernel) (by decide +kernel) (by decide +kernel)
    (by first | exact .inl (by decide +kernel) | exact .inr (by decide +kernel)) (by rw [isSubtype_type]; kernel_rfl)
theorem fn_mro:mroOf (.type "function")=pure [.type "function", .type "object"]:=by kernel_rfl
section
variable {prog:Program}{w:World}{A:Around}{E:Value→Shared→Prop}{h:Heap}{g:Array GenState}{d:Drawn}{t:Nat}{os:OsState}
theorem fn_set_entry{x:Addr}{o:Obj}{fd:FuncData}{name:Str}{v:Value}{tk:Tok}{Q:PySem.Fin→Shared→Prop}(hx:h.get? x=some o)(hc:o.cls = .type "function") (hd:o.data = .func fd) (hdx:o.dict=none)
    (hB:typeLookup (.type "function") name=pure none)
    (hq:∀h' D tk',h.objs.size≤D→h'.get? x=some {cls:=o.cls,dict:=some D,data:=o.data,slots:=o.slots}→h'.Ns1 D (fun y=>if y=name then some v else none)→(∀b ob,b≠x→h.get? b=some ob→h'.get? b=some ob)→Q (.done (.ret .none)) ⟨h',g,d,tk',os⟩) :
    wpAny (model prog w) A (Builtin.«object.__setattr__» ⟨[.ref x, .str name tk,v], []⟩) Q E ⟨h,g,d,t,os⟩:=by
  have hpass:=PySem.F.store_object.passes (.ref x)
  unfold Builtin.«object.__setattr__»
  repeat (first | rw [refuse_eq] | rw [fn_mro] | (with_reducible refine wpAny_loadPart_at hx ?_; rw [hc]) | rw [hB] | wp_step)
  rw [hdx]
  have hth:(!true|| !typeHasDict (Value.type "function"))=false:=by kernel_rfl
  rw [hth]
  simp only [Bool.false_eq_true,if_false]
  rw [hd]
  dsimp only
  have hx₁:(h.push {cls:= .type "dict",data:= .dict #[]}).get? x=some o:=Heap.get?_push_of_some _ hx
  have hxs:x≠h.objs.size:=Nat.ne_of_lt (Heap.lt_size hx)
  refine wpAny_bind (wpAny_alloc' ?_)
  refine wpAny_bind (wpAny_update' hx₁ ?_)
  have hfin:finalisedInACycleAlone "function"=false:=by decide +kernel
  unfold dictMade
  simp only [hfin,Bool.false_eq_true,if_false]
  refine wpAny_pure ?_
  have hgd:((h.push {cls:= .type "dict",data:= .dict #[]}).update x fun o=>{cls:=o.cls,dict:=some h.objs.size,data:=o.data,slots:=o.slots}).get? h.objs.size
      = some {cls:= .type "dict",data:= .dict #[]}:=
    (Heap.get?_update_ne _ _ _ _ hxs.symm).trans (Heap.get?_push_at rfl rfl)
  have hnd:((h.push {cls:= .type "dict",data:= .dict #[]}).update x fun o=>{cls:=o.cls,dict:=some h.objs.size,data:=o.data,slots:=o.slots}).Ns h.objs.size (fun _=>none):=
    ⟨_, #[],_,hgd,rfl,fun e he=>absurd he (by simp),fun _=>rfl⟩
  show wpAny _ _ (storeInDict h.objs.size (.str name tk) name v) _ _ _
  unfold storeInDict newKeyGuard
  refine wpAny_bind (wpAny_pure (wpAny_bind (wpAny_nsSet1 (Heap.Ns1.of_empty hnd) fun h' hn' hs=>?_)))
  obtain ⟨oD,esD,epD,hoD,hdD,hcD⟩:=hn'.count (Within.cons name v Within.nil)
  refine wpAny_bind (wpAny_lookBehind hoD (by rw [hdD]; exact pastItsLine_dict (Nat.le_trans hcD (by rw [List.length_cons,List.length_nil,sizeLine_eq]; omega))) ?_)
  wp_walk
  refine hq h' h.objs.size _ (Nat.le_refl _) ?_ hn' fun b ob hbx hb=>?_
  · refine (hs.2 x hxs).trans (Heap.get?_update_self _ hx₁ ?_)
    have hfr:=(Heap.get?_some_iff.mp hx).2
    obtain ⟨oc,od,odt,osl⟩:=o
    cases odt <;> first | rfl | exact hfr
  · exact (hs.2 b (Nat.ne_of_lt (Heap.lt_size hb))).trans ((Heap.get?_update_ne _ _ _ _ hbx).trans (Heap.get?_push_of_some _ hb))
theorem fn_setattr{x:Addr}{o:Obj}{fd:FuncData}{name:Str}{v:Value}{Q:Unit→Shared→Prop}(hx:h.get? x=some o)(hc:o.cls = .type "function") (hd:o.data = .func fd) (hdx:o.dict=none)
    (hB:typeLookup (.type "function") name=pure none)
    (hq:∀h' D tk',h.objs.size≤D→h'.get? x=some {cls:=o.cls,dict:=some D,data:=o.data,slots:=o.slots}→h'.Ns1 D (fun y=>if y=name then some v else none)→(∀b ob,b≠x→h.get? b=some ob→h'.get? b=some ob)→Q () ⟨h',g,d,tk',os⟩) :
    wpAny (model prog w) A (setAttr (.ref x) name v) Q E ⟨h,g,d,t,os⟩:=by
  have hT:∀t,(⟨h,g,d,t,os⟩:Shared).TypeIs (.ref x) "function":=fun _=>⟨_,hx,hc⟩
  unfold setAttr
  refine wpAny_bind (wpAny_mkText ?_)
  refine wpAny_bind (wpAny_callSpecial?_slot (name:=Str.ofString "__setattr__") (hT _) slot_fn_sa (wpAny_call_entry slot_fn_sa (hT _) PySem.F.store_object.entry (fn_set_entry hx hc hd hdx hB fun h' D tk' h1 h2 h3 h4=>⟨_,rfl,?_⟩) (PySem.F.store_object.args _ _ _)))
  exact wpAny_pure (hq h' D tk' h1 h2 h3 h4)
end
end Mi
namespace Mi
open MeetsSeq MeetsSeq2 MeetsSeq3 SeqRoads2 SeqAt
section
variable {G:Gd}{r:Nat}{cx cx':Cx}{fm:Fm}{W W':Addr→Prop}{μ μ' μ₁ μ₀ ν:List Addr}{h h':Heap}{ρ ρ' ρ₁:List V}{σ σ' σ₁ σ₀:List AObj}{A:Around}{E:Value→Shared→Prop}{s s' s₁:Shared}{v:V}{b:Bool}{e:Expr}{fl:Fl}{C N D:Addr}{mN:Str→Option Value}
noncomputable def fSetAttr(name:Str)(f g:EF):SF:=fun ρ σ=>match g ρ σ with
  | some (v,σ)=>match f ρ σ with
    | some (.cst 0,σ)=>match (σ[1]?:Option AObj) with
      | some (.ns fs)=>if fs.length≤LIM∧fs.lookup name=none then some (.next,ρ,σ.set 1 (.ns (fs++ [(name,v)]))) else none
      | _=>none
    | _=>none
  | none=>none
theorem ss_setattr(L:LexG G C N D mN){o e:Expr}{name:Str}{tpos pos:Pos}{f g:EF}(ho:SE G r cx o f)(hg:SE G r cx e g)(hn:mN name=none)(hB:typeLookup (.type "object") name=pure none)
    (hs:∀env,swapsWith e (some (.Attribute o name tpos)) pos.line env=pure false:=by exact fun _=>rfl):SS G r cx (.Assign [.Attribute o name tpos] e pos) (fSetAttr name f g):=fun A fm μ ρ σ s fl ρ' σ' a O I F hf=>by
  refine oE hf fun v σ₀ e0 hf=>selfE hf fun σ₁ fs e1 e2 hf=>oIf hf fun hc e=>pe3 e (plainObj_wpAny_Assign_Attribute (hg.use a O I F e0 fun yv s₀ μ₀ st₀ I₀ F₀ q₀=>ho.use a O I₀ F₀ e1 fun y s₁ μ₁ st₁ I₁ F₁ q₁=>?_) (hs _))
  rw [show y=_ from q₁]
  refine ns_store L I₁ (fs':=fs++ [(name,v)]) e2 hn hB hc.1 (q₀.step st₁) (fun x=>?_) fun s' st I'=>⟨μ₁,((st₀.trans st₁).trans st).of0,I',F₁.step0 st,rfl⟩
  rw [List.lookup_append]
  by_cases hx:x=name
  · rw [if_pos hx,hx,hc.2]; simp
  · have hb:(x==name)=false:=by simpa using hx
    rw [if_neg hx]
    simp [List.lookup,hb]
end
end Mi
namespace Mi
open MeetsSeq MeetsSeq2 MeetsSeq3 SeqRoads2 SeqAt
end Mi
namespace Mi
open MeetsSeq MeetsSeq2 MeetsSeq3 SeqRoads2 SeqAt
noncomputable def fb(i:Nat):List Stmt:=match PySem.Challenge.pw_pg0165_01.main.body[i]? with
  | some (.FunctionDef _ _ b _ _ _ _ _ _ _)=>b
  | _=> []
noncomputable def cx__siftdown:Cx:=⟨[("heap", .local),("startpos", .local),("pos", .local),("newitem", .local),("parentpos", .local),("parent", .local)], [("heap", .loc),("startpos", .loc),("pos", .loc),("newitem", .loc),("parentpos", .loc),("parent", .loc)]⟩
noncomputable def ZO:SF:=(fSeq (fAsg (fIdx (fVar 0) (fVar 2)) (tVar 3))
  (fSeq (yA (fCmp .Gt (fVar 2) (fVar 1)) (fSeq (fAsg (fBin (opOf .RShift) (fBin (opOf .Sub) (fVar 2) (za (.int 1))) (za (.int 1))) (tVar 4))
  (fSeq (fAsg (fIdx (fVar 0) (fVar 4)) (tVar 5))
  (fSeq (fIfS (fCmp .Lt (fVar 3) (fVar 5)) (fSeq (fSet (fVar 5) (fVar 0) (fVar 2))
  (fSeq (fAsg (fVar 4) (tVar 2))
  (fSeq fCont
  zh))) zh)
  (fSeq fBrk
  zh)))))
  (fSeq (fSet (fVar 3) (fVar 0) (fVar 2))
  zh)))
noncomputable abbrev yJ:=fnG 6 3 ZO
theorem s__siftdown{G:Gd}{r:Nat}(B:Bis G):SSs G r cx__siftdown (fb 3) ZO:=
  (ze (zu (zA (zb (i:=0) (k:= .loc) (by kernel_rfl)) (zb (i:=2) (k:= .loc) (by kernel_rfl))) (zn (i:=3) (k:= .loc) (by kernel_rfl)))
  (ze (ZT (zC (zb (i:=2) (k:= .loc) (by kernel_rfl)) (zb (i:=1) (k:= .loc) (by kernel_rfl))) (ze (zu (zq (zq (zb (i:=2) (k:= .loc) (by kernel_rfl)) zl) zl) (zn (i:=4) (k:= .loc) (by kernel_rfl)))
  (ze (zu (zA (zb (i:=0) (k:= .loc) (by kernel_rfl)) (zb (i:=4) (k:= .loc) (by kernel_rfl))) (zn (i:=5) (k:= .loc) (by kernel_rfl)))
  (ze (yQ (zC (zb (i:=3) (k:= .loc) (by kernel_rfl)) (zb (i:=5) (k:= .loc) (by kernel_rfl))) (ze (ss_set (zb (i:=5) (k:= .loc) (by kernel_rfl)) (zb (i:=0) (k:= .loc) (by kernel_rfl)) (zb (i:=2) (k:= .loc) (by kernel_rfl)))
  (ze (zu (zb (i:=4) (k:= .loc) (by kernel_rfl)) (zn (i:=2) (k:= .loc) (by kernel_rfl)))
  (ze ss_cont
  zi))) zi)
  (ze ss_brk
  zi)))))
  (ze (ss_set (zb (i:=3) (k:= .loc) (by kernel_rfl)) (zb (i:=0) (k:= .loc) (by kernel_rfl)) (zb (i:=2) (k:= .loc) (by kernel_rfl)))
  zi)))
noncomputable def cx_heappush:Cx:=⟨[("heap", .local),("item", .local),("_siftdown", .globalImplicit),("len", .globalImplicit)], [("heap", .loc),("item", .loc)]⟩
noncomputable def f_heappush:SF:=(fSeq (zX (zF (fVar 0) (zc (fVar 1) fNil) zB))
  (fSeq (zX (zy (zc (fVar 0) (zc (za (.int 0)) (zc (fBin (opOf .Sub) (zj (zc (fVar 0) fNil) pLen) (za (.int 1))) fNil))) yJ))
  zh))
noncomputable abbrev yL:=fnG 2 2 f_heappush
theorem s_heappush{G:Gd}{r:Nat}(B:Bis G)(h__siftdown:GFn G r "_siftdown" yJ):SSs G r cx_heappush (fb 1) f_heappush:=
  (ze (yD (yF PySem.F.slot_list_append rfl yp (zb (i:=0) (k:= .loc) (by kernel_rfl)) (zd (zb (i:=1) (k:= .loc) (by kernel_rfl)) zg)))
  (ze (yD (zV B.K (by kernel_rfl) h__siftdown (zd (zb (i:=0) (k:= .loc) (by kernel_rfl)) (zd zl (zd (zq (zr B.K (by kernel_rfl) B.len zK (zd (zb (i:=0) (k:= .loc) (by kernel_rfl)) zg)) zl) zg)))))
  zi))
noncomputable def cx__siftup:Cx:=⟨[("heap", .local),("pos", .local),("endpos", .local),("startpos", .local),("newitem", .local),("childpos", .local),("rightpos", .local),("len", .globalImplicit),("_siftdown", .globalImplicit)], [("heap", .loc),("pos", .loc),("endpos", .loc),("startpos", .loc),("newitem", .loc),("childpos", .loc),("rightpos", .loc)]⟩
noncomputable def f__siftup:SF:=(fSeq (fAsg (zj (zc (fVar 0) fNil) pLen) (tVar 2))
  (fSeq (fAsg (fVar 1) (tVar 3))
  (fSeq (fAsg (fIdx (fVar 0) (fVar 1)) (tVar 4))
  (fSeq (fAsg (fBin (opOf .Add) (fBin (opOf .Mult) (za (.int 2)) (fVar 1)) (za (.int 1))) (tVar 5))
  (fSeq (yA (fCmp .Lt (fVar 5) (fVar 2)) (fSeq (fAsg (fBin (opOf .Add) (fVar 5) (za (.int 1))) (tVar 6))
  (fSeq (fIfS (fAnd (fCmp .Lt (fVar 6) (fVar 2)) (fAnd (fNot (fCmp .Lt (fIdx (fVar 0) (fVar 5)) (fIdx (fVar 0) (fVar 6)))) Zz)) (fSeq (fAsg (fVar 6) (tVar 5))
  zh) zh)
  (fSeq (fSet (fIdx (fVar 0) (fVar 5)) (fVar 0) (fVar 1))
  (fSeq (fAsg (fVar 5) (tVar 1))
  (fSeq (fAsg (fBin (opOf .Add) (fBin (opOf .Mult) (za (.int 2)) (fVar 1)) (za (.int 1))) (tVar 5))
  zh))))))
  (fSeq (fSet (fVar 4) (fVar 0) (fVar 1))
  (fSeq (zX (zy (zc (fVar 0) (zc (fVar 3) (zc (fVar 1) fNil))) yJ))
  zh)))))))
noncomputable abbrev F__siftup:=fnG 7 2 f__siftup
theorem s__siftup{G:Gd}{r:Nat}(B:Bis G)(h__siftdown:GFn G r "_siftdown" yJ):SSs G r cx__siftup (fb 4) f__siftup:=
  (ze (zu (zr B.K (by kernel_rfl) B.len zK (zd (zb (i:=0) (k:= .loc) (by kernel_rfl)) zg)) (zn (i:=2) (k:= .loc) (by kernel_rfl)))
  (ze (zu (zb (i:=1) (k:= .loc) (by kernel_rfl)) (zn (i:=3) (k:= .loc) (by kernel_rfl)))
  (ze (zu (zA (zb (i:=0) (k:= .loc) (by kernel_rfl)) (zb (i:=1) (k:= .loc) (by kernel_rfl))) (zn (i:=4) (k:= .loc) (by kernel_rfl)))
  (ze (zu (zq (zq zl (zb (i:=1) (k:= .loc) (by kernel_rfl))) zl) (zn (i:=5) (k:= .loc) (by kernel_rfl)))
  (ze (ZT (zC (zb (i:=5) (k:= .loc) (by kernel_rfl)) (zb (i:=2) (k:= .loc) (by kernel_rfl))) (ze (zu (zq (zb (i:=5) (k:= .loc) (by kernel_rfl)) zl) (zn (i:=6) (k:= .loc) (by kernel_rfl)))
  (ze (yQ (ZK (zt (zC (zb (i:=6) (k:= .loc) (by kernel_rfl)) (zb (i:=2) (k:= .loc) (by kernel_rfl))) (zt (sb_not (zC (zA (zb (i:=0) (k:= .loc) (by kernel_rfl)) (zb (i:=5) (k:= .loc) (by kernel_rfl))) (zA (zb (i:=0) (k:= .loc) (by kernel_rfl)) (zb (i:=6) (k:= .loc) (by kernel_rfl))))) yn))) (ze (zu (zb (i:=6) (k:= .loc) (by kernel_rfl)) (zn (i:=5) (k:= .loc) (by kernel_rfl)))
  zi) zi)
  (ze (ss_set (zA (zb (i:=0) (k:= .loc) (by kernel_rfl)) (zb (i:=5) (k:= .loc) (by kernel_rfl))) (zb (i:=0) (k:= .loc) (by kernel_rfl)) (zb (i:=1) (k:= .loc) (by kernel_rfl)))
  (ze (zu (zb (i:=5) (k:= .loc) (by kernel_rfl)) (zn (i:=1) (k:= .loc) (by kernel_rfl)))
  (ze (zu (zq (zq zl (zb (i:=1) (k:= .loc) (by kernel_rfl))) zl) (zn (i:=5) (k:= .loc) (by kernel_rfl)))
  zi))))))
  (ze (ss_set (zb (i:=4) (k:= .loc) (by kernel_rfl)) (zb (i:=0) (k:= .loc) (by kernel_rfl)) (zb (i:=1) (k:= .loc) (by kernel_rfl)))
  (ze (yD (zV B.K (by kernel_rfl) h__siftdown (zd (zb (i:=0) (k:= .loc) (by kernel_rfl)) (zd (zb (i:=3) (k:= .loc) (by kernel_rfl)) (zd (zb (i:=1) (k:= .loc) (by kernel_rfl)) zg)))))
  zi)))))))
noncomputable def cx_heappop:Cx:=⟨[("heap", .local),("lastelt", .local),("returnitem", .local),("_siftup", .globalImplicit)], [("heap", .loc),("lastelt", .loc),("returnitem", .loc)]⟩
noncomputable def f_heappop:SF:=(fSeq (fAsg (zF (fVar 0) fNil pPop) (tVar 1))
  (fSeq (fIfS (yr (fVar 0)) (fSeq (fAsg (fIdx (fVar 0) (za (.int 0))) (tVar 2))
  (fSeq (fSet (fVar 1) (fVar 0) (za (.int 0)))
  (fSeq (zX (zy (zc (fVar 0) (zc (za (.int 0)) fNil)) F__siftup))
  (fSeq (fRet (fVar 2))
  zh)))) zh)
  (fSeq (fRet (fVar 1))
  zh)))
noncomputable abbrev ZP:=fnG 3 1 f_heappop
theorem s_heappop{G:Gd}{r:Nat}(B:Bis G)(h__siftup:GFn G r "_siftup" F__siftup):SSs G r cx_heappop (fb 2) f_heappop:=
  (ze (zu (yF PySem.F.slot_list_pop rfl prim_pop (zb (i:=0) (k:= .loc) (by kernel_rfl)) zg) (zn (i:=1) (k:= .loc) (by kernel_rfl)))
  (ze (yQ (sb_val (zb (i:=0) (k:= .loc) (by kernel_rfl))) (ze (zu (zA (zb (i:=0) (k:= .loc) (by kernel_rfl)) zl) (zn (i:=2) (k:= .loc) (by kernel_rfl)))
  (ze (ss_set (zb (i:=1) (k:= .loc) (by kernel_rfl)) (zb (i:=0) (k:= .loc) (by kernel_rfl)) zl)
  (ze (yD (zV B.K (by kernel_rfl) h__siftup (zd (zb (i:=0) (k:= .loc) (by kernel_rfl)) (zd zl zg))))
  (ze (yf (zb (i:=2) (k:= .loc) (by kernel_rfl)))
  zi)))) zi)
  (ze (yf (zb (i:=1) (k:= .loc) (by kernel_rfl)))
  zi)))
end Mi
namespace Mi
open MeetsSeq MeetsSeq2 MeetsSeq3 SeqRoads2 SeqAt
noncomputable def Zw:Cx:=⟨[("ch_a", .local),("ch_b", .local),("_CASE_COST", .globalImplicit),("_MOVE_COST", .globalImplicit)], [("ch_a", .loc),("ch_b", .loc)]⟩
noncomputable def zQ:SF:=(fSeq (fIfS (fCmp .Eq (fVar 0) (fVar 1)) (fSeq (fRet (za (.int 0)))
  zh) zh)
  (fSeq (fIfS (fCmp .Eq (fSMeth (fVar 0) fNil pLower) (fSMeth (fVar 1) fNil pLower)) (fSeq (fRet (za (.int 1)))
  zh) zh)
  (fSeq (fRet (za (.int 2)))
  zh)))
noncomputable abbrev zR:=fnG 2 2 zQ
theorem s__substitution_cost{G:Gd}{r:Nat}(B:Bis G)(hi__CASE_COST:GI G "_CASE_COST" 1) (hi__MOVE_COST:GI G "_MOVE_COST" 2):SSs G r Zw (fb 11) zQ:=
  (ze (yQ (zC (zb (i:=0) (k:= .loc) (by kernel_rfl)) (zb (i:=1) (k:= .loc) (by kernel_rfl))) (ze (yf zl)
  zi) zi)
  (ze (yQ (zC (se_smeth PySem.F.slot_str_lower rfl prim_lower (zb (i:=0) (k:= .loc) (by kernel_rfl)) zg) (se_smeth PySem.F.slot_str_lower rfl prim_lower (zb (i:=1) (k:= .loc) (by kernel_rfl)) zg)) (ze (yf (ZJ B.K (by kernel_rfl) hi__CASE_COST))
  zi) zi)
  (ze (yf (ZJ B.K (by kernel_rfl) hi__MOVE_COST))
  zi)))
noncomputable def yZ:Cx:=⟨[("a", .local),("b", .local),("max_cost", .local),("pre", .local),("post", .local),("row", .local),("result", .local),("bindex", .local),("bchar", .local),("distance", .local),("minimum", .local),("index", .local),("substitute", .local),("insert_delete", .local),("_MOVE_COST", .globalImplicit),("len", .globalImplicit),("_MAX_STRING_SIZE", .globalImplicit),("list", .globalImplicit),("range", .globalImplicit),("_substitution_cost", .globalImplicit),("min", .globalImplicit)], [("a", .loc),("b", .loc),("max_cost", .loc),("pre", .loc),("post", .loc),("row", .loc),("result", .loc),("bindex", .loc),("bchar", .loc),("distance", .loc),("minimum", .loc),("index", .loc),("substitute", .loc),("insert_delete", .loc)]⟩
noncomputable def yb:SF:=(fSeq (fIfS (fCmp .Eq (fVar 0) (fVar 1)) (fSeq (fRet (za (.int 0)))
  zh) zh)
  (fSeq (fAsg (za (.int 0)) (tVar 3))
  (fSeq (yA (fAnd (yr (zx (fVar 0) (fVar 3) (za .none) (za .none))) (fAnd (yr (zx (fVar 1) (fVar 3) (za .none) (za .none))) (fAnd (fCmp .Eq (fIdx (fVar 0) (fVar 3)) (fIdx (fVar 1) (fVar 3))) Zz))) (fSeq (fAug .Add 3 (za (.int 1)))
  zh))
  (fSeq (fAsg (zx (fVar 0) (fVar 3) (za .none) (za .none)) (tVar 0))
  (fSeq (fAsg (zx (fVar 1) (fVar 3) (za .none) (za .none)) (tVar 1))
  (fSeq (fAsg (za (.int 0)) (tVar 4))
  (fSeq (yA (fAnd (yr (zx (fVar 0) (za .none) (fOr2 (fVar 4) (za .none)) (za .none))) (fAnd (yr (zx (fVar 1) (za .none) (fOr2 (fVar 4) (za .none)) (za .none))) (fAnd (fCmp .Eq (fIdx (fVar 0) (fBin (opOf .Sub) (fVar 4) (za (.int 1)))) (fIdx (fVar 1) (fBin (opOf .Sub) (fVar 4) (za (.int 1))))) Zz))) (fSeq (fAug .Sub 4 (za (.int 1)))
  zh))
  (fSeq (fAsg (zx (fVar 0) (za .none) (fOr2 (fVar 4) (za .none)) (za .none)) (tVar 0))
  (fSeq (fAsg (zx (fVar 1) (za .none) (fOr2 (fVar 4) (za .none)) (za .none)) (tVar 1))
  (fSeq (fIfS (fOr (fNot (yr (fVar 0))) (fOr (fNot (yr (fVar 1))) fFalse)) (fSeq (fRet (fBin (opOf .Mult) (za (.int 2)) (fBin (opOf .Add) (zj (zc (fVar 0) fNil) pLen) (zj (zc (fVar 1) fNil) pLen))))
  zh) zh)
  (fSeq (fIfS (fOr (fCmp .Gt (zj (zc (fVar 0) fNil) pLen) (za (.int 40))) (fOr (fCmp .Gt (zj (zc (fVar 1) fNil) pLen) (za (.int 40))) fFalse)) (fSeq (fRet (fBin (opOf .Add) (fVar 2) (za (.int 1))))
  zh) zh)
  (fSeq (fIfS (fCmp .Lt (zj (zc (fVar 1) fNil) pLen) (zj (zc (fVar 0) fNil) pLen)) (fSeq (fSwap 0 1 (fTup (zc (fVar 1) (zc (fVar 0) fNil))))
  zh) zh)
  (fSeq (fIfS (fCmp .Gt (fBin (opOf .Mult) (fBin (opOf .Sub) (zj (zc (fVar 1) fNil) pLen) (zj (zc (fVar 0) fNil) pLen)) (za (.int 2))) (fVar 2)) (fSeq (fRet (fBin (opOf .Add) (fVar 2) (za (.int 1))))
  zh) zh)
  (fSeq (fAsg (Zj (zc (za (.int 2)) (zc (fBin (opOf .Mult) (za (.int 2)) (fBin (opOf .Add) (zj (zc (fVar 0) fNil) pLen) (za (.int 1)))) (zc (za (.int 2)) fNil)))) (tVar 5))
  (fSeq (fAsg (za (.int 0)) (tVar 6))
  (fSeq (fFor (yI (zc (zj (zc (fVar 1) fNil) pLen) fNil)) (tVar 7) (fSeq (fAsg (fIdx (fVar 1) (fVar 7)) (tVar 8))
  (fSeq (fAsg2 (fBin (opOf .Mult) (fVar 7) (za (.int 2))) (tVar 9) (tVar 6))
  (fSeq (fAsg (za (.int 9223372036854775807)) (tVar 10))
  (fSeq (fFor (yI (zc (zj (zc (fVar 0) fNil) pLen) fNil)) (tVar 11) (fSeq (fAsg (fBin (opOf .Add) (fVar 9) (zy (zc (fVar 8) (zc (fIdx (fVar 0) (fVar 11)) fNil)) zR)) (tVar 12))
  (fSeq (fAsg (fIdx (fVar 5) (fVar 11)) (tVar 9))
  (fSeq (fAsg (fBin (opOf .Add) (zj (zc (fVar 6) (zc (fVar 9) fNil)) pMin2) (za (.int 2))) (tVar 13))
  (fSeq (fAsg (zj (zc (fVar 13) (zc (fVar 12) fNil)) pMin2) (tVar 6))
  (fSeq (fSet (fVar 6) (fVar 5) (fVar 11))
  (fSeq (fIfS (fCmp .Lt (fVar 6) (fVar 10)) (fSeq (fAsg (fVar 6) (tVar 10))
  zh) zh)
  zh)))))))
  (fSeq (fIfS (fCmp .Gt (fVar 10) (fVar 2)) (fSeq (fRet (fBin (opOf .Add) (fVar 2) (za (.int 1))))
  zh) zh)
  zh))))))
  (fSeq (fRet (fVar 6))
  zh)))))))))))))))))
noncomputable abbrev zm:=fnG 14 3 yb
theorem s__levenshtein_distance{G:Gd}{r:Nat}(B:Bis G)(h__substitution_cost:GFn G r "_substitution_cost" zR) (hi__MAX_STRING_SIZE:GI G "_MAX_STRING_SIZE" 40) (hi__MOVE_COST:GI G "_MOVE_COST" 2):SSs G r yZ (fb 12) yb:=
  (ze (yQ (zC (zb (i:=0) (k:= .loc) (by kernel_rfl)) (zb (i:=1) (k:= .loc) (by kernel_rfl))) (ze (yf zl)
  zi) zi)
  (ze (zu zl (zn (i:=3) (k:= .loc) (by kernel_rfl)))
  (ze (ZT (ZK (zt (sb_val (ya (zb (i:=0) (k:= .loc) (by kernel_rfl)) (yi (zb (i:=3) (k:= .loc) (by kernel_rfl))) zE zE)) (zt (sb_val (ya (zb (i:=1) (k:= .loc) (by kernel_rfl)) (yi (zb (i:=3) (k:= .loc) (by kernel_rfl))) zE zE)) (zt (zC (zA (zb (i:=0) (k:= .loc) (by kernel_rfl)) (zb (i:=3) (k:= .loc) (by kernel_rfl))) (zA (zb (i:=1) (k:= .loc) (by kernel_rfl)) (zb (i:=3) (k:= .loc) (by kernel_rfl)))) yn)))) (ze (ss_aug (i:=3) (k:= .loc) (by kernel_rfl) zl)
  zi))
  (ze (zu (ya (zb (i:=0) (k:= .loc) (by kernel_rfl)) (yi (zb (i:=3) (k:= .loc) (by kernel_rfl))) zE zE) (zn (i:=0) (k:= .loc) (by kernel_rfl)))
  (ze (zu (ya (zb (i:=1) (k:= .loc) (by kernel_rfl)) (yi (zb (i:=3) (k:= .loc) (by kernel_rfl))) zE zE) (zn (i:=1) (k:= .loc) (by kernel_rfl)))
  (ze (zu zl (zn (i:=4) (k:= .loc) (by kernel_rfl)))
  (ze (ZT (ZK (zt (sb_val (ya (zb (i:=0) (k:= .loc) (by kernel_rfl)) zE (yi (se_or2 (zb (i:=4) (k:= .loc) (by kernel_rfl)) se_none)) zE)) (zt (sb_val (ya (zb (i:=1) (k:= .loc) (by kernel_rfl)) zE (yi (se_or2 (zb (i:=4) (k:= .loc) (by kernel_rfl)) se_none)) zE)) (zt (zC (zA (zb (i:=0) (k:= .loc) (by kernel_rfl)) (zq (zb (i:=4) (k:= .loc) (by kernel_rfl)) zl)) (zA (zb (i:=1) (k:= .loc) (by kernel_rfl)) (zq (zb (i:=4) (k:= .loc) (by kernel_rfl)) zl))) yn)))) (ze (ss_aug (i:=4) (k:= .loc) (by kernel_rfl) zl)
  zi))
  (ze (zu (ya (zb (i:=0) (k:= .loc) (by kernel_rfl)) zE (yi (se_or2 (zb (i:=4) (k:= .loc) (by kernel_rfl)) se_none)) zE) (zn (i:=0) (k:= .loc) (by kernel_rfl)))
  (ze (zu (ya (zb (i:=1) (k:= .loc) (by kernel_rfl)) zE (yi (se_or2 (zb (i:=4) (k:= .loc) (by kernel_rfl)) se_none)) zE) (zn (i:=1) (k:= .loc) (by kernel_rfl)))
  (ze (yQ (ZK (ZU (sb_not (sb_val (zb (i:=0) (k:= .loc) (by kernel_rfl)))) (ZU (sb_not (sb_val (zb (i:=1) (k:= .loc) (by kernel_rfl)))) sall_or_nil))) (ze (yf (zq (ZJ B.K (by kernel_rfl) hi__MOVE_COST) (zq (zr B.K (by kernel_rfl) B.len zK (zd (zb (i:=0) (k:= .loc) (by kernel_rfl)) zg)) (zr B.K (by kernel_rfl) B.len zK (zd (zb (i:=1) (k:= .loc) (by kernel_rfl)) zg)))))
  zi) zi)
  (ze (yQ (ZK (ZU (zC (zr B.K (by kernel_rfl) B.len zK (zd (zb (i:=0) (k:= .loc) (by kernel_rfl)) zg)) (ZJ B.K (by kernel_rfl) hi__MAX_STRING_SIZE)) (ZU (zC (zr B.K (by kernel_rfl) B.len zK (zd (zb (i:=1) (k:= .loc) (by kernel_rfl)) zg)) (ZJ B.K (by kernel_rfl) hi__MAX_STRING_SIZE)) sall_or_nil))) (ze (yf (zq (zb (i:=2) (k:= .loc) (by kernel_rfl)) zl))
  zi) zi)
  (ze (yQ (zC (zr B.K (by kernel_rfl) B.len zK (zd (zb (i:=1) (k:= .loc) (by kernel_rfl)) zg)) (zr B.K (by kernel_rfl) B.len zK (zd (zb (i:=0) (k:= .loc) (by kernel_rfl)) zg))) (ze (ss_swap (i:=0) (j:=1) (by kernel_rfl) (by kernel_rfl) (yy (zd (zb (i:=1) (k:= .loc) (by kernel_rfl)) (zd (zb (i:=0) (k:= .loc) (by kernel_rfl)) zg))))
  zi) zi)
  (ze (yQ (zC (zq (zq (zr B.K (by kernel_rfl) B.len zK (zd (zb (i:=1) (k:= .loc) (by kernel_rfl)) zg)) (zr B.K (by kernel_rfl) B.len zK (zd (zb (i:=0) (k:= .loc) (by kernel_rfl)) zg))) (ZJ B.K (by kernel_rfl) hi__MOVE_COST)) (zb (i:=2) (k:= .loc) (by kernel_rfl))) (ze (yf (zq (zb (i:=2) (k:= .loc) (by kernel_rfl)) zl))
  zi) zi)
  (ze (zu (se_listrange B.K (by kernel_rfl) B.range (by kernel_rfl) B.list (zd (ZJ B.K (by kernel_rfl) hi__MOVE_COST) (zd (zq (ZJ B.K (by kernel_rfl) hi__MOVE_COST) (zq (zr B.K (by kernel_rfl) B.len zK (zd (zb (i:=0) (k:= .loc) (by kernel_rfl)) zg)) zl)) (zd (ZJ B.K (by kernel_rfl) hi__MOVE_COST) zg)))) (zn (i:=5) (k:= .loc) (by kernel_rfl)))
  (ze (zu zl (zn (i:=6) (k:= .loc) (by kernel_rfl)))
  (ze (ss_for (si_range B.K (by kernel_rfl) B.range (zd (zr B.K (by kernel_rfl) B.len zK (zd (zb (i:=1) (k:= .loc) (by kernel_rfl)) zg)) zg)) (zn (i:=7) (k:= .loc) (by kernel_rfl)) (ze (zu (zA (zb (i:=1) (k:= .loc) (by kernel_rfl)) (zb (i:=7) (k:= .loc) (by kernel_rfl))) (zn (i:=8) (k:= .loc) (by kernel_rfl)))
  (ze (ss_asg2 (zq (zb (i:=7) (k:= .loc) (by kernel_rfl)) (ZJ B.K (by kernel_rfl) hi__MOVE_COST)) (zn (i:=9) (k:= .loc) (by kernel_rfl)) (zn (i:=6) (k:= .loc) (by kernel_rfl)))
  (ze (zu zl (zn (i:=10) (k:= .loc) (by kernel_rfl)))
  (ze (ss_for (si_range B.K (by kernel_rfl) B.range (zd (zr B.K (by kernel_rfl) B.len zK (zd (zb (i:=0) (k:= .loc) (by kernel_rfl)) zg)) zg)) (zn (i:=11) (k:= .loc) (by kernel_rfl)) (ze (zu (zq (zb (i:=9) (k:= .loc) (by kernel_rfl)) (zV B.K (by kernel_rfl) h__substitution_cost (zd (zb (i:=8) (k:= .loc) (by kernel_rfl)) (zd (zA (zb (i:=0) (k:= .loc) (by kernel_rfl)) (zb (i:=11) (k:= .loc) (by kernel_rfl))) zg)))) (zn (i:=12) (k:= .loc) (by kernel_rfl)))
  (ze (zu (zA (zb (i:=5) (k:= .loc) (by kernel_rfl)) (zb (i:=11) (k:= .loc) (by kernel_rfl))) (zn (i:=9) (k:= .loc) (by kernel_rfl)))
  (ze (zu (zq (zr B.K (by kernel_rfl) B.min prim_min2 (zd (zb (i:=6) (k:= .loc) (by kernel_rfl)) (zd (zb (i:=9) (k:= .loc) (by kernel_rfl)) zg))) (ZJ B.K (by kernel_rfl) hi__MOVE_COST)) (zn (i:=13) (k:= .loc) (by kernel_rfl)))
  (ze (zu (zr B.K (by kernel_rfl) B.min prim_min2 (zd (zb (i:=13) (k:= .loc) (by kernel_rfl)) (zd (zb (i:=12) (k:= .loc) (by kernel_rfl)) zg))) (zn (i:=6) (k:= .loc) (by kernel_rfl)))
  (ze (ss_set (zb (i:=6) (k:= .loc) (by kernel_rfl)) (zb (i:=5) (k:= .loc) (by kernel_rfl)) (zb (i:=11) (k:= .loc) (by kernel_rfl)))
  (ze (yQ (zC (zb (i:=6) (k:= .loc) (by kernel_rfl)) (zb (i:=10) (k:= .loc) (by kernel_rfl))) (ze (zu (zb (i:=6) (k:= .loc) (by kernel_rfl)) (zn (i:=10) (k:= .loc) (by kernel_rfl)))
  zi) zi)
  zi)))))))
  (ze (yQ (zC (zb (i:=10) (k:= .loc) (by kernel_rfl)) (zb (i:=2) (k:= .loc) (by kernel_rfl))) (ze (yf (zq (zb (i:=2) (k:= .loc) (by kernel_rfl)) zl))
  zi) zi)
  zi))))))
  (ze (yf (zb (i:=6) (k:= .loc) (by kernel_rfl)))
  zi)))))))))))))))))
end Mi
namespace Mi
open MeetsSeq MeetsSeq2 MeetsSeq3 SeqRoads2 SeqAt
noncomputable def cx__law_word:Cx:=⟨[("n", .local),("signs", .local),("second", .local)], [("n", .loc),("signs", .loc),("second", .loc)]⟩
noncomputable def f__law_word:SF:=(fSeq (fAsg (za (.str [97,65,98,32,34,92])) (tVar 1))
  (fSeq (fAsg (fBin (opOf .Mod) (fBin (opOf .FloorDiv) (fVar 0) (za (.int 6))) (za (.int 7))) (tVar 2))
  (fSeq (fRet (fBin (opOf .Add) (fIdx (fVar 1) (fBin (opOf .Mod) (fVar 0) (za (.int 6)))) (zx (fVar 1) (fVar 2) (fBin (opOf .Add) (fVar 2) (za (.int 1))) (za .none))))
  zh)))
noncomputable abbrev ZQ:=fnG 3 1 f__law_word
theorem s__law_word{G:Gd}{r:Nat}(B:Bis G):SSs G r cx__law_word (fb 15) f__law_word:=
  (ze (zu (yz (l:= [97,65,98,32,34,92]) (by kernel_rfl) (okS.of (by decide +kernel))) (zn (i:=1) (k:= .loc) (by kernel_rfl)))
  (ze (zu (zq (zq (zb (i:=0) (k:= .loc) (by kernel_rfl)) zl) zl) (zn (i:=2) (k:= .loc) (by kernel_rfl)))
  (ze (yf (zq (zA (zb (i:=1) (k:= .loc) (by kernel_rfl)) (zq (zb (i:=0) (k:= .loc) (by kernel_rfl)) zl)) (ya (zb (i:=1) (k:= .loc) (by kernel_rfl)) (yi (zb (i:=2) (k:= .loc) (by kernel_rfl))) (yi (zq (zb (i:=2) (k:= .loc) (by kernel_rfl)) zl)) zE)))
  zi)))
noncomputable def cx__law_dressed:Cx:=⟨[("word", .local),("n", .local),("gap", .local)], [("word", .loc),("n", .loc),("gap", .loc)]⟩
noncomputable def cx__law_dressed_1:Cx:=⟨[(".0", .local),("sign", .local)], [("sign", .loc)]⟩
noncomputable def cx__law_dressed_2:Cx:=⟨[(".0", .local),("sign", .local)], [("sign", .loc)]⟩
noncomputable def Zm:SF:=(fSeq (fAsg (fIf (fCmp .Eq (fBin (opOf .Mod) (fBin (opOf .FloorDiv) (fVar 1) (za (.int 84))) (za (.int 2))) (za (.int 0))) (za (.str [32])) (za (.str [9]))) (tVar 2))
  (fSeq (fIfS (fCmp .Eq (fBin (opOf .Mod) (fBin (opOf .FloorDiv) (fVar 1) (za (.int 42))) (za (.int 2))) (za (.int 0))) (fSeq (fRet (fBin (opOf .Add) (fBin (opOf .Add) (fBin (opOf .Add) (za (.str [34])) (fSMeth (za (.str [])) (zc (yh .frz (zI (fVar 0)) [none] (tVar 0) zU (zY (fIf (fCmp .In (fVar 0) (za (.str [34,92]))) (fBin (opOf .Add) (za (.str [92])) (fVar 0)) (fVar 0)))) fNil) pJoin)) (za (.str [34]))) (fVar 2)))
  zh) zh)
  (fSeq (fRet (fBin (opOf .Add) (fSMeth (za (.str [])) (zc (yh .frz (zI (fVar 0)) [none] (tVar 0) zU (zY (fBin (opOf .Add) (za (.str [92])) (fVar 0)))) fNil) pJoin) (fVar 2)))
  zh)))
noncomputable abbrev yU:=fnG 3 2 Zm
theorem s__law_dressed{G:Gd}{r:Nat}(B:Bis G):SSs G r cx__law_dressed (fb 16) Zm:=
  (ze (zu (se_ifexp (zC (zq (zq (zb (i:=1) (k:= .loc) (by kernel_rfl)) zl) zl) zl) (yz (l:= [32]) (by kernel_rfl) (okS.of (by decide +kernel))) (yz (l:= [9]) (by kernel_rfl) (okS.of (by decide +kernel)))) (zn (i:=2) (k:= .loc) (by kernel_rfl)))
  (ze (yQ (zC (zq (zq (zb (i:=1) (k:= .loc) (by kernel_rfl)) zl) zl) zl) (ze (yf (zq (zq (zq (yz (l:= [34]) (by kernel_rfl) (okS.of (by decide +kernel))) (se_smeth PySem.F.slot_str_join rfl prim_join (yz (l:= []) (by kernel_rfl) (okS.of (by decide +kernel))) (zd (Zg .frz B.K (cx':=cx__law_dressed_1) (js:= [none]) ⟨by kernel_rfl,by kernel_rfl,by kernel_rfl,by kernel_rfl,by kernel_rfl,by kernel_rfl,by kernel_rfl⟩ (Ze (zb (i:=0) (k:= .loc) (by kernel_rfl))) (zn (i:=0) (k:= .loc) (by kernel_rfl)) z9 (ym (se_ifexp (zC (zb (i:=0) (k:= .loc) (by kernel_rfl)) (yz (l:= [34,92]) (by kernel_rfl) (okS.of (by decide +kernel)))) (zq (yz (l:= [92]) (by kernel_rfl) (okS.of (by decide +kernel))) (zb (i:=0) (k:= .loc) (by kernel_rfl))) (zb (i:=0) (k:= .loc) (by kernel_rfl))))) zg))) (yz (l:= [34]) (by kernel_rfl) (okS.of (by decide +kernel)))) (zb (i:=2) (k:= .loc) (by kernel_rfl))))
  zi) zi)
  (ze (yf (zq (se_smeth PySem.F.slot_str_join rfl prim_join (yz (l:= []) (by kernel_rfl) (okS.of (by decide +kernel))) (zd (Zg .frz B.K (cx':=cx__law_dressed_2) (js:= [none]) ⟨by kernel_rfl,by kernel_rfl,by kernel_rfl,by kernel_rfl,by kernel_rfl,by kernel_rfl,by kernel_rfl⟩ (Ze (zb (i:=0) (k:= .loc) (by kernel_rfl))) (zn (i:=0) (k:= .loc) (by kernel_rfl)) z9 (ym (zq (yz (l:= [92]) (by kernel_rfl) (okS.of (by decide +kernel))) (zb (i:=0) (k:= .loc) (by kernel_rfl))))) zg)) (zb (i:=2) (k:= .loc) (by kernel_rfl))))
  zi)))
noncomputable def cx__law_leashes:Cx:=⟨[("first", .local),("second", .local),("heap", .local),("seen", .local),("done", .local),("leash", .local),("i", .local),("j", .local),("a", .local),("b", .local),("heappush", .globalImplicit),("_levenshtein_distance", .globalImplicit),("heappop", .globalImplicit),("len", .globalImplicit),("max", .globalImplicit)], [("first", .loc),("second", .loc),("heap", .loc),("seen", .loc),("done", .loc),("leash", .loc),("i", .loc),("j", .loc),("a", .loc),("b", .loc)]⟩
noncomputable def yT:SF:=(fSeq (fAsg (fNew fNil) (tVar 2))
  (fSeq (zX (zy (zc (fVar 2) (zc (fTup (zc (zy (zc (fIdx (fVar 0) (za (.int 0))) (zc (fIdx (fVar 1) (za (.int 0))) (zc (za (.int 4)) fNil))) zm) (zc (za (.int 0)) (zc (za (.int 0)) fNil)))) fNil)) yL))
  (fSeq (fAsg (fNew (zc (fTup (zc (za (.int 0)) (zc (za (.int 0)) fNil))) fNil)) (tVar 3))
  (fSeq (fAsg (fNew fNil) (tVar 4))
  (fSeq (yA (fCmp .NotEq (fVar 2) (fLst fNil)) (fSeq (fAsg (zy (zc (fVar 2) fNil) ZP) (tTup (zL (tVar 5) (zL (tVar 6) (zL (tVar 7) tNil)))))
  (fSeq (zX (zF (fVar 4) (zc (fTup (zc (fVar 5) (zc (fVar 6) (zc (fVar 7) fNil)))) fNil) zB))
  (fSeq (fFor (zI (fLst (zc (fTup (zc (fBin (opOf .Add) (fVar 6) (za (.int 1))) (zc (fVar 7) fNil))) (zc (fTup (zc (fVar 6) (zc (fBin (opOf .Add) (fVar 7) (za (.int 1))) fNil))) (zc (fTup (zc (fBin (opOf .Add) (fVar 6) (za (.int 1))) (zc (fBin (opOf .Add) (fVar 7) (za (.int 1))) fNil))) fNil))))) (tTup (zL (tVar 8) (zL (tVar 9) tNil))) (fSeq (fIfS (fAnd (fCmp .Lt (fVar 8) (zj (zc (fVar 0) fNil) pLen)) (fAnd (fCmp .Lt (fVar 9) (zj (zc (fVar 1) fNil) pLen)) (fAnd (fCmp .NotIn (fTup (zc (fVar 8) (zc (fVar 9) fNil))) (fVar 3)) Zz))) (fSeq (zX (zF (fVar 3) (zc (fTup (zc (fVar 8) (zc (fVar 9) fNil))) fNil) zB))
  (fSeq (zX (zy (zc (fVar 2) (zc (fTup (zc (zj (zc (fVar 5) (zc (zy (zc (fIdx (fVar 0) (fVar 8)) (zc (fIdx (fVar 1) (fVar 9)) (zc (za (.int 4)) fNil))) zm) fNil)) pMax2) (zc (fVar 8) (zc (fVar 9) fNil)))) fNil)) yL))
  zh)) zh)
  zh))
  zh))))
  (fSeq (fRet (fVar 4))
  zh))))))
noncomputable abbrev Zn:=fnG 10 2 yT
theorem s__law_leashes{G:Gd}{r:Nat}(B:Bis G)(h__levenshtein_distance:GFn G r "_levenshtein_distance" zm) (h_heappop:GFn G r "heappop" ZP) (h_heappush:GFn G r "heappush" yL):SSs G r cx__law_leashes (fb 18) yT:=
  (ze (zu (se_new B.K zg) (zn (i:=2) (k:= .loc) (by kernel_rfl)))
  (ze (yD (zV B.K (by kernel_rfl) h_heappush (zd (zb (i:=2) (k:= .loc) (by kernel_rfl)) (zd (yy (zd (zV B.K (by kernel_rfl) h__levenshtein_distance (zd (zA (zb (i:=0) (k:= .loc) (by kernel_rfl)) zl) (zd (zA (zb (i:=1) (k:= .loc) (by kernel_rfl)) zl) (zd zl zg)))) (zd zl (zd zl zg)))) zg))))
  (ze (zu (se_new B.K (zd (yy (zd zl (zd zl zg))) zg)) (zn (i:=3) (k:= .loc) (by kernel_rfl)))
  (ze (zu (se_new B.K zg) (zn (i:=4) (k:= .loc) (by kernel_rfl)))
  (ze (ZT (zC (zb (i:=2) (k:= .loc) (by kernel_rfl)) (se_lst zg)) (ze (zu (zV B.K (by kernel_rfl) h_heappop (zd (zb (i:=2) (k:= .loc) (by kernel_rfl)) zg)) (st_tup (yl (zn (i:=5) (k:= .loc) (by kernel_rfl)) (yl (zn (i:=6) (k:= .loc) (by kernel_rfl)) (yl (zn (i:=7) (k:= .loc) (by kernel_rfl)) sts_nil)))))
  (ze (yD (yF PySem.F.slot_list_append rfl yp (zb (i:=4) (k:= .loc) (by kernel_rfl)) (zd (yy (zd (zb (i:=5) (k:= .loc) (by kernel_rfl)) (zd (zb (i:=6) (k:= .loc) (by kernel_rfl)) (zd (zb (i:=7) (k:= .loc) (by kernel_rfl)) zg)))) zg)))
  (ze (ss_for (Ze (se_lst (zd (yy (zd (zq (zb (i:=6) (k:= .loc) (by kernel_rfl)) zl) (zd (zb (i:=7) (k:= .loc) (by kernel_rfl)) zg))) (zd (yy (zd (zb (i:=6) (k:= .loc) (by kernel_rfl)) (zd (zq (zb (i:=7) (k:= .loc) (by kernel_rfl)) zl) zg))) (zd (yy (zd (zq (zb (i:=6) (k:= .loc) (by kernel_rfl)) zl) (zd (zq (zb (i:=7) (k:= .loc) (by kernel_rfl)) zl) zg))) zg))))) (st_tup (yl (zn (i:=8) (k:= .loc) (by kernel_rfl)) (yl (zn (i:=9) (k:= .loc) (by kernel_rfl)) sts_nil))) (ze (yQ (ZK (zt (zC (zb (i:=8) (k:= .loc) (by kernel_rfl)) (zr B.K (by kernel_rfl) B.len zK (zd (zb (i:=0) (k:= .loc) (by kernel_rfl)) zg))) (zt (zC (zb (i:=9) (k:= .loc) (by kernel_rfl)) (zr B.K (by kernel_rfl) B.len zK (zd (zb (i:=1) (k:= .loc) (by kernel_rfl)) zg))) (zt (zC (yy (zd (zb (i:=8) (k:= .loc) (by kernel_rfl)) (zd (zb (i:=9) (k:= .loc) (by kernel_rfl)) zg))) (zb (i:=3) (k:= .loc) (by kernel_rfl))) yn)))) (ze (yD (yF PySem.F.slot_list_append rfl yp (zb (i:=3) (k:= .loc) (by kernel_rfl)) (zd (yy (zd (zb (i:=8) (k:= .loc) (by kernel_rfl)) (zd (zb (i:=9) (k:= .loc) (by kernel_rfl)) zg))) zg)))
  (ze (yD (zV B.K (by kernel_rfl) h_heappush (zd (zb (i:=2) (k:= .loc) (by kernel_rfl)) (zd (yy (zd (zr B.K (by kernel_rfl) B.max prim_max2 (zd (zb (i:=5) (k:= .loc) (by kernel_rfl)) (zd (zV B.K (by kernel_rfl) h__levenshtein_distance (zd (zA (zb (i:=0) (k:= .loc) (by kernel_rfl)) (zb (i:=8) (k:= .loc) (by kernel_rfl))) (zd (zA (zb (i:=1) (k:= .loc) (by kernel_rfl)) (zb (i:=9) (k:= .loc) (by kernel_rfl))) (zd zl zg)))) zg))) (zd (zb (i:=8) (k:= .loc) (by kernel_rfl)) (zd (zb (i:=9) (k:= .loc) (by kernel_rfl)) zg)))) zg))))
  zi)) zi)
  zi))
  zi))))
  (ze (yf (zb (i:=4) (k:= .loc) (by kernel_rfl)))
  zi))))))
noncomputable def cx__law_sub:Cx:=⟨[("x", .local),("y", .local)], [("x", .loc),("y", .loc)]⟩
noncomputable def f__law_sub:SF:=(fSeq (fRet (fIf (fCmp .Eq (fVar 0) (fVar 1)) (za (.int 0)) (fIf (fCmp .In (fBin (opOf .Add) (fVar 0) (fVar 1)) (fTup (zc (za (.str [97,65])) (zc (za (.str [65,97])) fNil)))) (za (.int 1)) (za (.int 2)))))
  zh)
noncomputable abbrev z0:=fnG 2 2 f__law_sub
theorem s__law_sub{G:Gd}{r:Nat}(B:Bis G):SSs G r cx__law_sub (fb 20) f__law_sub:=
  (ze (yf (se_ifexp (zC (zb (i:=0) (k:= .loc) (by kernel_rfl)) (zb (i:=1) (k:= .loc) (by kernel_rfl))) zl (se_ifexp (zC (zq (zb (i:=0) (k:= .loc) (by kernel_rfl)) (zb (i:=1) (k:= .loc) (by kernel_rfl))) (yy (zd (yz (l:= [97,65]) (by kernel_rfl) (okS.of (by decide +kernel))) (zd (yz (l:= [65,97]) (by kernel_rfl) (okS.of (by decide +kernel))) zg)))) zl zl)))
  zi)
noncomputable def cx__law_price:Cx:=⟨[("u", .local),("v", .cell),("both", .cell),("ways", .local),("len", .globalImplicit),("_law_sub", .globalImplicit),("min", .globalImplicit)], [("u", .loc),("v", .cel),("both", .cel),("ways", .loc)]⟩
noncomputable def cx__law_price_3:Cx:=⟨[(".0", .local),("x", .local),("y", .local),("_law_sub", .globalImplicit),("both", .cell),("v", .cell)], [("x", .loc),("y", .loc),("both", .fre),("v", .fre)]⟩
noncomputable def f__law_price:SF:=(fSeq (fAsg (fBin (opOf .Mult) (za (.int 2)) (fBin (opOf .Add) (zj (zc (fVar 0) fNil) pLen) (zj (zc (fVar 1) fNil) pLen))) (tVar 2))
  (fSeq (fAsg (fCat true (fLst (zc (fVar 2) fNil)) (yh .frz (zI (fVar 0)) [none,none,some 2,some 1] (tVar 0) zU (fNest (zI (fVar 3)) (tVar 1) zU (zY (fBin (opOf .Add) (fBin (opOf .Sub) (fVar 2) (za (.int 4))) (zy (zc (fVar 0) (zc (fVar 1) fNil)) z0)))))) (tVar 3))
  (fSeq (fIfS (fAnd (fCmp .Eq (zj (zc (fVar 0) fNil) pLen) (za (.int 2))) (fAnd (fCmp .Eq (zj (zc (fVar 1) fNil) pLen) (za (.int 2))) Zz)) (fSeq (zX (zF (fVar 3) (zc (fBin (opOf .Add) (zy (zc (fIdx (fVar 0) (za (.int 0))) (zc (fIdx (fVar 1) (za (.int 0))) fNil)) z0) (zy (zc (fIdx (fVar 0) (za (.int 1))) (zc (fIdx (fVar 1) (za (.int 1))) fNil)) z0)) fNil) zB))
  zh) zh)
  (fSeq (fRet (zj (zc (fVar 3) fNil) pMin1))
  zh))))
noncomputable abbrev y3:=fnG 4 2 f__law_price
theorem s__law_price{G:Gd}{r:Nat}(B:Bis G)(h__law_sub:GFn G r "_law_sub" z0):SSs G r cx__law_price (fb 21) f__law_price:=
  (ze (zu (zq zl (zq (zr B.K (by kernel_rfl) B.len zK (zd (zb (i:=0) (k:= .loc) (by kernel_rfl)) zg)) (zr B.K (by kernel_rfl) B.len zK (zd (zb (i:=1) (k:= .cel) (by kernel_rfl)) zg)))) (zn (i:=2) (k:= .cel) (by kernel_rfl)))
  (ze (zu (se_cat true B.K (se_lst (zd (zb (i:=2) (k:= .cel) (by kernel_rfl)) zg)) (Zg .frz B.K (cx':=cx__law_price_3) (js:= [none,none,some 2,some 1]) ⟨by kernel_rfl,by kernel_rfl,by kernel_rfl,by kernel_rfl,by kernel_rfl,by kernel_rfl,by kernel_rfl⟩ (Ze (zb (i:=0) (k:= .loc) (by kernel_rfl))) (zn (i:=0) (k:= .loc) (by kernel_rfl)) z9 (sca_nest (Ze (zb (i:=3) (k:= .fre) (by kernel_rfl))) (zn (i:=1) (k:= .loc) (by kernel_rfl)) z9 (ym (zq (zq (zb (i:=2) (k:= .fre) (by kernel_rfl)) zl) (zV B.K (by kernel_rfl) h__law_sub (zd (zb (i:=0) (k:= .loc) (by kernel_rfl)) (zd (zb (i:=1) (k:= .loc) (by kernel_rfl)) zg)))))))) (zn (i:=3) (k:= .loc) (by kernel_rfl)))
  (ze (yQ (ZK (zt (zC (zr B.K (by kernel_rfl) B.len zK (zd (zb (i:=0) (k:= .loc) (by kernel_rfl)) zg)) zl) (zt (zC (zr B.K (by kernel_rfl) B.len zK (zd (zb (i:=1) (k:= .cel) (by kernel_rfl)) zg)) zl) yn))) (ze (yD (yF PySem.F.slot_list_append rfl yp (zb (i:=3) (k:= .loc) (by kernel_rfl)) (zd (zq (zV B.K (by kernel_rfl) h__law_sub (zd (zA (zb (i:=0) (k:= .loc) (by kernel_rfl)) zl) (zd (zA (zb (i:=1) (k:= .cel) (by kernel_rfl)) zl) zg))) (zV B.K (by kernel_rfl) h__law_sub (zd (zA (zb (i:=0) (k:= .loc) (by kernel_rfl)) zl) (zd (zA (zb (i:=1) (k:= .cel) (by kernel_rfl)) zl) zg)))) zg)))
  zi) zi)
  (ze (yf (zr B.K (by kernel_rfl) B.min prim_min1 (zd (zb (i:=3) (k:= .loc) (by kernel_rfl)) zg)))
  zi))))
noncomputable def cx__law_all_ways:Cx:=⟨[("prices", .cell),("rows", .cell),("columns", .cell),("least", .local),("whole", .local),("begun", .local),("way", .cell),("i", .local),("j", .local),("len", .globalImplicit),("min", .globalImplicit),("max", .globalImplicit)], [("prices", .cel),("rows", .cel),("columns", .cel),("least", .loc),("whole", .loc),("begun", .loc),("way", .cel),("i", .loc),("j", .loc)]⟩
noncomputable def cx__law_all_ways_4:Cx:=⟨[(".0", .local),("row", .local)], [("row", .loc)]⟩
noncomputable def cx__law_all_ways_5:Cx:=⟨[(".0", .local),("price", .local)], [("price", .loc)]⟩
noncomputable def cx__law_all_ways_6:Cx:=⟨[(".0", .local),("a", .local),("b", .local),("prices", .cell)], [("a", .loc),("b", .loc),("prices", .fre)]⟩
noncomputable def cx__law_all_ways_7:Cx:=⟨[(".0", .local),("a", .local),("b", .local),("columns", .cell),("rows", .cell),("way", .cell)], [("a", .loc),("b", .loc),("columns", .fre),("rows", .fre),("way", .fre)]⟩
noncomputable def yH:SF:=(fSeq (fAsg (zj (zc (fVar 0) fNil) pLen) (tVar 1))
  (fSeq (fAsg (zj (zc (fIdx (fVar 0) (za (.int 0))) fNil) pLen) (tVar 2))
  (fSeq (fAsg (yh .new (zI (fVar 0)) [none] (tVar 0) zU (zY (yh .new (zI (fVar 0)) [none] (tVar 0) zU (zY (za (.int 9)))))) (tVar 3))
  (fSeq (fAsg (fNew fNil) (tVar 4))
  (fSeq (fAsg (fNew (zc (fLst (zc (fTup (zc (za (.int 0)) (zc (za (.int 0)) fNil))) fNil)) fNil)) (tVar 5))
  (fSeq (yA (fCmp .NotEq (fVar 5) (fLst fNil)) (fSeq (fAsg (zF (fVar 5) fNil pPop) (tVar 6))
  (fSeq (fAsg (fIdx (fVar 6) (fNeg (za (.int 1)))) (tTup (zL (tVar 7) (zL (tVar 8) tNil))))
  (fSeq (fSet (zj (zc (fIdx (fIdx (fVar 3) (fVar 7)) (fVar 8)) (zc (zj (zc (yh .frz (zI (fVar 6)) [none,none,some 0] (tTup (zL (tVar 0) (zL (tVar 1) tNil))) zU (zY (fIdx (fIdx (fVar 2) (fVar 0)) (fVar 1)))) fNil) pMax1) fNil)) pMin2) (fIdx (fVar 3) (fVar 7)) (fVar 8))
  (fSeq (fIfS (fAnd (fCmp .Eq (fVar 7) (fBin (opOf .Sub) (fVar 1) (za (.int 1)))) (fAnd (fCmp .Eq (fVar 8) (fBin (opOf .Sub) (fVar 2) (za (.int 1)))) Zz)) (fSeq (zX (zF (fVar 4) (zc (fVar 6) fNil) zB))
  zh) zh)
  (fSeq (zX (zF (fVar 5) (zc (yh .frz (zI (fLst (zc (fTup (zc (fBin (opOf .Add) (fVar 7) (za (.int 1))) (zc (fVar 8) fNil))) (zc (fTup (zc (fVar 7) (zc (fBin (opOf .Add) (fVar 8) (za (.int 1))) fNil))) (zc (fTup (zc (fBin (opOf .Add) (fVar 7) (za (.int 1))) (zc (fBin (opOf .Add) (fVar 8) (za (.int 1))) fNil))) fNil))))) [none,none,some 2,some 1,some 6] (tTup (zL (tVar 0) (zL (tVar 1) tNil))) (fIf1 (fAnd (fCmp .Lt (fVar 0) (fVar 3)) (fAnd (fCmp .Lt (fVar 1) (fVar 2)) Zz)) zU) (zY (fBin (opOf .Add) (fVar 4) (fLst (zc (fTup (zc (fVar 0) (zc (fVar 1) fNil))) fNil))))) fNil) pExtend))
  zh))))))
  (fSeq (fRet (fTup (zc (fVar 3) (zc (fVar 4) fNil))))
  zh)))))))
noncomputable abbrev Zc:=fnG 9 1 yH
theorem s__law_all_ways{G:Gd}{r:Nat}(B:Bis G):SSs G r cx__law_all_ways (fb 22) yH:=
  (ze (zu (zr B.K (by kernel_rfl) B.len zK (zd (zb (i:=0) (k:= .cel) (by kernel_rfl)) zg)) (zn (i:=1) (k:= .cel) (by kernel_rfl)))
  (ze (zu (zr B.K (by kernel_rfl) B.len zK (zd (zA (zb (i:=0) (k:= .cel) (by kernel_rfl)) zl) zg)) (zn (i:=2) (k:= .cel) (by kernel_rfl)))
  (ze (ss_asg_loc .new B.K (i:=3) (cx':=cx__law_all_ways_4) (js:= [none]) (by kernel_rfl) ⟨by kernel_rfl,by kernel_rfl,by kernel_rfl,by kernel_rfl,by kernel_rfl,by kernel_rfl,by kernel_rfl⟩ (Ze (zb (i:=0) (k:= .cel) (by kernel_rfl))) (zn (i:=0) (k:= .loc) (by kernel_rfl)) z9 (ym (Zg .new B.K (cx':=cx__law_all_ways_5) (js:= [none]) ⟨by kernel_rfl,by kernel_rfl,by kernel_rfl,by kernel_rfl,by kernel_rfl,by kernel_rfl,by kernel_rfl⟩ (Ze (zb (i:=0) (k:= .loc) (by kernel_rfl))) (zn (i:=0) (k:= .loc) (by kernel_rfl)) z9 (ym zl))))
  (ze (zu (se_new B.K zg) (zn (i:=4) (k:= .loc) (by kernel_rfl)))
  (ze (zu (se_new B.K (zd (se_lst (zd (yy (zd zl (zd zl zg))) zg)) zg)) (zn (i:=5) (k:= .loc) (by kernel_rfl)))
  (ze (ZT (zC (zb (i:=5) (k:= .loc) (by kernel_rfl)) (se_lst zg)) (ze (zu (yF PySem.F.slot_list_pop rfl prim_pop (zb (i:=5) (k:= .loc) (by kernel_rfl)) zg) (zn (i:=6) (k:= .cel) (by kernel_rfl)))
  (ze (zu (zA (zb (i:=6) (k:= .cel) (by kernel_rfl)) (se_neg zl)) (st_tup (yl (zn (i:=7) (k:= .loc) (by kernel_rfl)) (yl (zn (i:=8) (k:= .loc) (by kernel_rfl)) sts_nil))))
  (ze (ss_set (zr B.K (by kernel_rfl) B.min prim_min2 (zd (zA (zA (zb (i:=3) (k:= .loc) (by kernel_rfl)) (zb (i:=7) (k:= .loc) (by kernel_rfl))) (zb (i:=8) (k:= .loc) (by kernel_rfl))) (zd (zr B.K (by kernel_rfl) B.max prim_max1 (zd (Zg .frz B.K (cx':=cx__law_all_ways_6) (js:= [none,none,some 0]) ⟨by kernel_rfl,by kernel_rfl,by kernel_rfl,by kernel_rfl,by kernel_rfl,by kernel_rfl,by kernel_rfl⟩ (Ze (zb (i:=6) (k:= .cel) (by kernel_rfl))) (st_tup (yl (zn (i:=0) (k:= .loc) (by kernel_rfl)) (yl (zn (i:=1) (k:= .loc) (by kernel_rfl)) sts_nil))) z9 (ym (zA (zA (zb (i:=2) (k:= .fre) (by kernel_rfl)) (zb (i:=0) (k:= .loc) (by kernel_rfl))) (zb (i:=1) (k:= .loc) (by kernel_rfl))))) zg)) zg))) (zA (zb (i:=3) (k:= .loc) (by kernel_rfl)) (zb (i:=7) (k:= .loc) (by kernel_rfl))) (zb (i:=8) (k:= .loc) (by kernel_rfl)))
  (ze (yQ (ZK (zt (zC (zb (i:=7) (k:= .loc) (by kernel_rfl)) (zq (zb (i:=1) (k:= .cel) (by kernel_rfl)) zl)) (zt (zC (zb (i:=8) (k:= .loc) (by kernel_rfl)) (zq (zb (i:=2) (k:= .cel) (by kernel_rfl)) zl)) yn))) (ze (yD (yF PySem.F.slot_list_append rfl yp (zb (i:=4) (k:= .loc) (by kernel_rfl)) (zd (zb (i:=6) (k:= .cel) (by kernel_rfl)) zg)))
  zi) zi)
  (ze (yD (yF PySem.F.slot_list_extend rfl prim_extend (zb (i:=5) (k:= .loc) (by kernel_rfl)) (zd (Zg .frz B.K (cx':=cx__law_all_ways_7) (js:= [none,none,some 2,some 1,some 6]) ⟨by kernel_rfl,by kernel_rfl,by kernel_rfl,by kernel_rfl,by kernel_rfl,by kernel_rfl,by kernel_rfl⟩ (Ze (se_lst (zd (yy (zd (zq (zb (i:=7) (k:= .loc) (by kernel_rfl)) zl) (zd (zb (i:=8) (k:= .loc) (by kernel_rfl)) zg))) (zd (yy (zd (zb (i:=7) (k:= .loc) (by kernel_rfl)) (zd (zq (zb (i:=8) (k:= .loc) (by kernel_rfl)) zl) zg))) (zd (yy (zd (zq (zb (i:=7) (k:= .loc) (by kernel_rfl)) zl) (zd (zq (zb (i:=8) (k:= .loc) (by kernel_rfl)) zl) zg))) zg))))) (st_tup (yl (zn (i:=0) (k:= .loc) (by kernel_rfl)) (yl (zn (i:=1) (k:= .loc) (by kernel_rfl)) sts_nil))) (sifs_cons (ZK (zt (zC (zb (i:=0) (k:= .loc) (by kernel_rfl)) (zb (i:=3) (k:= .fre) (by kernel_rfl))) (zt (zC (zb (i:=1) (k:= .loc) (by kernel_rfl)) (zb (i:=2) (k:= .fre) (by kernel_rfl))) yn))) z9) (ym (zq (zb (i:=4) (k:= .fre) (by kernel_rfl)) (se_lst (zd (yy (zd (zb (i:=0) (k:= .loc) (by kernel_rfl)) (zd (zb (i:=1) (k:= .loc) (by kernel_rfl)) zg))) zg))))) zg)))
  zi))))))
  (ze (yf (yy (zd (zb (i:=3) (k:= .loc) (by kernel_rfl)) (zd (zb (i:=4) (k:= .loc) (by kernel_rfl)) zg))))
  zi)))))))
noncomputable def cx__law_free:Cx:=⟨[("whole", .local),("prices", .local),("rope", .local),("free", .local),("way", .local),("far", .local),("i", .local),("j", .local),("reversed", .globalImplicit),("max", .globalImplicit),("sorted", .globalImplicit)], [("whole", .loc),("prices", .loc),("rope", .loc),("free", .loc),("way", .loc),("far", .loc),("i", .loc),("j", .loc)]⟩
noncomputable def f__law_free:SF:=(fSeq (fAsg (fNew fNil) (tVar 3))
  (fSeq (fFor (zI (fVar 0)) (tVar 4) (fSeq (fAsg (za (.int 0)) (tVar 5))
  (fSeq (fFor (fRev (fVar 4)) (tTup (zL (tVar 6) (zL (tVar 7) tNil))) (fSeq (fAsg (zj (zc (fVar 5) (zc (fIdx (fIdx (fVar 1) (fVar 6)) (fVar 7)) fNil)) pMax2) (tVar 5))
  (fSeq (fIfS (fAnd (fCmp .LtE (fVar 5) (fVar 2)) (fAnd (fCmp .NotIn (fTup (zc (fVar 6) (zc (fVar 7) fNil))) (fVar 3)) Zz)) (fSeq (zX (zF (fVar 3) (zc (fTup (zc (fVar 6) (zc (fVar 7) fNil))) fNil) zB))
  zh) zh)
  zh)))
  zh)))
  (fSeq (fRet (zj (zc (fVar 3) fNil) yN))
  zh)))
noncomputable abbrev F__law_free:=fnG 8 3 f__law_free
theorem s__law_free{G:Gd}{r:Nat}(B:Bis G):SSs G r cx__law_free (fb 23) f__law_free:=
  (ze (zu (se_new B.K zg) (zn (i:=3) (k:= .loc) (by kernel_rfl)))
  (ze (ss_for (Ze (zb (i:=0) (k:= .loc) (by kernel_rfl))) (zn (i:=4) (k:= .loc) (by kernel_rfl)) (ze (zu zl (zn (i:=5) (k:= .loc) (by kernel_rfl)))
  (ze (ss_for (si_rev B.K (by kernel_rfl) B.reversed (zb (i:=4) (k:= .loc) (by kernel_rfl))) (st_tup (yl (zn (i:=6) (k:= .loc) (by kernel_rfl)) (yl (zn (i:=7) (k:= .loc) (by kernel_rfl)) sts_nil))) (ze (zu (zr B.K (by kernel_rfl) B.max prim_max2 (zd (zb (i:=5) (k:= .loc) (by kernel_rfl)) (zd (zA (zA (zb (i:=1) (k:= .loc) (by kernel_rfl)) (zb (i:=6) (k:= .loc) (by kernel_rfl))) (zb (i:=7) (k:= .loc) (by kernel_rfl))) zg))) (zn (i:=5) (k:= .loc) (by kernel_rfl)))
  (ze (yQ (ZK (zt (zC (zb (i:=5) (k:= .loc) (by kernel_rfl)) (zb (i:=2) (k:= .loc) (by kernel_rfl))) (zt (zC (yy (zd (zb (i:=6) (k:= .loc) (by kernel_rfl)) (zd (zb (i:=7) (k:= .loc) (by kernel_rfl)) zg))) (zb (i:=3) (k:= .loc) (by kernel_rfl))) yn))) (ze (yD (yF PySem.F.slot_list_append rfl yp (zb (i:=3) (k:= .loc) (by kernel_rfl)) (zd (yy (zd (zb (i:=6) (k:= .loc) (by kernel_rfl)) (zd (zb (i:=7) (k:= .loc) (by kernel_rfl)) zg))) zg)))
  zi) zi)
  zi)))
  zi)))
  (ze (yf (zr B.K (by kernel_rfl) B.sorted ZL (zd (zb (i:=3) (k:= .loc) (by kernel_rfl)) zg)))
  zi)))
end Mi
namespace Mi
open MeetsSeq MeetsSeq2 MeetsSeq3 SeqRoads2 SeqAt
noncomputable def fbOf:Stmt→List Stmt
  | .FunctionDef _ _ b _ _ _ _ _ _ _=>b
  | _=> []
noncomputable def mb(i:Nat):List Stmt:=match PySem.Challenge.pw_pg0165_01.main.body[(6:Nat)]? with
  | some (.ClassDef _ _ _ b _ _ _ _ _ _ _)=>(b[i]?).elim [] fbOf
  | _=> []
noncomputable def rb(i:Nat):List Stmt:=((fb 14)[i]?).elim [] fbOf
noncomputable def yg:Cx:=⟨[("size", .local),("sign", .local),("at", .free),("text", .free),("len", .globalImplicit)], [("size", .loc),("sign", .loc),("at", .fre),("text", .fre)]⟩
noncomputable def f_read:SF:=(fSeq (fAsg (zx (fVar 3) (fIdx (fVar 2) (za (.int 0))) (fBin (opOf .Add) (fIdx (fVar 2) (za (.int 0))) (fVar 0)) (za .none)) (tVar 1))
  (fSeq (fSet (fBin (opOf .Add) (fIdx (fVar 2) (za (.int 0))) (zj (zc (fVar 1) fNil) pLen)) (fVar 2) (za (.int 0)))
  (fSeq (fRet (fVar 1))
  zh)))
noncomputable abbrev F_read(text:List Nat):List V→List AObj→Option (V × List AObj):=fun vs σ=>if vs.length=1 then fnFC [.undef, .loc 2, .str text] f_read vs σ else none
theorem s_read{G:Gd}{r:Nat}(B:Bis G):SSs G r yg (rb 1) f_read:=
  (ze (zu (ya (zb (i:=3) (k:= .fre) (by kernel_rfl)) (yi (zA (zb (i:=2) (k:= .fre) (by kernel_rfl)) zl)) (yi (zq (zA (zb (i:=2) (k:= .fre) (by kernel_rfl)) zl) (zb (i:=0) (k:= .loc) (by kernel_rfl)))) zE) (zn (i:=1) (k:= .loc) (by kernel_rfl)))
  (ze (ss_set (zq (zA (zb (i:=2) (k:= .fre) (by kernel_rfl)) zl) (zr B.K (by kernel_rfl) B.len zK (zd (zb (i:=1) (k:= .loc) (by kernel_rfl)) zg))) (zb (i:=2) (k:= .fre) (by kernel_rfl)) zl)
  (ze (yf (zb (i:=1) (k:= .loc) (by kernel_rfl)))
  zi)))
noncomputable def cx__read_char:Cx:=⟨[("self", .local),("ch", .local)], [("self", .loc),("ch", .loc)]⟩
noncomputable def ye(text:List Nat):SF:=(fSeq (fAsg (fFMeth (yO (fVar 0) "instream") (zc (za (.int 1)) fNil) (F_read text)) (tVar 1))
  (fSeq (fIfS (fCmp .Eq (fVar 1) (za (.str [10]))) (fSeq (fAugAttr "lineno" (fVar 0) 1)
  zh) zh)
  (fSeq (fRet (fVar 1))
  zh)))
noncomputable abbrev zo(text:List Nat):=fnG 2 1 (ye text)
theorem s__read_char{G:Gd}{r:Nat}{text:List Nat}(B:Bis G){C N D:Addr}{mN:Str→Option Value}(X:LX G C N D mN){rf:Addr}(hs_read:StrG G "read" rf) (h_read:Z1 G r (.ref rf) (F_read text)):SSs G r cx__read_char (mb 1) (ye text):=
  (ze (zu (se_fmeth hs_read h_read fn_read (se_attr X.L (zb (i:=0) (k:= .loc) (by kernel_rfl)) X.instream ol_instream) (zd zl zg)) (zn (i:=1) (k:= .loc) (by kernel_rfl)))
  (ze (yQ (zC (zb (i:=1) (k:= .loc) (by kernel_rfl)) (yz (l:= [10]) (by kernel_rfl) (okS.of (by decide +kernel)))) (ze (ss_augattr X.L (zb (i:=0) (k:= .loc) (by kernel_rfl)) X.lineno ol_lineno)
  zi) zi)
  (ze (yf (zb (i:=1) (k:= .loc) (by kernel_rfl)))
  zi)))
noncomputable def cx_push_token:Cx:=⟨[("self", .local),("token", .local)], [("self", .loc),("token", .loc)]⟩
noncomputable def Zt:SF:=(fSeq (zX (zF (yO (fVar 0) "pushback") (zc (fVar 1) fNil) zB))
  zh)
noncomputable abbrev yB:=fnG 2 2 Zt
theorem s_push_token{G:Gd}{r:Nat}(B:Bis G){C N D:Addr}{mN:Str→Option Value}(X:LX G C N D mN):SSs G r cx_push_token (mb 3) Zt:=
  (ze (yD (yF PySem.F.slot_list_append rfl yp (se_attr X.L (zb (i:=0) (k:= .loc) (by kernel_rfl)) X.pushback ol_pushback) (zd (zb (i:=1) (k:= .loc) (by kernel_rfl)) zg)))
  zi)
noncomputable def cx_get_token:Cx:=⟨[("self", .local),("token", .local),("fiter", .local),("ch", .local),("iter", .globalImplicit)], [("self", .loc),("token", .loc),("fiter", .loc),("ch", .loc)]⟩
noncomputable def z4(text:List Nat):SF:=(fSeq (fIfS (yr (yO (fVar 0) "pushback")) (fSeq (fRet (zF (yO (fVar 0) "pushback") (zc (za (.int 0)) fNil) pPop))
  zh) zh)
  (fSeq (fAsg (za (.str [])) (tVar 1))
  (fSeq (fAsg (fIterC "_read_char" (fVar 0)) (tVar 2))
  (fSeq (fForC (zo text) (fVar 2) (tVar 3) (fSeq (fIfS (fCmp .In (fVar 3) (yO (fVar 0) "whitespace")) (fSeq fCont
  zh) zh)
  (fSeq (fIfS (fCmp .Eq (fVar 3) (za (.str [34]))) (fSeq (fForC (zo text) (fVar 2) (tVar 3) (fSeq (fIfS (fCmp .Eq (fVar 3) (za (.str [34]))) (fSeq (fRet (fVar 1))
  zh) (fSeq (fIfS (fCmp .Eq (fVar 3) (za (.str [92]))) (fSeq (fAsg (z7 "_read_char" (fVar 0) fNil (zo text)) (tVar 3))
  zh) zh)
  zh))
  (fSeq (fAug .Add 1 (fVar 3))
  zh)))
  zh) (fSeq (fIfS (fCmp .Eq (fVar 3) (za (.str [92]))) (fSeq (fAsg (z7 "_read_char" (fVar 0) fNil (zo text)) (tVar 3))
  zh) zh)
  (fSeq (fAug .Add 1 (fVar 3))
  (fSeq (fForC (zo text) (fVar 2) (tVar 3) (fSeq (fIfS (fCmp .In (fVar 3) (yO (fVar 0) "whitespace")) (fSeq (fRet (fVar 1))
  zh) (fSeq (fIfS (fCmp .Eq (fVar 3) (za (.str [92]))) (fSeq (fAsg (z7 "_read_char" (fVar 0) fNil (zo text)) (tVar 3))
  zh) zh)
  zh))
  (fSeq (fAug .Add 1 (fVar 3))
  zh)))
  zh))))
  zh)))
  (fSeq (fRet (fVar 1))
  zh)))))
noncomputable abbrev zp(text:List Nat):=fnG 4 1 (z4 text)
theorem s_get_token{G:Gd}{r:Nat}{text:List Nat}(B:Bis G){C N D:Addr}{mN:Str→Option Value}(X:LX G C N D mN){fr__read_char:Addr}(hb__read_char:BndOk G mN "_read_char" fr__read_char) (hc__read_char:Z1 G r (.ref fr__read_char) (zo text)) (hm__read_char:MFn G (r+1) mN "_read_char" (zo text)):SSs G (r+1) cx_get_token (mb 2) (z4 text):=
  (ze (yQ (sb_val (se_attr X.L (zb (i:=0) (k:= .loc) (by kernel_rfl)) X.pushback ol_pushback)) (ze (yf (yF PySem.F.slot_list_pop rfl prim_pop (se_attr X.L (zb (i:=0) (k:= .loc) (by kernel_rfl)) X.pushback ol_pushback) (zd zl zg)))
  zi) zi)
  (ze (zu (yz (l:= []) (by kernel_rfl) (okS.of (by decide +kernel))) (zn (i:=1) (k:= .loc) (by kernel_rfl)))
  (ze (zu (se_iterc B.K X.L hb__read_char (by kernel_rfl) X.iter ZX (by decide +kernel) (zb (i:=0) (k:= .loc) (by kernel_rfl)) (by kernel_rfl)) (zn (i:=2) (k:= .loc) (by kernel_rfl)))
  (ze (ss_forc hb__read_char hc__read_char (zb (i:=2) (k:= .loc) (by kernel_rfl)) (zn (i:=3) (k:= .loc) (by kernel_rfl)) (ze (yQ (zC (zb (i:=3) (k:= .loc) (by kernel_rfl)) (se_attr X.L (zb (i:=0) (k:= .loc) (by kernel_rfl)) X.whitespace ol_whitespace)) (ze ss_cont
  zi) zi)
  (ze (yQ (zC (zb (i:=3) (k:= .loc) (by kernel_rfl)) (yz (l:= [34]) (by kernel_rfl) (okS.of (by decide +kernel)))) (ze (ss_forc hb__read_char hc__read_char (zb (i:=2) (k:= .loc) (by kernel_rfl)) (zn (i:=3) (k:= .loc) (by kernel_rfl)) (ze (yQ (zC (zb (i:=3) (k:= .loc) (by kernel_rfl)) (yz (l:= [34]) (by kernel_rfl) (okS.of (by decide +kernel)))) (ze (yf (zb (i:=1) (k:= .loc) (by kernel_rfl)))
  zi) (ze (yQ (zC (zb (i:=3) (k:= .loc) (by kernel_rfl)) (yz (l:= [92]) (by kernel_rfl) (okS.of (by decide +kernel)))) (ze (zu (Zk X.L hm__read_char ZX (zb (i:=0) (k:= .loc) (by kernel_rfl)) zg) (zn (i:=3) (k:= .loc) (by kernel_rfl)))
  zi) zi)
  zi))
  (ze (ss_aug (i:=1) (k:= .loc) (by kernel_rfl) (zb (i:=3) (k:= .loc) (by kernel_rfl)))
  zi)))
  zi) (ze (yQ (zC (zb (i:=3) (k:= .loc) (by kernel_rfl)) (yz (l:= [92]) (by kernel_rfl) (okS.of (by decide +kernel)))) (ze (zu (Zk X.L hm__read_char ZX (zb (i:=0) (k:= .loc) (by kernel_rfl)) zg) (zn (i:=3) (k:= .loc) (by kernel_rfl)))
  zi) zi)
  (ze (ss_aug (i:=1) (k:= .loc) (by kernel_rfl) (zb (i:=3) (k:= .loc) (by kernel_rfl)))
  (ze (ss_forc hb__read_char hc__read_char (zb (i:=2) (k:= .loc) (by kernel_rfl)) (zn (i:=3) (k:= .loc) (by kernel_rfl)) (ze (yQ (zC (zb (i:=3) (k:= .loc) (by kernel_rfl)) (se_attr X.L (zb (i:=0) (k:= .loc) (by kernel_rfl)) X.whitespace ol_whitespace)) (ze (yf (zb (i:=1) (k:= .loc) (by kernel_rfl)))
  zi) (ze (yQ (zC (zb (i:=3) (k:= .loc) (by kernel_rfl)) (yz (l:= [92]) (by kernel_rfl) (okS.of (by decide +kernel)))) (ze (zu (Zk X.L hm__read_char ZX (zb (i:=0) (k:= .loc) (by kernel_rfl)) zg) (zn (i:=3) (k:= .loc) (by kernel_rfl)))
  zi) zi)
  zi))
  (ze (ss_aug (i:=1) (k:= .loc) (by kernel_rfl) (zb (i:=3) (k:= .loc) (by kernel_rfl)))
  zi)))
  zi))))
  zi)))
  (ze (yf (zb (i:=1) (k:= .loc) (by kernel_rfl)))
  zi)))))
end Mi
namespace Mi
open MeetsSeq MeetsSeq2 MeetsSeq3 SeqRoads2 SeqAt
noncomputable def cx__law_read:Cx:=⟨[("line", .local),("ways", .local),("token", .local)], [("line", .loc),("ways", .loc),("token", .loc)]⟩
noncomputable def Zi(text:List Nat):SF:=(fSeq (fAsg (fLst (zc (fNew fNil) (zc (fNew fNil) fNil))) (tVar 1))
  (fSeq (fAsg (z7 "get_token" (fVar 0) fNil (zp text)) (tVar 2))
  (fSeq (yA (fCmp .NotEq (fVar 2) (za (.str []))) (fSeq (zX (zF (fIdx (fVar 1) (fBin (opOf .Sub) (yO (fVar 0) "lineno") (za (.int 1)))) (zc (fVar 2) fNil) zB))
  (fSeq (fAsg (z7 "get_token" (fVar 0) fNil (zp text)) (tVar 2))
  zh)))
  (fSeq (fRet (fVar 1))
  zh))))
noncomputable abbrev F__law_read(text:List Nat):=fnG 3 1 (Zi text)
theorem s__law_read{G:Gd}{r:Nat}{text:List Nat}(B:Bis G){C N D:Addr}{mN:Str→Option Value}(X:LX G C N D mN)(hm_get_token:MFn G r mN "get_token" (zp text)):SSs G r cx__law_read (fb 17) (Zi text):=
  (ze (zu (se_lst (zd (se_new B.K zg) (zd (se_new B.K zg) zg))) (zn (i:=1) (k:= .loc) (by kernel_rfl)))
  (ze (zu (Zk X.L hm_get_token Zq (zb (i:=0) (k:= .loc) (by kernel_rfl)) zg) (zn (i:=2) (k:= .loc) (by kernel_rfl)))
  (ze (ZT (zC (zb (i:=2) (k:= .loc) (by kernel_rfl)) (yz (l:= []) (by kernel_rfl) (okS.of (by decide +kernel)))) (ze (yD (yF PySem.F.slot_list_append rfl yp (zA (zb (i:=1) (k:= .loc) (by kernel_rfl)) (zq (se_attr X.L (zb (i:=0) (k:= .loc) (by kernel_rfl)) X.lineno ol_lineno) zl)) (zd (zb (i:=2) (k:= .loc) (by kernel_rfl)) zg)))
  (ze (zu (Zk X.L hm_get_token Zq (zb (i:=0) (k:= .loc) (by kernel_rfl)) zg) (zn (i:=2) (k:= .loc) (by kernel_rfl)))
  zi)))
  (ze (yf (zb (i:=1) (k:= .loc) (by kernel_rfl)))
  zi))))
noncomputable def cx__law_roped:Cx:=⟨[("line", .local),("first", .local),("second", .local),("rope", .local),("seen", .local),("near", .local),("token", .local),("i", .local),("j", .local),("a", .local),("b", .local),("str", .globalImplicit),("len", .globalImplicit),("int", .globalImplicit),("_levenshtein_distance", .globalImplicit),("sorted", .globalImplicit)], [("line", .loc),("first", .loc),("second", .loc),("rope", .loc),("seen", .loc),("near", .loc),("token", .loc),("i", .loc),("j", .loc),("a", .loc),("b", .loc)]⟩
noncomputable def f__law_roped(text:List Nat):SF:=(fSeq (fAsg (fNew fNil) (tVar 4))
  (fSeq (fAsg (fNew fNil) (tVar 5))
  (fSeq (zX (z7 "push_token" (fVar 0) (zc (fBin (opOf .Add) (zj (zc (fBin (opOf .Sub) (zj (zc (fVar 1) fNil) pLen) (za (.int 1))) fNil) pStr) (zj (zc (fBin (opOf .Sub) (zj (zc (fVar 2) fNil) pLen) (za (.int 1))) fNil) pStr)) fNil) yB))
  (fSeq (fAsg (z7 "get_token" (fVar 0) fNil (zp text)) (tVar 6))
  (fSeq (yA (fCmp .NotEq (fVar 6) (za (.str []))) (fSeq (fAsg (zj (zc (fIdx (fVar 6) (za (.int 0))) fNil) pInt) (tVar 7))
  (fSeq (fAsg (zj (zc (fIdx (fVar 6) (za (.int 1))) fNil) pInt) (tVar 8))
  (fSeq (fIfS (fCmp .NotIn (fVar 6) (fVar 4)) (fSeq (zX (zF (fVar 4) (zc (fVar 6) fNil) zB))
  (fSeq (fIfS (fCmp .LtE (zy (zc (fIdx (fVar 1) (fVar 7)) (zc (fIdx (fVar 2) (fVar 8)) (zc (fVar 3) fNil))) zm) (fVar 3)) (fSeq (zX (zF (fVar 5) (zc (fTup (zc (fVar 7) (zc (fVar 8) fNil))) fNil) zB))
  (fSeq (fFor (zI (fLst (zc (fTup (zc (fBin (opOf .Sub) (fVar 7) (za (.int 1))) (zc (fVar 8) fNil))) (zc (fTup (zc (fVar 7) (zc (fBin (opOf .Sub) (fVar 8) (za (.int 1))) fNil))) (zc (fTup (zc (fBin (opOf .Sub) (fVar 7) (za (.int 1))) (zc (fBin (opOf .Sub) (fVar 8) (za (.int 1))) fNil))) fNil))))) (tTup (zL (tVar 9) (zL (tVar 10) tNil))) (fSeq (fIfS (fAnd (fCmp .GtE (fVar 9) (za (.int 0))) (fAnd (fCmp .GtE (fVar 10) (za (.int 0))) Zz)) (fSeq (zX (z7 "push_token" (fVar 0) (zc (fBin (opOf .Add) (zj (zc (fVar 9) fNil) pStr) (zj (zc (fVar 10) fNil) pStr)) fNil) yB))
  zh) zh)
  zh))
  zh)) zh)
  zh)) zh)
  (fSeq (fAsg (z7 "get_token" (fVar 0) fNil (zp text)) (tVar 6))
  zh)))))
  (fSeq (fRet (zj (zc (fVar 5) fNil) yN))
  zh))))))
noncomputable abbrev Z0(text:List Nat):=fnG 11 4 (f__law_roped text)
theorem s__law_roped{G:Gd}{r:Nat}{text:List Nat}(B:Bis G){C N D:Addr}{mN:Str→Option Value}(X:LX G C N D mN)(h__levenshtein_distance:GFn G r "_levenshtein_distance" zm) (hm_get_token:MFn G r mN "get_token" (zp text)) (hm_push_token:MFn G r mN "push_token" yB):SSs G r cx__law_roped (fb 19) (f__law_roped text):=
  (ze (zu (se_new B.K zg) (zn (i:=4) (k:= .loc) (by kernel_rfl)))
  (ze (zu (se_new B.K zg) (zn (i:=5) (k:= .loc) (by kernel_rfl)))
  (ze (yD (Zk X.L hm_push_token ol_push_token (zb (i:=0) (k:= .loc) (by kernel_rfl)) (zd (zq (zr B.K (by kernel_rfl) B.str prim_str (zd (zq (zr B.K (by kernel_rfl) B.len zK (zd (zb (i:=1) (k:= .loc) (by kernel_rfl)) zg)) zl) zg)) (zr B.K (by kernel_rfl) B.str prim_str (zd (zq (zr B.K (by kernel_rfl) B.len zK (zd (zb (i:=2) (k:= .loc) (by kernel_rfl)) zg)) zl) zg))) zg)))
  (ze (zu (Zk X.L hm_get_token Zq (zb (i:=0) (k:= .loc) (by kernel_rfl)) zg) (zn (i:=6) (k:= .loc) (by kernel_rfl)))
  (ze (ZT (zC (zb (i:=6) (k:= .loc) (by kernel_rfl)) (yz (l:= []) (by kernel_rfl) (okS.of (by decide +kernel)))) (ze (zu (zr B.K (by kernel_rfl) B.int prim_int (zd (zA (zb (i:=6) (k:= .loc) (by kernel_rfl)) zl) zg)) (zn (i:=7) (k:= .loc) (by kernel_rfl)))
  (ze (zu (zr B.K (by kernel_rfl) B.int prim_int (zd (zA (zb (i:=6) (k:= .loc) (by kernel_rfl)) zl) zg)) (zn (i:=8) (k:= .loc) (by kernel_rfl)))
  (ze (yQ (zC (zb (i:=6) (k:= .loc) (by kernel_rfl)) (zb (i:=4) (k:= .loc) (by kernel_rfl))) (ze (yD (yF PySem.F.slot_list_append rfl yp (zb (i:=4) (k:= .loc) (by kernel_rfl)) (zd (zb (i:=6) (k:= .loc) (by kernel_rfl)) zg)))
  (ze (yQ (zC (zV B.K (by kernel_rfl) h__levenshtein_distance (zd (zA (zb (i:=1) (k:= .loc) (by kernel_rfl)) (zb (i:=7) (k:= .loc) (by kernel_rfl))) (zd (zA (zb (i:=2) (k:= .loc) (by kernel_rfl)) (zb (i:=8) (k:= .loc) (by kernel_rfl))) (zd (zb (i:=3) (k:= .loc) (by kernel_rfl)) zg)))) (zb (i:=3) (k:= .loc) (by kernel_rfl))) (ze (yD (yF PySem.F.slot_list_append rfl yp (zb (i:=5) (k:= .loc) (by kernel_rfl)) (zd (yy (zd (zb (i:=7) (k:= .loc) (by kernel_rfl)) (zd (zb (i:=8) (k:= .loc) (by kernel_rfl)) zg))) zg)))
  (ze (ss_for (Ze (se_lst (zd (yy (zd (zq (zb (i:=7) (k:= .loc) (by kernel_rfl)) zl) (zd (zb (i:=8) (k:= .loc) (by kernel_rfl)) zg))) (zd (yy (zd (zb (i:=7) (k:= .loc) (by kernel_rfl)) (zd (zq (zb (i:=8) (k:= .loc) (by kernel_rfl)) zl) zg))) (zd (yy (zd (zq (zb (i:=7) (k:= .loc) (by kernel_rfl)) zl) (zd (zq (zb (i:=8) (k:= .loc) (by kernel_rfl)) zl) zg))) zg))))) (st_tup (yl (zn (i:=9) (k:= .loc) (by kernel_rfl)) (yl (zn (i:=10) (k:= .loc) (by kernel_rfl)) sts_nil))) (ze (yQ (ZK (zt (zC (zb (i:=9) (k:= .loc) (by kernel_rfl)) zl) (zt (zC (zb (i:=10) (k:= .loc) (by kernel_rfl)) zl) yn))) (ze (yD (Zk X.L hm_push_token ol_push_token (zb (i:=0) (k:= .loc) (by kernel_rfl)) (zd (zq (zr B.K (by kernel_rfl) B.str prim_str (zd (zb (i:=9) (k:= .loc) (by kernel_rfl)) zg)) (zr B.K (by kernel_rfl) B.str prim_str (zd (zb (i:=10) (k:= .loc) (by kernel_rfl)) zg))) zg)))
  zi) zi)
  zi))
  zi)) zi)
  zi)) zi)
  (ze (zu (Zk X.L hm_get_token Zq (zb (i:=0) (k:= .loc) (by kernel_rfl)) zg) (zn (i:=6) (k:= .loc) (by kernel_rfl)))
  zi)))))
  (ze (yf (zr B.K (by kernel_rfl) B.sorted ZL (zd (zb (i:=5) (k:= .loc) (by kernel_rfl)) zg)))
  zi))))))
end Mi
namespace Mi
open MeetsSeq MeetsSeq2 MeetsSeq3 SeqRoads2 SeqAt
noncomputable def yt:Cx:=⟨[("script", .cell),("fixed", .cell),("drawn", .cell),("cut", .cell),("words", .cell),("dressed", .local),("line", .local),("ways", .local),("done", .local),("near", .local),("prices", .local),("least", .cell),("whole", .local),("range", .globalImplicit),("sum", .globalImplicit),("_law_lexer", .globalImplicit),("_law_read", .globalImplicit),("_law_leashes", .globalImplicit),("_law_roped", .globalImplicit),("max", .globalImplicit),("_law_all_ways", .globalImplicit),("sorted", .globalImplicit),("_law_free", .globalImplicit)], [("script", .cel),("fixed", .cel),("drawn", .cel),("cut", .cel),("words", .cel),("dressed", .loc),("line", .loc),("ways", .loc),("done", .loc),("near", .loc),("prices", .loc),("least", .cel),("whole", .loc)]⟩
noncomputable def cx_law_1:Cx:=⟨[(".0", .local),("k", .local),("sum", .globalImplicit),("fixed", .cell),("script", .cell)], [("k", .loc),("fixed", .fre),("script", .fre)]⟩
noncomputable def cx_law_2:Cx:=⟨[(".0", .local),("x", .local)], [("x", .loc)]⟩
noncomputable def cx_law_3:Cx:=⟨[(".0", .local),("n", .local),("_law_word", .globalImplicit)], [("n", .loc)]⟩
noncomputable def cx_law_4:Cx:=⟨[(".0", .local),("k", .local),("_law_dressed", .globalImplicit),("drawn", .cell),("words", .cell)], [("k", .loc),("drawn", .fre),("words", .fre)]⟩
noncomputable def cx_law_5:Cx:=⟨[(".0", .local),("one", .local),("cut", .cell)], [("one", .loc),("cut", .fre)]⟩
noncomputable def cx_law_6:Cx:=⟨[(".0", .local),("u", .cell),("cut", .cell),("words", .cell)], [("u", .cel),("cut", .fre),("words", .fre)]⟩
noncomputable def cx_law_7:Cx:=⟨[(".0", .local),("v", .local),("_law_price", .globalImplicit),("u", .cell)], [("v", .loc),("u", .fre)]⟩
noncomputable def cx_law_8:Cx:=⟨[(".0", .local),("i", .local),("j", .local),("range", .globalImplicit),("cut", .cell),("least", .cell)], [("i", .loc),("j", .loc),("cut", .fre),("least", .fre)]⟩
noncomputable def cx_law_9:Cx:=⟨[(".0", .local),("one", .local)], [("one", .loc)]⟩
noncomputable def cx_law_10:Cx:=⟨[(".0", .local),("one", .local)], [("one", .loc)]⟩
noncomputable def lawS(j:Nat):Stmt:=((fb 24)[j]?).getD default
noncomputable def lawArg:List Expr:=match lawS 5 with
  | .Assign _ (.Call _ es _ _) _=>es
  | _=> []
noncomputable def f_law_0:SF:=(fAsg (fLst (zc (za (.int 6)) (zc (za (.int 138)) (zc (za (.int 97)) (zc (za (.int 78)) (zc (za (.int 12)) (zc (za (.int 85)) (zc (za (.int 99)) fNil)))))))) (tVar 1))
theorem s_law_0{G:Gd}{r:Nat}(B:Bis G):SS G r yt (lawS 0) f_law_0:=
  (zu (se_lst (zd zl (zd zl (zd zl (zd zl (zd zl (zd zl (zd zl zg)))))))) (zn (i:=1) (k:= .cel) (by kernel_rfl)))
noncomputable def f_law_1:SF:=(fAsg (yh .frz (yI (zc (za (.int 7)) fNil)) [none,some 1,some 0] (tVar 0) zU (zY (fBin (opOf .Add) (fIdx (fVar 1) (fVar 0)) (zj (zc (yh .frz (zI (zx (zx (fVar 2) (za .none) (za (.int 14)) (za .none)) (fVar 0) (za .none) (za (.int 7)))) [none] (tVar 0) zU (zY (fBin (opOf .Mod) (fVar 0) (za (.int 1000000))))) fNil) pSum)))) (tVar 2))
theorem s_law_1{G:Gd}{r:Nat}(B:Bis G):SS G r yt (lawS 1) f_law_1:=
  (ss_asg_cel .frz B.K (i:=2) (cx':=cx_law_1) (js:= [none,some 1,some 0]) (by kernel_rfl) ⟨by kernel_rfl,by kernel_rfl,by kernel_rfl,by kernel_rfl,by kernel_rfl,by kernel_rfl,by kernel_rfl⟩ (si_range B.K (by kernel_rfl) B.range (zd zl zg)) (zn (i:=0) (k:= .loc) (by kernel_rfl)) z9 (ym (zq (zA (zb (i:=1) (k:= .fre) (by kernel_rfl)) (zb (i:=0) (k:= .loc) (by kernel_rfl))) (zr B.K (by kernel_rfl) B.sum prim_sum (zd (Zg .frz B.K (cx':=cx_law_2) (js:= [none]) ⟨by kernel_rfl,by kernel_rfl,by kernel_rfl,by kernel_rfl,by kernel_rfl,by kernel_rfl,by kernel_rfl⟩ (Ze (ya (ya (zb (i:=2) (k:= .fre) (by kernel_rfl)) zE (yi zl) zE) (yi (zb (i:=0) (k:= .loc) (by kernel_rfl))) zE (yi zl))) (zn (i:=0) (k:= .loc) (by kernel_rfl)) z9 (ym (zq (zb (i:=0) (k:= .loc) (by kernel_rfl)) zl))) zg)))))
noncomputable def f_law_2:SF:=(fAsg (fBin (opOf .Sub) (za (.int 4)) (fBin (opOf .Mod) (zj (zc (fVar 2) fNil) pSum) (za (.int 2)))) (tVar 3))
theorem s_law_2{G:Gd}{r:Nat}(B:Bis G):SS G r yt (lawS 2) f_law_2:=
  (zu (zq zl (zq (zr B.K (by kernel_rfl) B.sum prim_sum (zd (zb (i:=2) (k:= .cel) (by kernel_rfl)) zg)) zl)) (zn (i:=3) (k:= .cel) (by kernel_rfl)))
noncomputable def f_law_3:SF:=(fAsg (yh .frz (zI (fVar 2)) [none] (tVar 0) zU (zY (zy (zc (fVar 0) fNil) ZQ))) (tVar 4))
theorem s_law_3{G:Gd}{r:Nat}(B:Bis G)(h__law_word:GFn G r "_law_word" ZQ):SS G r yt (lawS 3) f_law_3:=
  (ss_asg_cel .frz B.K (i:=4) (cx':=cx_law_3) (js:= [none]) (by kernel_rfl) ⟨by kernel_rfl,by kernel_rfl,by kernel_rfl,by kernel_rfl,by kernel_rfl,by kernel_rfl,by kernel_rfl⟩ (Ze (zb (i:=2) (k:= .cel) (by kernel_rfl))) (zn (i:=0) (k:= .loc) (by kernel_rfl)) z9 (ym (zV B.K (by kernel_rfl) h__law_word (zd (zb (i:=0) (k:= .loc) (by kernel_rfl)) zg))))
noncomputable def f_law_4:SF:=(fAsg (yh .frz (yI (zc (za (.int 7)) fNil)) [none,some 2,some 4] (tVar 0) zU (zY (zy (zc (fIdx (fVar 2) (fVar 0)) (zc (fIdx (fVar 1) (fVar 0)) fNil)) yU))) (tVar 5))
theorem s_law_4{G:Gd}{r:Nat}(B:Bis G)(h__law_dressed:GFn G r "_law_dressed" yU):SS G r yt (lawS 4) f_law_4:=
  (ss_asg_loc .frz B.K (i:=5) (cx':=cx_law_4) (js:= [none,some 2,some 4]) (by kernel_rfl) ⟨by kernel_rfl,by kernel_rfl,by kernel_rfl,by kernel_rfl,by kernel_rfl,by kernel_rfl,by kernel_rfl⟩ (si_range B.K (by kernel_rfl) B.range (zd zl zg)) (zn (i:=0) (k:= .loc) (by kernel_rfl)) z9 (ym (zV B.K (by kernel_rfl) h__law_dressed (zd (zA (zb (i:=2) (k:= .fre) (by kernel_rfl)) (zb (i:=0) (k:= .loc) (by kernel_rfl))) (zd (zA (zb (i:=1) (k:= .fre) (by kernel_rfl)) (zb (i:=0) (k:= .loc) (by kernel_rfl))) zg)))))
noncomputable def f_law_text:EsF:=(zc (fBin (opOf .Add) (fBin (opOf .Add) (fSMeth (za (.str [])) (zc (zx (fVar 5) (za .none) (fVar 3) (za .none)) fNil) pJoin) (za (.str [10]))) (fSMeth (za (.str [])) (zc (zx (fVar 5) (fVar 3) (za .none) (za .none)) fNil) pJoin)) fNil)
theorem s_law_text{G:Gd}{r:Nat}(B:Bis G):SEs G r yt (lawArg) f_law_text:=
  (zd (zq (zq (se_smeth PySem.F.slot_str_join rfl prim_join (yz (l:= []) (by kernel_rfl) (okS.of (by decide +kernel))) (zd (ya (zb (i:=5) (k:= .loc) (by kernel_rfl)) zE (yi (zb (i:=3) (k:= .cel) (by kernel_rfl))) zE) zg)) (yz (l:= [10]) (by kernel_rfl) (okS.of (by decide +kernel)))) (se_smeth PySem.F.slot_str_join rfl prim_join (yz (l:= []) (by kernel_rfl) (okS.of (by decide +kernel))) (zd (ya (zb (i:=5) (k:= .loc) (by kernel_rfl)) (yi (zb (i:=3) (k:= .cel) (by kernel_rfl))) zE zE) zg))) zg)
noncomputable def f_law_6(text:List Nat):SF:=(fAsg (zy (zc (fVar 6) fNil) (F__law_read text)) (tVar 7))
theorem s_law_6{G:Gd}{r:Nat}{text:List Nat}(B:Bis G)(h__law_read:GFn G r "_law_read" (F__law_read text)):SS G r yt (lawS 6) (f_law_6 text):=
  (zu (zV B.K (by kernel_rfl) h__law_read (zd (zb (i:=6) (k:= .loc) (by kernel_rfl)) zg)) (zn (i:=7) (k:= .loc) (by kernel_rfl)))
noncomputable def f_law_7(text:List Nat):SF:=(fIfS (fCmp .NotEq (fVar 7) (fLst (zc (zx (fVar 4) (za .none) (fVar 3) (za .none)) (zc (zx (fVar 4) (fVar 3) (za .none) (za .none)) fNil)))) (fSeq (fRet (za (.bool false)))
  zh) zh)
theorem s_law_7{G:Gd}{r:Nat}{text:List Nat}(B:Bis G):SS G r yt (lawS 7) (f_law_7 text):=
  (yQ (zC (zb (i:=7) (k:= .loc) (by kernel_rfl)) (se_lst (zd (ya (zb (i:=4) (k:= .cel) (by kernel_rfl)) zE (yi (zb (i:=3) (k:= .cel) (by kernel_rfl))) zE) (zd (ya (zb (i:=4) (k:= .cel) (by kernel_rfl)) (yi (zb (i:=3) (k:= .cel) (by kernel_rfl))) zE zE) zg)))) (ze (yf se_bool)
  zi) zi)
noncomputable def f_law_8(text:List Nat):SF:=(fAsg (zy (zc (fIdx (fVar 7) (za (.int 0))) (zc (fIdx (fVar 7) (za (.int 1))) fNil)) Zn) (tVar 8))
theorem s_law_8{G:Gd}{r:Nat}{text:List Nat}(B:Bis G)(h__law_leashes:GFn G r "_law_leashes" Zn):SS G r yt (lawS 8) (f_law_8 text):=
  (zu (zV B.K (by kernel_rfl) h__law_leashes (zd (zA (zb (i:=7) (k:= .loc) (by kernel_rfl)) zl) (zd (zA (zb (i:=7) (k:= .loc) (by kernel_rfl)) zl) zg))) (zn (i:=8) (k:= .loc) (by kernel_rfl)))
noncomputable def f_law_9(text:List Nat):SF:=(fAsg (zy (zc (fVar 6) (zc (fIdx (fVar 7) (za (.int 0))) (zc (fIdx (fVar 7) (za (.int 1))) (zc (zj (zc (yh .frz (zI (fVar 8)) [none,some 3] (tVar 0) (fIf1 (fCmp .Eq (zx (fVar 0) (za (.int 1)) (za .none) (za .none)) (fTup (zc (fBin (opOf .Sub) (fVar 1) (za (.int 1))) (zc (fBin (opOf .Sub) (za (.int 6)) (fVar 1)) fNil)))) zU) (zY (fIdx (fVar 0) (za (.int 0))))) fNil) pMax1) fNil)))) (Z0 text)) (tVar 9))
theorem s_law_9{G:Gd}{r:Nat}{text:List Nat}(B:Bis G)(h__law_roped:GFn G r "_law_roped" (Z0 text)):SS G r yt (lawS 9) (f_law_9 text):=
  (zu (zV B.K (by kernel_rfl) h__law_roped (zd (zb (i:=6) (k:= .loc) (by kernel_rfl)) (zd (zA (zb (i:=7) (k:= .loc) (by kernel_rfl)) zl) (zd (zA (zb (i:=7) (k:= .loc) (by kernel_rfl)) zl) (zd (zr B.K (by kernel_rfl) B.max prim_max1 (zd (Zg .frz B.K (cx':=cx_law_5) (js:= [none,some 3]) ⟨by kernel_rfl,by kernel_rfl,by kernel_rfl,by kernel_rfl,by kernel_rfl,by kernel_rfl,by kernel_rfl⟩ (Ze (zb (i:=8) (k:= .loc) (by kernel_rfl))) (zn (i:=0) (k:= .loc) (by kernel_rfl)) (sifs_cons (zC (ya (zb (i:=0) (k:= .loc) (by kernel_rfl)) (yi zl) zE zE) (yy (zd (zq (zb (i:=1) (k:= .fre) (by kernel_rfl)) zl) (zd (zq zl (zb (i:=1) (k:= .fre) (by kernel_rfl))) zg)))) z9) (ym (zA (zb (i:=0) (k:= .loc) (by kernel_rfl)) zl))) zg)) zg))))) (zn (i:=9) (k:= .loc) (by kernel_rfl)))
noncomputable def f_law_10(text:List Nat):SF:=(fAsg (yh .frz (zI (zx (fVar 4) (za .none) (fVar 3) (za .none))) [none,some 3,some 4] (tVar 0) zU (zY (yh .frz (zI (zx (fVar 2) (fVar 1) (za .none) (za .none))) [none,some 0] (tVar 0) zU (zY (zy (zc (fVar 1) (zc (fVar 0) fNil)) y3))))) (tVar 10))
theorem s_law_10{G:Gd}{r:Nat}{text:List Nat}(B:Bis G)(h__law_price:GFn G r "_law_price" y3):SS G r yt (lawS 10) (f_law_10 text):=
  (ss_asg_loc .frz B.K (i:=10) (cx':=cx_law_6) (js:= [none,some 3,some 4]) (by kernel_rfl) ⟨by kernel_rfl,by kernel_rfl,by kernel_rfl,by kernel_rfl,by kernel_rfl,by kernel_rfl,by kernel_rfl⟩ (Ze (ya (zb (i:=4) (k:= .cel) (by kernel_rfl)) zE (yi (zb (i:=3) (k:= .cel) (by kernel_rfl))) zE)) (zn (i:=0) (k:= .cel) (by kernel_rfl)) z9 (ym (Zg .frz B.K (cx':=cx_law_7) (js:= [none,some 0]) ⟨by kernel_rfl,by kernel_rfl,by kernel_rfl,by kernel_rfl,by kernel_rfl,by kernel_rfl,by kernel_rfl⟩ (Ze (ya (zb (i:=2) (k:= .fre) (by kernel_rfl)) (yi (zb (i:=1) (k:= .fre) (by kernel_rfl))) zE zE)) (zn (i:=0) (k:= .loc) (by kernel_rfl)) z9 (ym (zV B.K (by kernel_rfl) h__law_price (zd (zb (i:=1) (k:= .fre) (by kernel_rfl)) (zd (zb (i:=0) (k:= .loc) (by kernel_rfl)) zg)))))))
noncomputable def f_law_11(text:List Nat):SF:=(fAsg (zy (zc (fVar 10) fNil) Zc) (tTup (zL (tVar 11) (zL (tVar 12) tNil))))
theorem s_law_11{G:Gd}{r:Nat}{text:List Nat}(B:Bis G)(h__law_all_ways:GFn G r "_law_all_ways" Zc):SS G r yt (lawS 11) (f_law_11 text):=
  (zu (zV B.K (by kernel_rfl) h__law_all_ways (zd (zb (i:=10) (k:= .loc) (by kernel_rfl)) zg)) (st_tup (yl (zn (i:=11) (k:= .cel) (by kernel_rfl)) (yl (zn (i:=12) (k:= .loc) (by kernel_rfl)) sts_nil))))
noncomputable def f_law_12(text:List Nat):SF:=(fIfS (fCmp .NotEq (zj (zc (fVar 8) fNil) yN) (zj (zc (yh .frz (yI (zc (fVar 3) fNil)) [none,none,some 3,some 11] (tVar 0) zU (fNest (yI (zc (fBin (opOf .Sub) (za (.int 7)) (fVar 2)) fNil)) (tVar 1) zU (zY (fTup (zc (fIdx (fIdx (fVar 3) (fVar 0)) (fVar 1)) (zc (fVar 0) (zc (fVar 1) fNil))))))) fNil) yN)) (fSeq (fRet (za (.bool false)))
  zh) zh)
theorem s_law_12{G:Gd}{r:Nat}{text:List Nat}(B:Bis G):SS G r yt (lawS 12) (f_law_12 text):=
  (yQ (zC (zr B.K (by kernel_rfl) B.sorted ZL (zd (zb (i:=8) (k:= .loc) (by kernel_rfl)) zg)) (zr B.K (by kernel_rfl) B.sorted ZL (zd (Zg .frz B.K (cx':=cx_law_8) (js:= [none,none,some 3,some 11]) ⟨by kernel_rfl,by kernel_rfl,by kernel_rfl,by kernel_rfl,by kernel_rfl,by kernel_rfl,by kernel_rfl⟩ (si_range B.K (by kernel_rfl) B.range (zd (zb (i:=3) (k:= .cel) (by kernel_rfl)) zg)) (zn (i:=0) (k:= .loc) (by kernel_rfl)) z9 (sca_nest (si_range B.K (by kernel_rfl) B.range (zd (zq zl (zb (i:=2) (k:= .fre) (by kernel_rfl))) zg)) (zn (i:=1) (k:= .loc) (by kernel_rfl)) z9 (ym (yy (zd (zA (zA (zb (i:=3) (k:= .fre) (by kernel_rfl)) (zb (i:=0) (k:= .loc) (by kernel_rfl))) (zb (i:=1) (k:= .loc) (by kernel_rfl))) (zd (zb (i:=0) (k:= .loc) (by kernel_rfl)) (zd (zb (i:=1) (k:= .loc) (by kernel_rfl)) zg))))))) zg))) (ze (yf se_bool)
  zi) zi)
noncomputable def f_law_13(text:List Nat):SF:=(fIfS (fCmp .NotEq (yh .frz (zI (fVar 8)) [none] (tVar 0) zU (zY (fIdx (fVar 0) (za (.int 0))))) (zj (zc (yh .frz (zI (fVar 8)) [none] (tVar 0) zU (zY (fIdx (fVar 0) (za (.int 0))))) fNil) yN)) (fSeq (fRet (za (.bool false)))
  zh) zh)
theorem s_law_13{G:Gd}{r:Nat}{text:List Nat}(B:Bis G):SS G r yt (lawS 13) (f_law_13 text):=
  (yQ (zC (Zg .frz B.K (cx':=cx_law_9) (js:= [none]) ⟨by kernel_rfl,by kernel_rfl,by kernel_rfl,by kernel_rfl,by kernel_rfl,by kernel_rfl,by kernel_rfl⟩ (Ze (zb (i:=8) (k:= .loc) (by kernel_rfl))) (zn (i:=0) (k:= .loc) (by kernel_rfl)) z9 (ym (zA (zb (i:=0) (k:= .loc) (by kernel_rfl)) zl))) (zr B.K (by kernel_rfl) B.sorted ZL (zd (Zg .frz B.K (cx':=cx_law_10) (js:= [none]) ⟨by kernel_rfl,by kernel_rfl,by kernel_rfl,by kernel_rfl,by kernel_rfl,by kernel_rfl,by kernel_rfl⟩ (Ze (zb (i:=8) (k:= .loc) (by kernel_rfl))) (zn (i:=0) (k:= .loc) (by kernel_rfl)) z9 (ym (zA (zb (i:=0) (k:= .loc) (by kernel_rfl)) zl))) zg))) (ze (yf se_bool)
  zi) zi)
noncomputable def f_law_14(text:List Nat):SF:=(fRet (fAnd2 (fBool (fCmp .Eq (fVar 9) (zy (zc (fVar 12) (zc (fVar 10) (zc (fIdx (fIdx (fVar 11) (fBin (opOf .Sub) (fVar 3) (za (.int 1)))) (fBin (opOf .Sub) (za (.int 6)) (fVar 3))) fNil))) F__law_free))) (fBool (fCmp .Eq (fTup (zc (z7 "get_token" (fVar 6) fNil (zp text)) (zc (yO (fVar 6) "lineno") fNil))) (fTup (zc (za (.str [])) (zc (za (.int 2)) fNil)))))))
theorem s_law_14{G:Gd}{r:Nat}{text:List Nat}(B:Bis G){C N D:Addr}{mN:Str→Option Value}(X:LX G C N D mN)(h__law_free:GFn G r "_law_free" F__law_free) (hm_get_token:MFn G r mN "get_token" (zp text)):SS G r yt (lawS 14) (f_law_14 text):=
  (yf (se_and2 (se_cmp (zb (i:=9) (k:= .loc) (by kernel_rfl)) (zV B.K (by kernel_rfl) h__law_free (zd (zb (i:=12) (k:= .loc) (by kernel_rfl)) (zd (zb (i:=10) (k:= .loc) (by kernel_rfl)) (zd (zA (zA (zb (i:=11) (k:= .cel) (by kernel_rfl)) (zq (zb (i:=3) (k:= .cel) (by kernel_rfl)) zl)) (zq zl (zb (i:=3) (k:= .cel) (by kernel_rfl)))) zg))))) (se_cmp (yy (zd (Zk X.L hm_get_token Zq (zb (i:=6) (k:= .loc) (by kernel_rfl)) zg) (zd (se_attr X.L (zb (i:=6) (k:= .loc) (by kernel_rfl)) X.lineno ol_lineno) zg))) (yy (zd (yz (l:= []) (by kernel_rfl) (okS.of (by decide +kernel))) (zd zl zg))))))
end Mi
namespace Mi
theorem arS{α:Type}{P:List α→Prop}{n:Nat}(k:∀a,∀vs:List α,vs.length=n→P (a::vs)):∀vs:List α,vs.length=n+1→P vs
  | [],h=>nomatch h
  | a::vs,h=>k a vs (Nat.succ.inj h)
theorem arZ{α:Type}{P:List α→Prop}(k:P []):∀vs:List α,vs.length=0→P vs
  | [],_=>k
theorem ar1{α:Type}{P:List α→Prop}(k:∀a,P [a]):∀vs:List α,vs.length=1→P vs:=arS fun a=>arZ (k a)
theorem ar2{α:Type}{P:List α→Prop}(k:∀a b,P [a,b]):∀vs:List α,vs.length=2→P vs:=arS fun a=>ar1 (k a)
theorem ar3{α:Type}{P:List α→Prop}(k:∀a b c,P [a,b,c]):∀vs:List α,vs.length=3→P vs:=arS fun a=>ar2 (k a)
theorem ar4{α:Type}{P:List α→Prop}(k:∀a b c d,P [a,b,c,d]):∀vs:List α,vs.length=4→P vs:=arS fun a=>ar3 (k a)
noncomputable def fdOf(o:Obj):FuncData:=match o.data with
  | .func fd=>fd
  | _=>default
noncomputable def obAt(K:Frag)(a:Addr):Obj:=(K.lookup a).getD default
noncomputable def codeNamed(K:Frag)(c:Addr)(q:Str):Bool:=match K.lookup c with
  | some ⟨_,_, .fields vs,_⟩=>(match (vs[1]?:Option Value) with
    | some (.str x _)=>x==q
    | _=>false)
  | _=>false
theorem zD{K:Frag}{h:Heap}(X:K.In h){c:Addr}{q:Str}(hk:codeNamed K c q=true):h.CodeRec (.ref c) q:=by
  unfold codeNamed at hk
  split at hk
  · rename_i a b vs d e
    split at hk
    · rename_i x t e2
      have:x=q:=by simpa using hk
      subst this
      exact ⟨c,_,vs,t,rfl,X _ _ e,rfl,e2⟩
    · cases hk
  · cases hk
theorem fn_heappush{G:Gd}{P:Params}(X:(hd1.heap_39 P).In G.h0):FnAt G 21 (fdOf (obAt (hd1.heap_39 P) 21)) (fb 1) ["heap","item"] cx_heappush where
  obj:=⟨_,X 21 (obAt (hd1.heap_39 P) 21) (by kernel_rfl),by kernel_rfl⟩
  code:=zD X (c:=20) (by kernel_rfl)
  body:=by kernel_rfl
  bind:=ar2 fun a b=>by kernel_rfl
  clo:=by kernel_rfl
  glob:=by kernel_rfl
  blt:=by kernel_rfl
  names:=by kernel_rfl
  kind:=by kernel_rfl
  co:=by kernel_rfl
  gen:=by kernel_rfl
  ok:=by kernel_rfl
  vars:=by kernel_rfl
  par:=by kernel_rfl
theorem fn_heappop{G:Gd}{P:Params}(X:(hd1.heap_39 P).In G.h0):FnAt G 28 (fdOf (obAt (hd1.heap_39 P) 28)) (fb 2) ["heap"] cx_heappop where
  obj:=⟨_,X 28 (obAt (hd1.heap_39 P) 28) (by kernel_rfl),by kernel_rfl⟩
  code:=zD X (c:=27) (by kernel_rfl)
  body:=by kernel_rfl
  bind:=ar1 fun a=>by kernel_rfl
  clo:=by kernel_rfl
  glob:=by kernel_rfl
  blt:=by kernel_rfl
  names:=by kernel_rfl
  kind:=by kernel_rfl
  co:=by kernel_rfl
  gen:=by kernel_rfl
  ok:=by kernel_rfl
  vars:=by kernel_rfl
  par:=by kernel_rfl
theorem fn__siftdown{G:Gd}{P:Params}(X:(hd1.heap_39 P).In G.h0):FnAt G 35 (fdOf (obAt (hd1.heap_39 P) 35)) (fb 3) ["heap","startpos","pos"] cx__siftdown where
  obj:=⟨_,X 35 (obAt (hd1.heap_39 P) 35) (by kernel_rfl),by kernel_rfl⟩
  code:=zD X (c:=34) (by kernel_rfl)
  body:=by kernel_rfl
  bind:=ar3 fun a b c=>by kernel_rfl
  clo:=by kernel_rfl
  glob:=by kernel_rfl
  blt:=by kernel_rfl
  names:=by kernel_rfl
  kind:=by kernel_rfl
  co:=by kernel_rfl
  gen:=by kernel_rfl
  ok:=by kernel_rfl
  vars:=by kernel_rfl
  par:=by kernel_rfl
theorem fn__siftup{G:Gd}{P:Params}(X:(hd1.heap_39 P).In G.h0):FnAt G 42 (fdOf (obAt (hd1.heap_39 P) 42)) (fb 4) ["heap","pos"] cx__siftup where
  obj:=⟨_,X 42 (obAt (hd1.heap_39 P) 42) (by kernel_rfl),by kernel_rfl⟩
  code:=zD X (c:=41) (by kernel_rfl)
  body:=by kernel_rfl
  bind:=ar2 fun a b=>by kernel_rfl
  clo:=by kernel_rfl
  glob:=by kernel_rfl
  blt:=by kernel_rfl
  names:=by kernel_rfl
  kind:=by kernel_rfl
  co:=by kernel_rfl
  gen:=by kernel_rfl
  ok:=by kernel_rfl
  vars:=by kernel_rfl
  par:=by kernel_rfl
theorem fn__read_char{G:Gd}{P:Params}(X:(hd1.heap_39 P).In G.h0):FnAt G 63 (fdOf (obAt (hd1.heap_39 P) 63)) (mb 1) ["self"] cx__read_char where
  obj:=⟨_,X 63 (obAt (hd1.heap_39 P) 63) (by kernel_rfl),by kernel_rfl⟩
  code:=zD X (c:=62) (by kernel_rfl)
  body:=by kernel_rfl
  bind:=ar1 fun a=>by kernel_rfl
  clo:=by kernel_rfl
  glob:=by kernel_rfl
  blt:=by kernel_rfl
  names:=by kernel_rfl
  kind:=by kernel_rfl
  co:=by kernel_rfl
  gen:=by kernel_rfl
  ok:=by kernel_rfl
  vars:=by kernel_rfl
  par:=by kernel_rfl
theorem fn_get_token{G:Gd}{P:Params}(X:(hd1.heap_39 P).In G.h0):FnAt G 70 (fdOf (obAt (hd1.heap_39 P) 70)) (mb 2) ["self"] cx_get_token where
  obj:=⟨_,X 70 (obAt (hd1.heap_39 P) 70) (by kernel_rfl),by kernel_rfl⟩
  code:=zD X (c:=69) (by kernel_rfl)
  body:=by kernel_rfl
  bind:=ar1 fun a=>by kernel_rfl
  clo:=by kernel_rfl
  glob:=by kernel_rfl
  blt:=by kernel_rfl
  names:=by kernel_rfl
  kind:=by kernel_rfl
  co:=by kernel_rfl
  gen:=by kernel_rfl
  ok:=by kernel_rfl
  vars:=by kernel_rfl
  par:=by kernel_rfl
theorem fn_push_token{G:Gd}{P:Params}(X:(hd1.heap_39 P).In G.h0):FnAt G 77 (fdOf (obAt (hd1.heap_39 P) 77)) (mb 3) ["self","token"] cx_push_token where
  obj:=⟨_,X 77 (obAt (hd1.heap_39 P) 77) (by kernel_rfl),by kernel_rfl⟩
  code:=zD X (c:=76) (by kernel_rfl)
  body:=by kernel_rfl
  bind:=ar2 fun a b=>by kernel_rfl
  clo:=by kernel_rfl
  glob:=by kernel_rfl
  blt:=by kernel_rfl
  names:=by kernel_rfl
  kind:=by kernel_rfl
  co:=by kernel_rfl
  gen:=by kernel_rfl
  ok:=by kernel_rfl
  vars:=by kernel_rfl
  par:=by kernel_rfl
theorem fn__substitution_cost{G:Gd}{P:Params}(X:(hd1.heap_39 P).In G.h0):FnAt G 91 (fdOf (obAt (hd1.heap_39 P) 91)) (fb 11) ["ch_a","ch_b"] Zw where
  obj:=⟨_,X 91 (obAt (hd1.heap_39 P) 91) (by kernel_rfl),by kernel_rfl⟩
  code:=zD X (c:=90) (by kernel_rfl)
  body:=by kernel_rfl
  bind:=ar2 fun a b=>by kernel_rfl
  clo:=by kernel_rfl
  glob:=by kernel_rfl
  blt:=by kernel_rfl
  names:=by kernel_rfl
  kind:=by kernel_rfl
  co:=by kernel_rfl
  gen:=by kernel_rfl
  ok:=by kernel_rfl
  vars:=by kernel_rfl
  par:=by kernel_rfl
theorem fn__levenshtein_distance{G:Gd}{P:Params}(X:(hd1.heap_39 P).In G.h0):FnAt G 98 (fdOf (obAt (hd1.heap_39 P) 98)) (fb 12) ["a","b","max_cost"] yZ where
  obj:=⟨_,X 98 (obAt (hd1.heap_39 P) 98) (by kernel_rfl),by kernel_rfl⟩
  code:=zD X (c:=97) (by kernel_rfl)
  body:=by kernel_rfl
  bind:=ar3 fun a b c=>by kernel_rfl
  clo:=by kernel_rfl
  glob:=by kernel_rfl
  blt:=by kernel_rfl
  names:=by kernel_rfl
  kind:=by kernel_rfl
  co:=by kernel_rfl
  gen:=by kernel_rfl
  ok:=by kernel_rfl
  vars:=by kernel_rfl
  par:=by kernel_rfl
theorem fn__law_word{G:Gd}{P:Params}(X:(hd1.heap_39 P).In G.h0):FnAt G 112 (fdOf (obAt (hd1.heap_39 P) 112)) (fb 15) ["n"] cx__law_word where
  obj:=⟨_,X 112 (obAt (hd1.heap_39 P) 112) (by kernel_rfl),by kernel_rfl⟩
  code:=zD X (c:=111) (by kernel_rfl)
  body:=by kernel_rfl
  bind:=ar1 fun a=>by kernel_rfl
  clo:=by kernel_rfl
  glob:=by kernel_rfl
  blt:=by kernel_rfl
  names:=by kernel_rfl
  kind:=by kernel_rfl
  co:=by kernel_rfl
  gen:=by kernel_rfl
  ok:=by kernel_rfl
  vars:=by kernel_rfl
  par:=by kernel_rfl
theorem fn__law_dressed{G:Gd}{P:Params}(X:(hd1.heap_39 P).In G.h0):FnAt G 117 (fdOf (obAt (hd1.heap_39 P) 117)) (fb 16) ["word","n"] cx__law_dressed where
  obj:=⟨_,X 117 (obAt (hd1.heap_39 P) 117) (by kernel_rfl),by kernel_rfl⟩
  code:=zD X (c:=116) (by kernel_rfl)
  body:=by kernel_rfl
  bind:=ar2 fun a b=>by kernel_rfl
  clo:=by kernel_rfl
  glob:=by kernel_rfl
  blt:=by kernel_rfl
  names:=by kernel_rfl
  kind:=by kernel_rfl
  co:=by kernel_rfl
  gen:=by kernel_rfl
  ok:=by kernel_rfl
  vars:=by kernel_rfl
  par:=by kernel_rfl
theorem fn__law_read{G:Gd}{P:Params}(X:(hd1.heap_39 P).In G.h0):FnAt G 124 (fdOf (obAt (hd1.heap_39 P) 124)) (fb 17) ["line"] cx__law_read where
  obj:=⟨_,X 124 (obAt (hd1.heap_39 P) 124) (by kernel_rfl),by kernel_rfl⟩
  code:=zD X (c:=123) (by kernel_rfl)
  body:=by kernel_rfl
  bind:=ar1 fun a=>by kernel_rfl
  clo:=by kernel_rfl
  glob:=by kernel_rfl
  blt:=by kernel_rfl
  names:=by kernel_rfl
  kind:=by kernel_rfl
  co:=by kernel_rfl
  gen:=by kernel_rfl
  ok:=by kernel_rfl
  vars:=by kernel_rfl
  par:=by kernel_rfl
theorem fn__law_leashes{G:Gd}{P:Params}(X:(hd1.heap_39 P).In G.h0):FnAt G 131 (fdOf (obAt (hd1.heap_39 P) 131)) (fb 18) ["first","second"] cx__law_leashes where
  obj:=⟨_,X 131 (obAt (hd1.heap_39 P) 131) (by kernel_rfl),by kernel_rfl⟩
  code:=zD X (c:=130) (by kernel_rfl)
  body:=by kernel_rfl
  bind:=ar2 fun a b=>by kernel_rfl
  clo:=by kernel_rfl
  glob:=by kernel_rfl
  blt:=by kernel_rfl
  names:=by kernel_rfl
  kind:=by kernel_rfl
  co:=by kernel_rfl
  gen:=by kernel_rfl
  ok:=by kernel_rfl
  vars:=by kernel_rfl
  par:=by kernel_rfl
theorem fn__law_roped{G:Gd}{P:Params}(X:(hd1.heap_39 P).In G.h0):FnAt G 138 (fdOf (obAt (hd1.heap_39 P) 138)) (fb 19) ["line","first","second","rope"] cx__law_roped where
  obj:=⟨_,X 138 (obAt (hd1.heap_39 P) 138) (by kernel_rfl),by kernel_rfl⟩
  code:=zD X (c:=137) (by kernel_rfl)
  body:=by kernel_rfl
  bind:=ar4 fun a b c d=>by kernel_rfl
  clo:=by kernel_rfl
  glob:=by kernel_rfl
  blt:=by kernel_rfl
  names:=by kernel_rfl
  kind:=by kernel_rfl
  co:=by kernel_rfl
  gen:=by kernel_rfl
  ok:=by kernel_rfl
  vars:=by kernel_rfl
  par:=by kernel_rfl
theorem fn__law_sub{G:Gd}{P:Params}(X:(hd1.heap_39 P).In G.h0):FnAt G 145 (fdOf (obAt (hd1.heap_39 P) 145)) (fb 20) ["x","y"] cx__law_sub where
  obj:=⟨_,X 145 (obAt (hd1.heap_39 P) 145) (by kernel_rfl),by kernel_rfl⟩
  code:=zD X (c:=144) (by kernel_rfl)
  body:=by kernel_rfl
  bind:=ar2 fun a b=>by kernel_rfl
  clo:=by kernel_rfl
  glob:=by kernel_rfl
  blt:=by kernel_rfl
  names:=by kernel_rfl
  kind:=by kernel_rfl
  co:=by kernel_rfl
  gen:=by kernel_rfl
  ok:=by kernel_rfl
  vars:=by kernel_rfl
  par:=by kernel_rfl
theorem fn__law_price{G:Gd}{P:Params}(X:(hd1.heap_39 P).In G.h0):FnAt G 150 (fdOf (obAt (hd1.heap_39 P) 150)) (fb 21) ["u","v"] cx__law_price where
  obj:=⟨_,X 150 (obAt (hd1.heap_39 P) 150) (by kernel_rfl),by kernel_rfl⟩
  code:=zD X (c:=149) (by kernel_rfl)
  body:=by kernel_rfl
  bind:=ar2 fun a b=>by kernel_rfl
  clo:=by kernel_rfl
  glob:=by kernel_rfl
  blt:=by kernel_rfl
  names:=by kernel_rfl
  kind:=by kernel_rfl
  co:=by kernel_rfl
  gen:=by kernel_rfl
  ok:=by kernel_rfl
  vars:=by kernel_rfl
  par:=by kernel_rfl
theorem fn__law_all_ways{G:Gd}{P:Params}(X:(hd1.heap_39 P).In G.h0):FnAt G 155 (fdOf (obAt (hd1.heap_39 P) 155)) (fb 22) ["prices"] cx__law_all_ways where
  obj:=⟨_,X 155 (obAt (hd1.heap_39 P) 155) (by kernel_rfl),by kernel_rfl⟩
  code:=zD X (c:=154) (by kernel_rfl)
  body:=by kernel_rfl
  bind:=ar1 fun a=>by kernel_rfl
  clo:=by kernel_rfl
  glob:=by kernel_rfl
  blt:=by kernel_rfl
  names:=by kernel_rfl
  kind:=by kernel_rfl
  co:=by kernel_rfl
  gen:=by kernel_rfl
  ok:=by kernel_rfl
  vars:=by kernel_rfl
  par:=by kernel_rfl
theorem fn__law_free{G:Gd}{P:Params}(X:(hd1.heap_39 P).In G.h0):FnAt G 162 (fdOf (obAt (hd1.heap_39 P) 162)) (fb 23) ["whole","prices","rope"] cx__law_free where
  obj:=⟨_,X 162 (obAt (hd1.heap_39 P) 162) (by kernel_rfl),by kernel_rfl⟩
  code:=zD X (c:=161) (by kernel_rfl)
  body:=by kernel_rfl
  bind:=ar3 fun a b c=>by kernel_rfl
  clo:=by kernel_rfl
  glob:=by kernel_rfl
  blt:=by kernel_rfl
  names:=by kernel_rfl
  kind:=by kernel_rfl
  co:=by kernel_rfl
  gen:=by kernel_rfl
  ok:=by kernel_rfl
  vars:=by kernel_rfl
  par:=by kernel_rfl
theorem fn_law{G:Gd}{P:Params}(X:(hd1.heap_39 P).In G.h0):FnAt G 167 (fdOf (obAt (hd1.heap_39 P) 167)) (fb 24) ["script"] yt where
  obj:=⟨_,X 167 (obAt (hd1.heap_39 P) 167) (by kernel_rfl),by kernel_rfl⟩
  code:=zD X (c:=166) (by kernel_rfl)
  body:=by kernel_rfl
  bind:=ar1 fun a=>by kernel_rfl
  clo:=by kernel_rfl
  glob:=by kernel_rfl
  blt:=by kernel_rfl
  names:=by kernel_rfl
  kind:=by kernel_rfl
  co:=by kernel_rfl
  gen:=by kernel_rfl
  ok:=by kernel_rfl
  vars:=by kernel_rfl
  par:=by kernel_rfl
end Mi
namespace Mi
structure W1(G:Gd)(P:Params):Prop where
  X:(hd1.heap_39 P).In G.h0
  B:Bis G
  m1:G.mg "heappush"=some (.ref 21)
  m2:G.mg "heappop"=some (.ref 28)
  m3:G.mg "_siftdown"=some (.ref 35)
  m4:G.mg "_siftup"=some (.ref 42)
  m5:G.mg "_substitution_cost"=some (.ref 91)
  m6:G.mg "_levenshtein_distance"=some (.ref 98)
  m7:G.mg "_law_word"=some (.ref 112)
  m8:G.mg "_law_dressed"=some (.ref 117)
  m9:G.mg "_law_read"=some (.ref 124)
  m10:G.mg "_law_leashes"=some (.ref 131)
  m11:G.mg "_law_roped"=some (.ref 138)
  m12:G.mg "_law_sub"=some (.ref 145)
  m13:G.mg "_law_price"=some (.ref 150)
  m14:G.mg "_law_all_ways"=some (.ref 155)
  m15:G.mg "_law_free"=some (.ref 162)
  i1:GI G "_MOVE_COST" 2
  i2:GI G "_CASE_COST" 1
  i3:GI G "_MAX_STRING_SIZE" 40
section
variable {G:Gd}{P:Params}{r:Nat}
theorem g__siftdown(W:W1 G P):GFn G (r+1) "_siftdown" yJ:=ZN W.B.K W.m3 (fn__siftdown W.X) (s__siftdown W.B)
theorem g_heappush(W:W1 G P):GFn G (r+2) "heappush" yL:=ZN W.B.K W.m1 (fn_heappush W.X) (s_heappush W.B (g__siftdown W))
theorem g__siftup(W:W1 G P):GFn G (r+2) "_siftup" F__siftup:=ZN W.B.K W.m4 (fn__siftup W.X) (s__siftup W.B (g__siftdown W))
theorem g_heappop(W:W1 G P):GFn G (r+3) "heappop" ZP:=ZN W.B.K W.m2 (fn_heappop W.X) (s_heappop W.B (g__siftup W))
theorem g__substitution_cost(W:W1 G P):GFn G (r+1) "_substitution_cost" zR:=ZN W.B.K W.m5 (fn__substitution_cost W.X) (s__substitution_cost W.B W.i2 W.i1)
theorem y9(W:W1 G P):GFn G (r+2) "_levenshtein_distance" zm:=ZN W.B.K W.m6 (fn__levenshtein_distance W.X) (s__levenshtein_distance W.B (g__substitution_cost W) W.i3 W.i1)
theorem g__law_word(W:W1 G P):GFn G (r+1) "_law_word" ZQ:=ZN W.B.K W.m7 (fn__law_word W.X) (s__law_word W.B)
theorem g__law_dressed(W:W1 G P):GFn G (r+1) "_law_dressed" yU:=ZN W.B.K W.m8 (fn__law_dressed W.X) (s__law_dressed W.B)
theorem g__law_sub(W:W1 G P):GFn G (r+1) "_law_sub" z0:=ZN W.B.K W.m12 (fn__law_sub W.X) (s__law_sub W.B)
theorem g__law_price(W:W1 G P):GFn G (r+2) "_law_price" y3:=ZN W.B.K W.m13 (fn__law_price W.X) (s__law_price W.B (g__law_sub W))
theorem g__law_leashes(W:W1 G P):GFn G (r+4) "_law_leashes" Zn:=ZN W.B.K W.m10 (fn__law_leashes W.X) (s__law_leashes W.B (h__levenshtein_distance:=y9 W) (h_heappop:=g_heappop W) (h_heappush:=g_heappush W))
theorem g__law_all_ways(W:W1 G P):GFn G (r+1) "_law_all_ways" Zc:=ZN W.B.K W.m14 (fn__law_all_ways W.X) (s__law_all_ways W.B)
theorem g__law_free(W:W1 G P):GFn G (r+1) "_law_free" F__law_free:=ZN W.B.K W.m15 (fn__law_free W.X) (s__law_free W.B)
end
end Mi
namespace Mi
structure X1(G:Gd)(P:Params)(text:List Nat)(C N D:Addr)(mN:Str→Option Value)(rf:Addr):Prop where
  W:W1 G P
  X:LX G C N D mN
  n1:mN "_read_char"=some (.ref 63)
  n2:mN "get_token"=some (.ref 70)
  n3:mN "push_token"=some (.ref 77)
  S:StrG G "read" rf
  R:∀r,Z1 G (r+1) (.ref rf) (F_read text)
  bnd:G.bnd=methodObj (.ref 63) (.ref (G.cst 0))
section
variable {G:Gd}{P:Params}{r:Nat}{text:List Nat}{C N D:Addr}{mN:Str→Option Value}{rf:Addr}{cx:Cx}
theorem mfn_of(K:GOk G){a:Addr}{x:Str}{fd:FuncData}{body:List Stmt}{ps:List Str}{bf:SF}(hg:mN x=some (.ref a))(Nf:FnAt G a fd body ps cx)(hc:∃o,G.h0.get? a=some o∧o.cls = .type "function") (hb:SSs G r cx body bf):MFn G (r+1) mN x (fnG cx.xs.length ps.length bf):=by
  refine xe12 Nf.obj fun o h1 h2=>?_
  refine xe12 hc fun o' h3 h4=>?_
  rw [h1] at h3; cases h3
  exact ⟨a,o,fd,hg,h1,h2,h4,call_fn K Nf hb⟩
theorem m__read_char(V:X1 G P text C N D mN rf):MFn G (r+2) mN "_read_char" (zo text):=
  mfn_of V.W.B.K V.n1 (fn__read_char V.W.X) ⟨_,V.W.X 63 (obAt (hd1.heap_39 P) 63) (by kernel_rfl),by kernel_rfl⟩ (s__read_char V.W.B V.X V.S (V.R r))
theorem m_push_token(V:X1 G P text C N D mN rf):MFn G (r+1) mN "push_token" yB:=
  mfn_of V.W.B.K V.n3 (fn_push_token V.W.X) ⟨_,V.W.X 77 (obAt (hd1.heap_39 P) 77) (by kernel_rfl),by kernel_rfl⟩ (s_push_token V.W.B V.X)
theorem b__read_char(V:X1 G P text C N D mN rf):BndOk G mN "_read_char" 63:=
  ⟨V.n1,⟨obAt (hd1.heap_39 P) 63,_,V.W.X 63 (obAt (hd1.heap_39 P) 63) (by kernel_rfl),by kernel_rfl,show _=Data.func (fdOf (obAt (hd1.heap_39 P) 63)) by kernel_rfl⟩,V.bnd⟩
theorem c__read_char(V:X1 G P text C N D mN rf):Z1 G (r+2) (.ref 63) (zo text):=
  call_fn V.W.B.K (fn__read_char V.W.X) (s__read_char V.W.B V.X V.S (V.R r))
theorem m_get_token(V:X1 G P text C N D mN rf):MFn G (r+4) mN "get_token" (zp text):=
  mfn_of V.W.B.K V.n2 (fn_get_token V.W.X) ⟨_,V.W.X 70 (obAt (hd1.heap_39 P) 70) (by kernel_rfl),by kernel_rfl⟩ (s_get_token V.W.B V.X (hb__read_char:=b__read_char V) (hc__read_char:=c__read_char (r:=r) V) (hm__read_char:=m__read_char (r:=r+1) V))
theorem g__law_read(V:X1 G P text C N D mN rf):GFn G (r+5) "_law_read" (F__law_read text):=
  ZN V.W.B.K V.W.m9 (fn__law_read V.W.X) (s__law_read V.W.B V.X (m_get_token V))
theorem g__law_roped(V:X1 G P text C N D mN rf):GFn G (r+5) "_law_roped" (Z0 text):=
  ZN V.W.B.K V.W.m11 (fn__law_roped V.W.X) (s__law_roped V.W.B V.X (h__levenshtein_distance:=y9 (r:=r+2) V.W) (hm_get_token:=m_get_token V) (hm_push_token:=m_push_token (r:=r+3) V))
end
end Mi
namespace Mi
noncomputable def esOf(o:Obj):Array DictEntry:=match o.data with
  | .dict es _=>es
  | _=> #[]
theorem mg_at{K:Frag}{h:Heap}{a:Addr}{mg:Str→Option Value}(X:K.In h)(g:h.Ns a mg){o:Obj}(e:K.lookup a=some o)(x:Str):mg x=nsFind (esOf o) x:=by
  obtain ⟨o',es,ep,h1,h2,h3,h4⟩:=g
  have:=X a o e
  rw [h1] at this; cases this
  rw [←h4 x]
  unfold esOf; rw [h2]
theorem w1_of{G:Gd}{P:Params}(X:(hd1.heap_39 P).In G.h0)(K:GOk G):W1 G P:=by
  have m:∀x,G.mg x=nsFind (esOf (obAt (hd1.heap_39 P) 3)) x:=fun x=>mg_at X K.g (by kernel_rfl) x
  have bi:∀(x:Str) (v:Value),nsFind (esOf (obAt (hd1.heap_39 P) 3)) x=none→bootBuiltins x=some v→x≠"__name__"→(x==("__debug__":Str))=false→BI G x v:=fun x v h1 h2 h3 h4=>K.bi ((m x).trans h1) h2 h3 h4
  exact {
          X:=X
          B:=⟨K,bi _ _ (by kernel_rfl) (by kernel_rfl) (by decide +kernel) (by kernel_rfl),bi _ _ (by kernel_rfl) (by kernel_rfl) (by decide +kernel) (by kernel_rfl),bi _ _ (by kernel_rfl) (by kernel_rfl) (by decide +kernel) (by kernel_rfl),bi _ _ (by kernel_rfl) (by kernel_rfl) (by decide +kernel) (by kernel_rfl),bi _ _ (by kernel_rfl) (by kernel_rfl) (by decide +kernel) (by kernel_rfl),
            bi _ _ (by kernel_rfl) (by kernel_rfl) (by decide +kernel) (by kernel_rfl),bi _ _ (by kernel_rfl) (by kernel_rfl) (by decide +kernel) (by kernel_rfl),bi _ _ (by kernel_rfl) (by kernel_rfl) (by decide +kernel) (by kernel_rfl),bi _ _ (by kernel_rfl) (by kernel_rfl) (by decide +kernel) (by kernel_rfl),bi _ _ (by kernel_rfl) (by kernel_rfl) (by decide +kernel) (by kernel_rfl)⟩
          m1:=(m _).trans (by kernel_rfl)
          m2:=(m _).trans (by kernel_rfl)
          m3:=(m _).trans (by kernel_rfl)
          m4:=(m _).trans (by kernel_rfl)
          m5:=(m _).trans (by kernel_rfl)
          m6:=(m _).trans (by kernel_rfl)
          m7:=(m _).trans (by kernel_rfl)
          m8:=(m _).trans (by kernel_rfl)
          m9:=(m _).trans (by kernel_rfl)
          m10:=(m _).trans (by kernel_rfl)
          m11:=(m _).trans (by kernel_rfl)
          m12:=(m _).trans (by kernel_rfl)
          m13:=(m _).trans (by kernel_rfl)
          m14:=(m _).trans (by kernel_rfl)
          m15:=(m _).trans (by kernel_rfl)
          i1:=⟨295,(m _).trans (by kernel_rfl)⟩
          i2:=⟨297,(m _).trans (by kernel_rfl)⟩
          i3:=⟨293,(m _).trans (by kernel_rfl)⟩}
end Mi
namespace Mi
noncomputable def mN1(P:Params):Str→Option Value:=fun x=>nsFind (esOf (obAt (hd1.heap_39 P) 79)) x
theorem cls1{h:Heap}{P:Params}(X:(hd1.heap_39 P).In h)(hn:h.Ns 79 (mN1 P)):ClsOk h 80 79 (mN1 P) where
  obj:=by
    have:=X 80 (obAt (hd1.heap_39 P) 80) (by kernel_rfl)
    exact ⟨_,_,_,_,_,_,_,_,_,_,_,_,_,_,this⟩
  ns:=hn
  ga:=by kernel_rfl
  gt:=by kernel_rfl
  sa:=by kernel_rfl
noncomputable def strKeysOk(es:Array DictEntry):Bool:=es.toList.all fun e=>match e.key with
  | .str _ _=>true
  | _=>false
theorem ns_lit{K:Frag}{h:Heap}{a:Addr}{o:Obj}{ep:Nat}(X:K.In h)(e:K.lookup a=some o)(d:o.data = .dict (esOf o) ep)(hk:strKeysOk (esOf o)=true):h.Ns a (nsFind (esOf o)):=by
  refine ⟨o,esOf o,ep,X _ _ e,d,fun en hen=>?_,fun _=>rfl⟩
  have:=List.all_eq_true.mp hk en (by simpa using hen)
  split at this
  · rename_i n t hq; exact ⟨n,t,hq⟩
  · cases this
theorem cls1'{h:Heap}{P:Params}(X:(hd1.heap_39 P).In h):ClsOk h 80 79 (mN1 P):=
  cls1 X (ns_lit X (o:=obAt (hd1.heap_39 P) 79) (by kernel_rfl) (show _=Data.dict _ (match (obAt (hd1.heap_39 P) 79).data with | .dict _ ep=>ep | _=>0) by kernel_rfl) (by kernel_rfl))
theorem Zr(P:Params):mN1 P "pushback"=none∧mN1 P "lineno"=none∧mN1 P "instream"=none∧mN1 P "whitespace"=none∧mN1 P "_read_char"=some (.ref 63)∧mN1 P "get_token"=some (.ref 70)∧mN1 P "push_token"=some (.ref 77)∧mN1 P "__init__"=some (.ref 56):=
  ⟨by kernel_rfl,by kernel_rfl,by kernel_rfl,by kernel_rfl,by kernel_rfl,by kernel_rfl,by kernel_rfl,by kernel_rfl⟩
end Mi
namespace Mi
open MeetsSeq MeetsSeq2 MeetsSeq3 SeqRoads2 SeqAt
noncomputable def cx_init:Cx:=⟨[("self", .local),("fp", .local)], [("self", .loc),("fp", .loc)]⟩
noncomputable def f_init:SF:=(fSeq (fSetAttr "lineno" (fVar 0) (za (.int 1)))
  (fSeq (fSetAttr "instream" (fVar 0) (fVar 1))
  (fSeq (fSetAttr "whitespace" (fVar 0) (za (.str [10,9,13,32])))
  (fSeq (fSetAttr "pushback" (fVar 0) (fNew fNil))
  zh))))
theorem s_init{G:Gd}{r:Nat}(K:GOk G){C N D:Addr}{mN:Str→Option Value}(X:LX G C N D mN):SSs G r cx_init (mb 0) f_init:=
  (ze (ss_setattr X.L (zb (i:=0) (k:= .loc) (by kernel_rfl)) zl X.lineno ol_lineno)
  (ze (ss_setattr X.L (zb (i:=0) (k:= .loc) (by kernel_rfl)) (zb (i:=1) (k:= .loc) (by kernel_rfl)) X.instream ol_instream)
  (ze (ss_setattr X.L (zb (i:=0) (k:= .loc) (by kernel_rfl)) (yz (l:= [10,9,13,32]) (by kernel_rfl) (okS.of (by decide +kernel))) X.whitespace ol_whitespace)
  (ze (ss_setattr X.L (zb (i:=0) (k:= .loc) (by kernel_rfl)) (se_new K zg) X.pushback ol_pushback)
  zi))))
noncomputable def nsLex(pb:Nat):List (Str × V):= [("lineno", .int 1),("instream", .cst 1),("whitespace", .str [10,9,13,32]),("pushback", .loc pb)]
theorem f_init_eq(o:AObj):f_init [.cst 0, .cst 1] [o, .ns []]=some (.next, [.cst 0, .cst 1], [o, .ns (nsLex 2), .list []]):=by
  unfold f_init
  rfl
theorem fn_init{G:Gd}{P:Params}(X:(hd1.heap_39 P).In G.h0):FnAt G 56 (fdOf (obAt (hd1.heap_39 P) 56)) (mb 0) ["self","fp"] cx_init where
  obj:=⟨_,X 56 (obAt (hd1.heap_39 P) 56) (by kernel_rfl),by kernel_rfl⟩
  code:=zD X (c:=55) (by kernel_rfl)
  body:=by kernel_rfl
  bind:=ar2 fun a b=>by kernel_rfl
  clo:=by kernel_rfl
  glob:=by kernel_rfl
  blt:=by kernel_rfl
  names:=by kernel_rfl
  kind:=by kernel_rfl
  co:=by kernel_rfl
  gen:=by kernel_rfl
  ok:=by kernel_rfl
  vars:=by kernel_rfl
  par:=by kernel_rfl
noncomputable def Za:Cx:=⟨[("text", .cell),("_law_read_on", .local),("stream", .local),("at", .cell),("_netrclex", .globalImplicit)], [("text", .cel),("at", .cel),("_law_read_on", .loc),("stream", .loc)]⟩
theorem fn_lexer{G:Gd}{P:Params}(X:(hd1.heap_39 P).In G.h0):FnAt G 105 (fdOf (obAt (hd1.heap_39 P) 105)) (fb 14) ["text"] Za where
  obj:=⟨_,X 105 (obAt (hd1.heap_39 P) 105) (by kernel_rfl),by kernel_rfl⟩
  code:=zD X (c:=104) (by kernel_rfl)
  body:=by kernel_rfl
  bind:=ar1 fun a=>by kernel_rfl
  clo:=by kernel_rfl
  glob:=by kernel_rfl
  blt:=by kernel_rfl
  names:=by kernel_rfl
  kind:=by kernel_rfl
  co:=by kernel_rfl
  gen:=by kernel_rfl
  ok:=by kernel_rfl
  vars:=by kernel_rfl
  par:=by kernel_rfl
end Mi
namespace Mi
open MeetsSeq MeetsSeq2 MeetsSeq3 SeqRoads2 SeqAt
noncomputable def Zo(G:Gd)(h:Heap)(hid:List Addr)(x f2:Addr)(fix:List Addr)(bnd:Obj):Gd:={G with h0:=hideAll h hid,cst:=fun n=>if n=0 then x else f2,fix:=fix,bnd:=bnd}
section
variable {G:Gd}{h:Heap}{hid fix:List Addr}{x f2:Addr}{bnd:Obj}
theorem rebase_in(hb:∀a o,G.h0.get? a=some o→h.get? a=some o)(hn:∀a∈hid,G.h0.get? a=none):∀a o,G.h0.get? a=some o→(Zo G h hid x f2 fix bnd).h0.get? a=some o:=fun a o e=>
  hideAll_get _ (hb a o e) fun q=>by rw [hn a q] at e; contradiction
theorem rebase_ok(K:GOk G)(hb:∀a o,G.h0.get? a=some o→h.get? a=some o)(hn:∀a∈hid,G.h0.get? a=none):GOk (Zo G h hid x f2 fix bnd) where
  g:=K.g.keeps (rebase_in hb hn)
  b:=K.b.keeps (rebase_in hb hn)
  builtins:=K.builtins
  nolimit:=K.nolimit.keeps (rebase_in hb hn)
  nodigits:=let ⟨mc,a,b⟩:=K.nodigits; ⟨mc,a.keeps (rebase_in hb hn),b⟩
theorem rebase_get{a:Addr}{o:Obj}(e:h.get? a=some o)(hn:a∉hid):(Zo G h hid x f2 fix bnd).h0.get? a=some o:=hideAll_get _ e hn
theorem rebase_of{a:Addr}{o:Obj}(e:(Zo G h hid x f2 fix bnd).h0.get? a=some o):h.get? a=some o:=of_hideAll _ e
theorem rebase_none{a:Addr}(hn:a∈hid):(Zo G h hid x f2 fix bnd).h0.get? a=none:=hideAll_none _ hn
end
structure LS(s0:Shared)(h:Heap)(L cT cA T:Addr)(ty:Value)(m:Str→Option Value):Prop where
  keep:∀a o,a≠100→s0.heap.get? a=some o→h.get? a=some o
  sz:s0.heap.objs.size≤h.objs.size
  ns:h.Ns L m
  L0:s0.heap.objs.size≤L
  ct:h.IsCell cT (some ty)
  ct0:s0.heap.objs.size≤cT
  ca:h.IsCell cA (some (.ref T))
  ca0:s0.heap.objs.size≤cA
  tl:∃t n,h.get? T=some (zN [.int 0 t] n)
  t0:s0.heap.objs.size≤T
  h100:100<s0.heap.objs.size
section
variable {s0:Shared}{h h':Heap}{L cT cA T:Addr}{ty:Value}{m m':Str→Option Value}
theorem LS.mono(S:LS s0 h L cT cA T ty m)(k:∀a o,a≠100→a≠L→h.get? a=some o→h'.get? a=some o)(n:h'.Ns L m')(z:h.objs.size≤h'.objs.size):LS s0 h' L cT cA T ty m':=by
  refine xe33 S.ns fun oL eL epL gL dL _=>?_
  have cell:∀c v,s0.heap.objs.size≤c→h.IsCell c v→h'.IsCell c v:=fun c v hc q=>by
    refine xe12 q fun o e d=>?_
    refine ⟨o,k c o ?_ ?_ e,d⟩
    · exact Nat.ne_of_gt (Nat.lt_of_lt_of_le S.h100 hc)
    · rintro rfl
      rw [gL] at e; cases e
      rw [dL] at d; contradiction
  refine ⟨fun a o ha e=>k a o ha ?_ (S.keep a o ha e),Nat.le_trans S.sz z,n,S.L0,cell _ _ S.ct0 S.ct,S.ct0,cell _ _ S.ca0 S.ca,S.ca0,?_,S.t0,S.h100⟩
  · exact Nat.ne_of_lt (Nat.lt_of_lt_of_le (Heap.lt_size e) S.L0)
  · refine xe21 S.tl fun t n' e=>?_
    refine ⟨t,n',k _ _ ?_ ?_ e⟩
    · exact Nat.ne_of_gt (Nat.lt_of_lt_of_le S.h100 S.t0)
    · rintro rfl
      rw [gL] at e; cases e
      contradiction
theorem LS.push(S:LS s0 h L cT cA T ty m)(k:Heap.ExtBut 100 h h')(z:h.objs.size≤h'.objs.size)(o:Obj):LS s0 (h'.push o) L cT cA T ty m:=by
  refine S.mono (fun a ob h1 _ e=>Heap.get?_push_of_some _ (k a ob h1 e)) ?_ ?_
  · refine (S.ns.extBut k ?_).push _
    exact Nat.ne_of_gt (Nat.lt_of_lt_of_le S.h100 S.L0)
  · rw [Heap.size_push]; solve_by_elim [Nat.le_of_lt,Nat.lt_of_lt_of_le,Nat.lt_of_le_of_lt]
theorem LS.same(S:LS s0 h L cT cA T ty m)(k:Heap.SameBut L h h')(n:h'.Ns L m'):LS s0 h' L cT cA T ty m':=
  S.mono (fun a o _ h2 e=>(k.2 a h2).trans e) n (Nat.le_of_eq k.1.symm)
end
end Mi
namespace Mi
open MeetsSeq MeetsSeq2 MeetsSeq3 SeqRoads2 SeqAt
noncomputable def ZV:Arguments:=match (fb 14)[(1:Nat)]? with
  | some (.FunctionDef _ p _ _ _ _ _ _ _ _)=>p
  | _=>default
noncomputable def rdScope:Scope:=match (fb 14)[(1:Nat)]? with
  | some (.FunctionDef _ _ _ _ _ _ s _ _ _)=>s
  | _=>default
noncomputable def rdPos:Pos:=match (fb 14)[(1:Nat)]? with
  | some (.FunctionDef _ _ _ _ _ _ _ _ _ p)=>p
  | _=>default
noncomputable def lmParams:Arguments:=match (fb 14)[(2:Nat)]? with
  | some (.Assign _ (.Lambda p _ _ _) _)=>p
  | _=>default
noncomputable def lmBody:Expr:=match (fb 14)[(2:Nat)]? with
  | some (.Assign _ (.Lambda _ b _ _) _)=>b
  | _=>default
noncomputable def lmScope:Scope:=match (fb 14)[(2:Nat)]? with
  | some (.Assign _ (.Lambda _ _ s _) _)=>s
  | _=>default
noncomputable def lmPos:Pos:=match (fb 14)[(2:Nat)]? with
  | some (.Assign _ (.Lambda _ _ _ p) _)=>p
  | _=>default
noncomputable def lxFd(P:Params):FuncData:=fdOf (obAt (hd1.heap_39 P) 105)
noncomputable abbrev lxEnv(P:Params)(L:Addr):Env:=(fmFn (lxFd P) L 105 Za).env
noncomputable def rdClos(L:Addr):List (Str × Addr):= [("text",L+1),("at",L+2)]
theorem lx_clos(P:Params)(L:Addr):closureFor rdScope (lxEnv P L)=pure (rdClos L):=by rfl
theorem lx_clos2(P:Params)(L:Addr):closureFor lmScope (lxEnv P L)=pure []:=by rfl
theorem lx_code(P:Params)(L:Addr):(lxEnv P L).code = .ref 104:=by kernel_rfl
theorem lx_glob(P:Params)(L:Addr):(lxEnv P L).globals=mainGlobals:=by kernel_rfl
theorem lx_loc(P:Params)(L:Addr):(lxEnv P L).locals=L:=by kernel_rfl
theorem lx_k1(P:Params)(L:Addr):(lxEnv P L).kindOf "_law_read_on"=some .local:=by kernel_rfl
theorem lx_k2(P:Params)(L:Addr):(lxEnv P L).kindOf "stream"=some .local:=by kernel_rfl
theorem lx_kind(P:Params)(L:Addr):(lxEnv P L).scope.kind = .function:=by kernel_rfl
theorem lx_q(P:Params)(L:Addr):qualnameIn (lxEnv P L) "_law_read_on" "_law_read_on"="_law_lexer.<locals>._law_read_on":=by kernel_rfl
theorem lx_q2(P:Params)(L:Addr):(lxEnv P L).qual++"<lambda>"=("_law_lexer.<locals>.<lambda>":Str):=by kernel_rfl
structure LW(G:Gd)(P:Params)(s0:Shared):Prop where
  K:GOk G
  X:(hd1.heap_39 P).In G.h0
  C:CodeHd G.h0 104 100
  BA:G.h0.BuiltinsAt G.mg 100
  none:G.h0.get? 100=none
  base:∀a o,G.h0.get? a=some o→s0.heap.get? a=some o
noncomputable abbrev rdQ:Str:="_law_lexer.<locals>._law_read_on"
noncomputable abbrev lmQ:Str:="_law_lexer.<locals>.<lambda>"
noncomputable def upd(m:Str→Option Value)(x:Str)(v:Value):Str→Option Value:=fun y=>if y=x then some v else m y
section
variable {G:Gd}{P:Params}{s0 s:Shared}{L T:Addr}{ty:Value}{m:Str→Option Value}{A:Around}
theorem LW.old(W:LW G P s0){h:Heap}{cT cA:Addr}(S:LS s0 h L cT cA T ty m):∀a o,G.h0.get? a=some o→h.get? a=some o:=fun a o e=>
  S.keep a o (fun q=>by rw [q,W.none] at e; contradiction) (W.base a o e)
theorem BuiltinsAt.mono{h h':Heap}{mg:Str→Option Value}{Pl:Addr}(b:h.BuiltinsAt mg Pl)(k:∀a o,h.get? a=some o→h'.get? a=some o):h'.BuiltinsAt mg Pl:=by
  refine xe26 b fun bm o h1 h2 h3 h4 h5 h6=>?_
  exact ⟨bm,o,h1,h2,h3,h4,k _ _ h5,h6⟩
theorem LS.fresh{h:Heap}{cT cA:Addr}(S:LS s0 h L cT cA T ty m){f:Addr}(hf:h.objs.size≤f):f≠L∧f≠100∧s0.heap.objs.size≤f:=by
  have h1:=S.ns.lt
  have h2:=S.h100
  have h3:=S.sz
  exact ⟨Nat.ne_of_gt (Nat.lt_of_lt_of_le h1 hf),Nat.ne_of_gt (Nat.lt_of_lt_of_le h2 (Nat.le_trans h3 hf)),Nat.le_trans h3 hf⟩
theorem lx_st1(W:LW G P s0)(S:LS s0 s.heap L (L+1) (L+2) T ty m)(hP:s.heap.get? 100=some (tabObj #[])){Q:Flow→Shared→Prop}
    (k:∀f1 c' doc ctv h' tk,LS s0 h' L (L+1) (L+2) T ty (upd m "_law_read_on" (.ref f1))→s0.heap.objs.size≤f1→f1≠L→h'.get? f1=some (fnMade "_law_read_on" rdQ ZV (rb 1) rdScope (rdClos L) doc ((G.mg "__name__").getD .none) c' ctv)→h'.CodeRec (.ref c') rdQ→
      s0.heap.objs.size≤c'→h'.get? 100=some (tabObj #[rawInt rdPos.line,rawInt rdPos.col, .ref c'])→Q .next {s with heap:=h',toks:=tk}) :
    wpAny (model G.prog G.w) A (exec (.FunctionDef "_law_read_on" ZV (rb 1) [] none [] rdScope none "_law_read_on" rdPos) (lxEnv P L)) Q (fun _ _=>False) s:=by
  refine nestDef_K (by rfl) (by rfl) (by rfl) ?_
  rw [lx_q]
  refine makeFunction_K (mg:=G.mg) (P:=100) (ps:= #[]) (lx_clos P L) (lx_glob P L) (W.K.g.keeps (W.old S)) (lx_code P L) (W.C.keeps (W.old S)) hP (by trivial) (by rfl) (by decide) (BuiltinsAt.mono W.BA (W.old S)) fun c' ctv doc h' tk hx hge hlt hcr h100=>?_
  have S1:=S.push hx (Nat.le_trans hge (Nat.le_of_lt hlt)) (fnMade "_law_read_on" rdQ ZV (rb 1) rdScope (rdClos L) doc ((G.mg "__name__").getD .none) c' ctv)
  have hf:=S.fresh (f:=h'.objs.size) (Nat.le_trans hge (Nat.le_of_lt hlt))
  have hc:=S.fresh (f:=c') hge
  have ns1:Heap.Ns (h'.push (fnMade "_law_read_on" rdQ ZV (rb 1) rdScope (rdClos L) doc ((G.mg "__name__").getD .none) c' ctv)) (lxEnv P L).locals m:=by rw [lx_loc]; exact S1.ns
  refine wpAny_storeName_local (lx_k1 P L) ns1 (fun h'' hn hs=>?_) (by rw [lx_kind]; rfl)
  rw [lx_loc] at hn hs
  refine k h'.objs.size c' doc ctv h'' _ (S1.same hs hn) hf.2.2 hf.1 ((hs.2 _ hf.1).trans (Heap.get?_push_size _ rfl)) ?_ hc.2.2 ?_
  · refine xe44 hcr fun c oc vs t e1 e2 e3 e4=>?_
    cases e1
    exact ⟨c',oc,vs,t,rfl,(hs.2 _ hc.1).trans (Heap.get?_push_of_some _ e2),e3,e4⟩
  · refine (hs.2 _ ?_).trans (Heap.get?_push_of_some _ h100)
    exact Nat.ne_of_lt (Nat.lt_of_lt_of_le S.h100 S.L0)
end
end Mi
namespace Mi
open MeetsSeq MeetsSeq2 MeetsSeq3 SeqRoads2 SeqAt
section
variable {G:Gd}{P:Params}{s0 s:Shared}{L T:Addr}{ty:Value}{m:Str→Option Value}{A:Around}
theorem lx_st2(W:LW G P s0)(S:LS s0 s.heap L (L+1) (L+2) T ty m){cv:Value}{xp ap:Pos}(hP:s.heap.get? 100=some (tabObj #[rawInt rdPos.line,rawInt rdPos.col,cv])){Q:Flow→Shared→Prop}
    (k:∀f2 c' ctv h' tk,LS s0 h' L (L+1) (L+2) T ty (upd m "stream" (.ref f2))→s0.heap.objs.size≤f2→f2≠L→s.heap.objs.size≤f2→h'.get? f2=some (kla_obj "<lambda>" lmQ lmParams lmBody lmScope [] ((G.mg "__name__").getD .none) c' ctv)→
      (∀a o,a≠100→a≠L→s.heap.get? a=some o→h'.get? a=some o)→(∃ps,h'.get? 100=some (tabObj ps))→Q .next {s with heap:=h',toks:=tk}) :
    wpAny (model G.prog G.w) A (exec (.Assign [.Name "stream" xp] (.Lambda lmParams lmBody lmScope lmPos) ap) (lxEnv P L)) Q (fun _ _=>False) s:=by
  refine wpAny_Assign_Name (kla_eval (by rfl) ?_) (by rfl)
  rw [lx_q2]
  refine kla_makeFunction (mg:=G.mg) (P:=100) (ps:= #[rawInt rdPos.line,rawInt rdPos.col,cv]) (lx_clos2 P L) (lx_glob P L) (W.K.g.keeps (W.old S)) (lx_code P L) (W.C.keeps (W.old S)) hP (by exact True.intro) (by rfl) (by decide) (BuiltinsAt.mono W.BA (W.old S)) fun c' ctv h' tk hx hge hlt hcr h100=>?_
  have S1:=S.push hx (Nat.le_trans hge (Nat.le_of_lt hlt)) (kla_obj "<lambda>" lmQ lmParams lmBody lmScope [] ((G.mg "__name__").getD .none) c' ctv)
  have hf:=S.fresh (f:=h'.objs.size) (Nat.le_trans hge (Nat.le_of_lt hlt))
  have ns1:Heap.Ns (h'.push (kla_obj "<lambda>" lmQ lmParams lmBody lmScope [] ((G.mg "__name__").getD .none) c' ctv)) (lxEnv P L).locals m:=by rw [lx_loc]; exact S1.ns
  refine wpAny_storeName_local (lx_k2 P L) ns1 (fun h'' hn hs=>?_) (by rw [lx_kind]; rfl)
  rw [lx_loc] at hn hs
  refine k h'.objs.size c' ctv h'' _ (S1.same hs hn) hf.2.2 hf.1 (Nat.le_trans hge (Nat.le_of_lt hlt)) ((hs.2 _ hf.1).trans (Heap.get?_push_size _ rfl)) ?_ ⟨_,(hs.2 _ ?_).trans (Heap.get?_push_of_some _ h100)⟩
  · intro a o h1 h2 e
    exact (hs.2 _ h2).trans (Heap.get?_push_of_some _ (hx _ _ h1 e))
  · exact Nat.ne_of_lt (Nat.lt_of_lt_of_le S.h100 S.L0)
theorem lx_st3(W:LW G P s0)(S:LS s0 s.heap L (L+1) (L+2) T ty m){f1 f2:Addr}{o2:Obj}{fd2:FuncData}{p1 p2 tp ap:Pos}(h1:m "_law_read_on"=some (.ref f1)) (h2:m "stream"=some (.ref f2)) (e2:s.heap.get? f2=some o2) (c2:o2.cls = .type "function") (d2:o2.data = .func fd2) (x2:o2.dict=none) (n2:s0.heap.objs.size≤f2) (l2:f2≠L) {Q:Flow→Shared→Prop}
    (k:∀D' h' tk,LS s0 h' L (L+1) (L+2) T ty m→s0.heap.objs.size≤D'→h'.get? f2=some {cls:=o2.cls,dict:=some D',data:=o2.data,slots:=o2.slots}→h'.Ns1 D' (fun y=>if y="read" then some (.ref f1) else none)→(∀a o,a≠f2→s.heap.get? a=some o→h'.get? a=some o)→Q .next {s with heap:=h',toks:=tk}) :
    wpAny (model G.prog G.w) A (exec (.Assign [.Attribute (.Name "stream" p1) "read" tp] (.Name "_law_read_on" p2) ap) (lxEnv P L)) Q (fun _ _=>False) s:=by
  have ns:Heap.Ns s.heap (lxEnv P L).locals m:=by rw [lx_loc]; exact S.ns
  refine plainObj_wpAny_Assign_Attribute (wpAny_Name (wpAny_loadName_local (lx_kind P L) (lx_k1 P L) ns h1 ?_) (by decide)) (by rfl)
  refine wpAny_Name (wpAny_loadName_local (lx_kind P L) (lx_k2 P L) ns h2 ?_) (by decide)
  have S':=S
  obtain ⟨hp,g,d,tk,os⟩:=s
  refine yk (fn_setattr e2 c2 d2 x2 fn_read fun h' D' tk' hD hf hn hk hz=>?_)
  have S1:LS s0 h' L (L+1) (L+2) T ty m:=by
    refine ⟨fun a o ha e=>hk a o (fun q=>?_) (S'.keep a o ha e),Nat.le_trans S'.sz hz,S'.ns.at' (fun o e=>hk _ _ (Ne.symm l2) e),S'.L0,?_,S'.ct0,?_,S'.ca0,?_,S'.t0,S'.h100⟩
    · subst q
      exact absurd (Heap.lt_size e) (Nat.not_lt.mpr n2)
    · refine xe12 S'.ct fun o e dd=>?_
      refine ⟨o,hk _ _ (fun q=>?_) e,dd⟩
      subst q
      have e2':hp.get? (L+1)=some o2:=e2
      have e':hp.get? (L+1)=some o:=e
      rw [e2'] at e'; cases e'
      rw [d2] at dd; contradiction
    · refine xe12 S'.ca fun o e dd=>?_
      refine ⟨o,hk _ _ (fun q=>?_) e,dd⟩
      subst q
      have e2':hp.get? (L+2)=some o2:=e2
      have e':hp.get? (L+2)=some o:=e
      rw [e2'] at e'; cases e'
      rw [d2] at dd; contradiction
    · refine xe21 S'.tl fun t n e=>?_
      refine ⟨t,n,hk _ _ (fun q=>?_) e⟩
      subst q
      have e2':hp.get? T=some o2:=e2
      have e':hp.get? T=some _:=e
      rw [e2'] at e'; cases e'
      contradiction
  exact k D' h' tk' S1 (Nat.le_trans S'.sz hD) hf hn hk
end
end Mi
namespace Mi
open MeetsSeq MeetsSeq2 MeetsSeq3 SeqRoads2 SeqAt
theorem clsAt1{h:Heap}{P:Params}(X:(hd1.heap_39 P).In h):ClsAt h 80 79 (mN1 P) where
  obj:=by
    have:=X 80 (obAt (hd1.heap_39 P) 80) (by kernel_rfl)
    exact ⟨_,_,_,_,_,_,_,_,_,_,_,_,this⟩
  ns:=(cls1' X).ns
theorem AOk.make{r:Nat}{A:Around}(h:AOk (r+1) A)(C:Addr)(vals:List Value):AOk r (A.under (.builtin "type.__call__" ⟨.ref C::vals, []⟩)):=
  ⟨h.handled,by have:=h.depth; show A.depth+1+_≤_; lia,by have:=h.units; simp only [units_under_make]; lia⟩
theorem lx_k3(P:Params)(L:Addr):(lxEnv P L).kindOf "_netrclex"=some .globalImplicit:=by kernel_rfl
theorem in_iter{G:Gd}{P:Params}(X:(hd1.heap_39 P).In G.h0)(K:GOk G):BI G "iter" (.builtin "iter"):=
  K.bi ((mg_at X K.g (o:=obAt (hd1.heap_39 P) 3) (by kernel_rfl) ("iter":Str)).trans (by kernel_rfl)) (by kernel_rfl) (by decide +kernel) (by kernel_rfl)
theorem lx_of{G:Gd}{P:Params}(X:(hd1.heap_39 P).In G.h0)(K:GOk G){D:Addr}{o:Obj}(ho:G.h0.get? (G.cst 0)=some o)(hc:o.cls = .ref 80)(hd:∀c,o.data ≠ .cls c)(hx:o.dict=some D)(ne:D≠G.cst 0)(neC:G.cst 0≠80)(fx:G.fix[1]?=some D):LX G 80 79 D (mN1 P) where
  L:=⟨cls1' X,⟨o,ho,hc,hd,hx⟩,ne,neC,fx⟩
  pushback:=(Zr P).1
  lineno:=(Zr P).2.1
  instream:=(Zr P).2.2.1
  whitespace:=(Zr P).2.2.2.1
  iter:=in_iter X K
section
variable {G:Gd}{P:Params}{s0 s:Shared}{L T:Addr}{ty:Value}{m:Str→Option Value}{A:Around}{r:Nat}
theorem nns{α:Type}{x:Option α}{a:α}{C:Prop}(h:x=none)(h':x=some a):C:=nomatch h.symm.trans h'
theorem all3{P:Addr→Prop}{a b c:Addr}(h1:P a)(h2:P b)(h3:P c):∀x∈ [a,b,c],P x:=
  List.forall_mem_cons.mpr ⟨h1,List.forall_mem_cons.mpr ⟨h2,List.forall_mem_cons.mpr ⟨h3,nofun⟩⟩⟩
structure LM(G:Gd)(P:Params)(g:Array GenState)(d:Drawn)(tk:Nat)(os:OsState)(h8:Heap)(x dx f2 T:Addr):Prop where
  K:GOk (Zo G h8 [100,T,dx] x f2 [T,dx] G.bnd)
  X:(hd1.heap_39 P).In (Zo G h8 [100,T,dx] x f2 [T,dx] G.bnd).h0
  L:LX (Zo G h8 [100,T,dx] x f2 [T,dx] G.bnd) 80 79 dx (mN1 P)
  I:Inv (Zo G h8 [100,T,dx] x f2 [T,dx] G.bnd) [T,dx] [.list [.int 0], .ns []] ⟨h8,g,d,tk,os⟩
  inb:∀a o,G.h0.get? a=some o→(Zo G h8 [100,T,dx] x f2 [T,dx] G.bnd).h0.get? a=some o
  xT:x≠T
theorem lx_made{hp h8:Heap}{x dx f2:Addr}{ox oC:Obj}{g:Array GenState}{d:Drawn}{tk:Nat}{os:OsState}(W:LW G P s0)(S:LS s0 hp L (L+1) (L+2) T ty m)(h100:∃ps,hp.get? 100=some (tabObj ps))(hgens:g= #[])(hos:os=G.os)
    (x1:h8.get? x=some ox) (x2:ox.cls = .ref 80) (x3:∀c,ox.data ≠ .cls c) (x5:ox.dict=some dx) (nX:hp.get? x=none) (nD:hp.get? dx=none) (kp:∀a o,hp.get? a=some o→h8.get? a=some o) (ne:dx≠x) (ns:h8.Ns1 dx fun _=>none) (hC:hp.get? 80=some oC) :
    LM G P g d tk os h8 x dx f2 T:=by
  refine xe21 S.tl fun tT nT eT=>h100.elim fun ps e100=>?_
  have old:=W.old S
  have hTdx:T≠dx:=fun q=>nns (q▸nD) eT
  have hTx:x≠T:=fun q=>nns (q▸nX) eT
  have nn:∀{a:Addr},hp.get? a=none→G.h0.get? a=none:=fun {a} h=>by
    cases e:G.h0.get? a with
    | none=>rfl
    | some o=>exact nns h (old a o e)
  have hidn:∀a∈ [100,T,dx],G.h0.get? a=none:=all3 (P:=fun a=>G.h0.get? a=none) W.none (by
    cases e:G.h0.get? T with
    | none=>rfl
    | some o=>exact absurd (Heap.lt_size (W.base _ _ e)) (Nat.not_lt.mpr S.t0)) (nn nD)
  have old8:∀a o,G.h0.get? a=some o→h8.get? a=some o:=fun a o e=>kp _ _ (old a o e)
  have inb:=rebase_in (x:=x) (f2:=f2) (fix:= [T,dx]) (bnd:=G.bnd) old8 hidn
  have K3:GOk (Zo G h8 [100,T,dx] x f2 [T,dx] G.bnd):=rebase_ok W.K old8 hidn
  have X3:(hd1.heap_39 P).In (Zo G h8 [100,T,dx] x f2 [T,dx] G.bnd).h0:=W.X.keeps inb
  have hx:x∉ [100,T,dx]:=fun q=>all3 (P:=(x≠ ·)) (fun (q:x=100)=>nns (q▸nX) e100) hTx (Ne.symm ne) x q rfl
  refine ⟨K3,X3,lx_of X3 K3 (o:=ox) (rebase_get x1 hx) x2 x3 x5 ne (fun (q:x=80)=>nns (q▸nX) hC) rfl,⟨fun a o e=>rebase_of e,fun a ha=>⟨rebase_none (List.mem_cons_of_mem _ ha),?_⟩,by simp [hTdx],rfl,fun l a o e1 e2=>?_,hgens,hos, [],rfl⟩,inb,hTx⟩
  · exact (List.mem_cons.mp ha).elim (fun q=>q▸Heap.lt_size (kp _ _ eT)) fun q=>List.mem_singleton.mp q▸ns.lt
  · cases l with
    | zero=>exact se1 e1 (se1 e2 ⟨_,_,kp _ _ eT,by decide,⟨_, [],rfl,⟨tT,rfl⟩,rfl⟩⟩)
    | succ l=>cases l with
      | zero=>exact se1 e1 (se1 e2 ⟨_,ns,fun _ _=>rfl,fun z v hz=>by cases hz⟩)
      | succ l=>contradiction
theorem lx_st4(W:LW G P s0)(S:LS s0 s.heap L (L+1) (L+2) T ty m)(ak:AOk (r+2) A){f2:Addr}{p1 p2 cp rp:Pos}(h2:m "stream"=some (.ref f2)) (h100:∃ps,s.heap.get? 100=some (tabObj ps)) (hgens:s.gens= #[]) (hos:s.os=G.os) {Q:Flow→Shared→Prop}
    (k:∀h8 x dx Pb s',Inv (Zo G h8 [100,T,dx] x f2 [T,dx] G.bnd) [T,dx,Pb] [.list [.int 0], .ns (nsLex 2), .list []] s'→(∀a o,a≠T→s.heap.get? a=some o→s'.heap.get? a=some o)→s.heap.objs.size≤s'.heap.objs.size→s.heap.get? x=none→s.heap.get? dx=none→s.heap.objs.size≤Pb→
      (∃ox,s'.heap.get? x=some ox∧ox.cls = .ref 80∧(∀c,ox.data ≠ .cls c)∧ox.dict=some dx)→dx≠x→(∀a o,G.h0.get? a=some o→(Zo G h8 [100,T,dx] x f2 [T,dx] G.bnd).h0.get? a=some o)→Q (.ret (.ref x)) s') :
    wpAny (model G.prog G.w) A (exec (.Return (some (.Call (.Name "_netrclex" p1) [.Name "stream" p2] [] cp)) rp) (lxEnv P L)) Q (fun _ _=>False) s:=by
  refine wpAny_Return_some ?_
  simp only [yc]
  have hg:G.mg "_netrclex"=some (.ref 80):=(mg_at W.X W.K.g (o:=obAt (hd1.heap_39 P) 3) (by kernel_rfl) ("_netrclex":Str)).trans (by kernel_rfl)
  have old:=W.old S
  refine wpAny_bind (Calls.Name_function_global (lx_kind P L) (lx_k3 P L) (Calls.loadGlobal_global (mg:=G.mg) (by rw [lx_glob]; exact W.K.g.keeps old) hg ?_) (by decide))
  have ns:Heap.Ns s.heap (lxEnv P L).locals m:=by rw [lx_loc]; exact S.ns
  refine callWith_cls (h₀:=G.h0) (C:=80) (N:=79) (mN:=mN1 P) (clsAt1 W.X) (wpAny_items_cons (wpAny_Name (wpAny_loadName_local (lx_kind P L) (lx_k2 P L) ns h2 (wpAny_items_nil ⟨old,?_⟩)) (by decide)) (by rfl)) (by rfl) (by rfl)
  have S':=S
  obtain ⟨hp,g,d,tk,os⟩:=s
  refine xe11 h100 fun ps e100=>?_
  have X8:(hd1.heap_39 P).In hp:=W.X.keeps old
  obtain ⟨nm,q,bs,sn,sub,col,dd,k0,k1,k2,k3,k5,hC⟩:=(clsAt1 X8).obj
  have hI:=X8 56 (obAt (hd1.heap_39 P) 56) (by kernel_rfl)
  refine wpAny_call_obj_init PySem.F.objNew hC (clsAt1 X8).ns (Zr P).2.2.2.2.2.2.2 hI (by kernel_rfl) fun h8 x dx Mk=>?_
  refine xe14 Mk.inst fun ox x1 x2 x3 x4=>?_
  have x5:=Mk.dict ox x1
  have hne:dx≠x∧h8.Ns1 dx fun _=>none:=x4.elim (fun q=>nomatch q.1.symm.trans x5) fun q=>q.elim fun d' q=>Option.some.inj (q.1.symm.trans x5)▸q.2
  have M:LM G P g d tk os h8 x dx f2 T:=lx_made W S' ⟨ps,e100⟩ hgens hos x1 x2 x3 x5 Mk.newX Mk.newD Mk.keeps hne.1 hne.2 hC
  refine wpAny_call (enter_fn (r:=r) (vs:= [.cst 0, .cst 1]) M.K (fn_init M.X) (ak.make _ _) M.I ⟨_,_,rfl,rfl,_,_,rfl,rfl,rfl⟩ rfl fun s₁ L' hz1 hL' ak' O' I' st' F' hown=>?_)
  refine wpAny_mono (s_init M.K M.L _ _ [T,dx] _ _ s₁ _ _ _ ak' O' I' F' (f_init_eq _)) (fun f s₂ q₂=>xe14 q₂ fun μ₂ st₂ I₂ F₂ q₃=>(q₃:f=_)▸⟨rfl,?_⟩) fun _ _ x=>x
  have st:=((st'.of0 (W:=Own cx_init _)).trans st₂)
  refine xe12 st.pre fun ν e hν=>?_
  have hl:μ₂.length=3:=I₂.len
  have hν1:∃Pb,ν= [Pb]:=by
    rw [e] at hl
    cases ν with
    | nil=>cases hl
    | cons a t=>cases t with
      | nil=>exact ⟨a,rfl⟩
      | cons b t=>cases hl
  refine hν1.elim fun Pb e'=>?_
  subst e'
  subst e
  have keep:∀a o,a≠T→a≠dx→h8.get? a=some o→s₂.heap.get? a=some o:=fun a o h1 h3 e=>
    st.keep a o (by simp [h1,h3]) (fun q=>absurd (Heap.lt_size e) (Nat.not_lt.mpr (hown a q))) e
  exact k h8 x dx Pb s₂ I₂ (fun a o h1 e=>keep a o h1 (fun q=>nns (q▸Mk.newD) e) (Mk.keeps _ _ e)) (Nat.le_trans Mk.grows st.sz) Mk.newX Mk.newD (Nat.le_trans Mk.grows (hν Pb List.mem_cons_self)) ⟨ox,keep x ox M.xT hne.1.symm x1,x2,x3,x5⟩ hne.1 M.inb
end
end Mi
namespace Mi
open MeetsSeq MeetsSeq2 MeetsSeq3 SeqRoads2 SeqAt
theorem nsLex_none{p q:Nat}{x:Str}(h:(nsLex p).lookup x=none):(nsLex q).lookup x=none:=by
  unfold nsLex at h ⊢
  simp only [List.lookup_cons] at h ⊢
  split <;> simp_all
  split <;> simp_all
  split <;> simp_all
  split <;> simp_all
theorem nsLex_some{p q:Nat}{x:Str}{v:V}(h:(nsLex q).lookup x=some v):∃w,(nsLex p).lookup x=some w∧((w=v∧(v = .int 1∨v = .cst 1∨v = .str [10,9,13,32]))∨(w = .loc p∧v = .loc q)):=by
  unfold nsLex at h ⊢
  simp only [List.lookup_cons] at h ⊢
  split at h
  · rename_i e; simp_all
  · split at h
    · rename_i e; simp_all
    · split at h
      · rename_i e; simp_all
      · split at h
        · rename_i e; simp_all
        · contradiction
theorem inv_swap{G3 G':Gd}{T D Pb:Addr}{s:Shared}(I:Inv G3 [T,D,Pb] [.list [.int 0], .ns (nsLex 2), .list []] s)(hb:∀a o,G'.h0.get? a=some o→s.heap.get? a=some o)(hn:∀a∈ [Pb,D,T],G'.h0.get? a=none)(hc:G'.cst 1=G3.cst 1)(hos:G'.os=G3.os)(hf:G'.fix= [Pb,D,T]) :
    Inv G' [Pb,D,T] [.list [], .ns (nsLex 0), .list [.int 0]] s where
  base:=hb
  new:=fun a ha=>⟨hn a ha,(I.new a (by simp at ha ⊢; rcases ha with h | h | h <;> simp [h])).2⟩
  nodup:=by
    have:=I.nodup
    simp at this ⊢
    obtain ⟨⟨h1,h2⟩,h3⟩:=this
    exact ⟨⟨Ne.symm h3,Ne.symm h2⟩,Ne.symm h1⟩
  len:=rfl
  obj:=fun l a o e1 e2=>by
    rcases l with _ | _ | _ | l
    · refine se1 e1 ?_; cases e2
      refine xe23 (I.obj 2 Pb _ rfl rfl) fun items n h1 h2 h3=>?_
      exact ⟨items,n,h1,h2,h3⟩
    · refine se1 e1 ?_; cases e2
      refine xe13 (I.obj 1 D _ rfl rfl) fun m h1 h2 h3=>?_
      refine ⟨m,h1,fun x hx=>h2 x (nsLex_none hx),fun x v hx=>?_⟩
      refine xe12 (nsLex_some (p:=2) hx) fun w e hw=>?_
      refine xe12 (h3 x w e) fun y e5 e6=>?_
      refine ⟨y,e5,?_⟩
      rcases hw with ⟨rfl,rfl | rfl | rfl⟩ | ⟨rfl,rfl⟩
      · exact e6
      · show y=_
        refine rg hc ?_; exact e6
      · exact e6
      · refine xe12 e6 fun b g1 g2=>?_
        cases g1
        exact ⟨Pb,rfl,g2⟩
    · refine se1 e1 ?_; cases e2
      obtain ⟨items,n,h1,h2,y,ys,h3,h4,h5⟩:=I.obj 0 T _ rfl rfl
      exact ⟨items,n,h1,h2,y,ys,h3,h4,h5⟩
    · contradiction
  gens:=I.gens
  os:=I.os.trans hos.symm
  fix:=⟨[],by refine rg hf ?_; rfl⟩
noncomputable abbrev lexG(G:Gd)(s':Shared)(hid:List Addr)(x f2 Pb D T:Addr):Gd:=Zo G s'.heap (hid++ [100,Pb,D,T]) x f2 [Pb,D,T] (methodObj (.ref 63) (.ref x))
theorem rd_fn{G':Gd}{text:List Nat}{L T Pb D f1 c':Addr}{ty doc pm ctv:Value}
    (hf:G'.h0.get? f1=some (fnMade "_law_read_on" rdQ ZV (rb 1) rdScope (rdClos L) doc pm c' ctv)) (hc:G'.h0.CodeRec (.ref c') rdQ) (ct:G'.h0.IsCell (L+1) (some ty)) (ca:G'.h0.IsCell (L+2) (some (.ref T))) (hx:G'.fix= [Pb,D,T]) (ht:okS text∧∃t,ty = .str ⟨text.toArray⟩ t) :
    FnAtC G' f1 (fnX "_law_read_on" rdQ ZV (rb 1) rdScope (rdClos L) .none .none doc pm none (.ref c') ctv) (rb 1) ["size"] yg [.undef, .loc 2, .str text] where
  obj:=⟨_,hf,rfl⟩
  code:=hc
  body:=rfl
  bind:=ar1 fun a=>by rfl
  glob:=rfl
  blt:=rfl
  names:=by kernel_rfl
  kind:=by kernel_rfl
  co:=by kernel_rfl
  gen:=by kernel_rfl
  ok:=by kernel_rfl
  nocell:=by
    show ∀x∈rdScope.names,x.2≠NameKind.cell
    decide +kernel
  par:=by kernel_rfl
  parl:=fun i hi=>by
    have:i=0:=by simp at hi; omega
    subst this
    exact ⟨"size",by kernel_rfl⟩
  len:=by kernel_rfl
  loc:=fun i x e=>by
    rcases i with _ | _ | _ | i
    · rfl
    · have:(yg.xs[2]?:Option (Str × VK))=some (("at":Str),VK.fre):=by kernel_rfl
      have e:yg.xs[2]?=some (x, .loc):=e
      rw [this] at e; cases e
    · have:(yg.xs[3]?:Option (Str × VK))=some (("text":Str),VK.fre):=by kernel_rfl
      have e:yg.xs[3]?=some (x, .loc):=e
      rw [this] at e; cases e
    · have:(yg.xs[1+(i+3)]?:Option (Str × VK))=none:=by
        rw [List.getElem?_eq_none]
        show (4:Nat)≤_
        lia
      have e:yg.xs[1+(i+3)]?=some (x, .loc):=e
      rw [this] at e; contradiction
  fre:=fun i x k e hk=>by
    rcases i with _ | _ | _ | i
    · have:(yg.xs[1]?:Option (Str × VK))=some (("sign":Str),VK.loc):=by kernel_rfl
      have e:yg.xs[1]?=some (x,k):=e
      rw [this] at e; cases e
      exact absurd rfl hk
    · have:(yg.xs[2]?:Option (Str × VK))=some (("at":Str),VK.fre):=by kernel_rfl
      have e:yg.xs[2]?=some (x,k):=e
      rw [this] at e; cases e
      refine ⟨L+2, .loc 2, .ref T,rfl,by rfl,ca,rfl,fun μ σ s I=>⟨T,I.fixed (by refine rg hx ?_; rfl),rfl⟩⟩
    · have:(yg.xs[3]?:Option (Str × VK))=some (("text":Str),VK.fre):=by kernel_rfl
      have e:yg.xs[3]?=some (x,k):=e
      rw [this] at e; cases e
      refine ⟨L+1, .str text,ty,rfl,by rfl,ct,rfl,fun μ σ s I=>ht⟩
    · have:(yg.xs[1+(i+3)]?:Option (Str × VK))=none:=by
        rw [List.getElem?_eq_none]
        show (4:Nat)≤_
        lia
      have e:yg.xs[1+(i+3)]?=some (x,k):=e
      rw [this] at e; contradiction
  dist:=fun i j x y c e1 e2 l1 l2=>by
    have hm:∀(i:Nat) (x:Str),yg.xs[i]?=some (x, .fre)→(i=2∧x="at")∨(i=3∧x="text"):=fun i x e=>by
      rcases i with _ | _ | _ | _ | i
      · cases e
      · cases e
      · have:(yg.xs[2]?:Option (Str × VK))=some (("at":Str),VK.fre):=by kernel_rfl
        have e:yg.xs[2]?=some (x, .fre):=e
        rw [this] at e; cases e
        exact .inl ⟨rfl,rfl⟩
      · have:(yg.xs[3]?:Option (Str × VK))=some (("text":Str),VK.fre):=by kernel_rfl
        have e:yg.xs[3]?=some (x, .fre):=e
        rw [this] at e; refine sr2 e ?_
        exact .inr ⟨rfl,rfl⟩
      · have:(yg.xs[i+4]?:Option (Str × VK))=none:=by
          rw [List.getElem?_eq_none]
          show (4:Nat)≤_
          exact Nat.le_add_left _ _
        have e:yg.xs[i+4]?=some (x, .fre):=e
        rw [this] at e; contradiction
    have la:(rdClos L).lookup ("at":Str)=some (L+2):=by rfl
    have lt:(rdClos L).lookup ("text":Str)=some (L+1):=by rfl
    have l1:(rdClos L).lookup x=some c:=l1
    have l2:(rdClos L).lookup y=some c:=l2
    rcases hm i x e1 with ⟨rfl,rfl⟩ | ⟨rfl,rfl⟩ <;> rcases hm j y e2 with ⟨rfl,rfl⟩ | ⟨rfl,rfl⟩
    · rfl
    · rw [la] at l1; rw [lt] at l2
      cases l1
      exact absurd (Option.some.inj l2) (Nat.ne_of_lt (Nat.lt_succ_self (L+1)))
    · rw [lt] at l1; rw [la] at l2
      cases l1
      exact absurd (Option.some.inj l2) (Nat.ne_of_gt (Nat.lt_succ_self (L+1)))
    · rfl
end Mi
namespace Mi
open MeetsSeq MeetsSeq2 MeetsSeq3 SeqRoads2 SeqAt
section
variable {G:Gd}{P:Params}{s:Shared}{ty:Value}{A:Around}{r:Nat}{text:List Nat}{hid:List Addr}
theorem lx_body:∃st xp ap p1 p2 tp ap' p3 p4 cp rp,fb 14= [st, .FunctionDef "_law_read_on" ZV (rb 1) [] none [] rdScope none "_law_read_on" rdPos, .Assign [.Name "stream" xp] (.Lambda lmParams lmBody lmScope lmPos) ap, .Assign [.Attribute (.Name "stream" p1) "read" tp] (.Name "_law_read_on" p2) ap', .Return (some (.Call (.Name "_netrclex" p3) [.Name "stream" p4] [] cp)) rp]
    ∧∀(G:Gd) (r:Nat),GOk G→SS G r Za st (fAsg (fNew (zc (za (.int 0)) fNil)) (tVar 1)):=
  ⟨_,_,_,_,_,_,_,_,_,_,_,rfl,fun G r K=>zu (se_new K (zd zl zg)) (zn (i:=1) (k:= .cel) (by kernel_rfl))⟩
theorem lx_start(P:Params)(W:LW G P s)(hP:s.heap.get? 100=some (tabObj #[])){L:Addr}(hL:L=s.heap.objs.size){ν:List Addr}{s₁ s₂:Shared}(st₁:Step W0 [] [] s.heap s₁.heap)(st₂:Step (Own Za (fmFn (lxFd P) L 105 Za)) [] ν s₁.heap s₂.heap)(I₂:Inv G ν [.list [.int 0]] s₂)(F₂:FR G Za (fmFn (lxFd P) L 105 Za) ν s₂.heap [.str text, .loc 0, .undef, .undef])(hown:∀b,Own Za (fmFn (lxFd P) L 105 Za) b→s.heap.objs.size≤b) :
    ∃T y m,ν= [T]∧LS s s₂.heap L (L+1) (L+2) T y m∧okS text∧(∃t,y = .str ⟨text.toArray⟩ t)∧s₂.heap.get? 100=some (tabObj #[]):=by
  have st:=(st₁.of0 (W:=Own Za (fmFn (lxFd P) L 105 Za))).trans st₂
  have hl:=I₂.len
  obtain ⟨T,rfl⟩:∃T,ν= [T]:=by
    cases ν with
    | nil=>contradiction
    | cons a t=>cases t with
      | nil=>exact ⟨a,rfl⟩
      | cons b t=>cases hl
  refine xe11 F₂ fun m F=>?_
  refine xe12 st.pre fun ν' e1 hν=>?_
  have e1: [T]=ν':=e1
  subst e1
  refine xe13 (F.celv 0 (L+1) (.str text) (by kernel_rfl) rfl nofun) fun y0 c1 q0 q1=>?_
  obtain ⟨y1,c2,a,c3,c4⟩:=F.celv 1 (L+2) (.loc 0) (by kernel_rfl) rfl nofun
  cases c3; subst c4
  refine xe23 (I₂.obj 0 T _ rfl rfl) fun items n o1 o2 o3=>?_
  refine xe23 o3 ?_; rintro z zs rfl ⟨t,rfl⟩ o4
  have o4:zs= []:=o4
  subst o4
  have keep:∀a o,s.heap.get? a=some o→s₂.heap.get? a=some o:=fun a o e=>st.keep a o (by simp) (fun q=>absurd (Heap.lt_size e) (Nat.not_lt.mpr (hown a q))) e
  have ns:=F.ns
  have hle:∀k,s.heap.objs.size≤L+k:=fun k=>by refine rg hL ?_; exact Nat.le_add_right _ _
  exact ⟨T,y0,m,rfl,⟨fun a o _ e=>keep a o e,st.sz,ns,Nat.le_of_eq hL.symm,c1,hle 1,c2,hle 2,⟨t,n,o1⟩,hν T (by simp),Heap.lt_size hP⟩,q0,q1,keep _ _ hP⟩
theorem all4{P:Addr→Prop}{a b c d:Addr}(h1:P a)(h2:P b)(h3:P c)(h4:P d):∀x∈ [a,b,c,d],P x:=List.forall_mem_cons.mpr ⟨h1,all3 h2 h3 h4⟩
theorem ne_get{h:Heap}{a b:Addr}{o o':Obj}(e:h.get? a=some o)(e':h.get? b=some o')(hd:o.data≠o'.data):a≠b:=fun q=>hd (congrArg Obj.data (Option.some.inj (e.symm.trans (q▸e'))))
theorem none_of{h h':Heap}{a:Addr}(hb:∀a o,h.get? a=some o→h'.get? a=some o)(e:h'.get? a=none):h.get? a=none:=by
  cases q:h.get? a with
  | none=>rfl
  | some o=>exact nomatch (hb a o q).symm.trans e
structure LD(G:Gd)(s:Shared)(hid:List Addr)(s':Shared)(x f2 Pb D T:Addr):Prop where
  inv:Inv (lexG G s' hid x f2 Pb D T) [Pb,D,T] [.list [], .ns (nsLex 0), .list [.int 0]] s'
  keep:∀a o,a≠100→s.heap.get? a=some o→s'.heap.get? a=some o
  sz:s.heap.objs.size≤s'.heap.objs.size
  ps:∃ps,s'.heap.get? 100=some (tabObj ps)
  none:∀a∈ [Pb,D,T],s.heap.get? a=none
  inb:∀a o,G.h0.get? a=some o→(lexG G s' hid x f2 Pb D T).h0.get? a=some o
section
variable {s':Shared}{h₅ h8:Heap}{x f2 f1 Pb dx D' T L c':Addr}{y:Value}{m:Str→Option Value}
theorem lexer_ld(W:LW G P s)(S₅:LS s h₅ L (L+1) (L+2) T y m)(hh:∀a∈hid,G.h0.get? a=none∧a≠100∧∃o,s.heap.get? a=some o)(hP₅:∃ps,h₅.get? 100=some (tabObj ps))
    (I':Inv (Zo G h8 [100,T,dx] x f2 [T,dx] G.bnd) [T,dx,Pb] [.list [.int 0], .ns (nsLex 2), .list []] s') (keep6:∀a o,a≠T→h₅.get? a=some o→s'.heap.get? a=some o) (sz6:h₅.objs.size≤s'.heap.objs.size) (nd:h₅.get? dx=none) (nPb:h₅.objs.size≤Pb)
    (inb:∀a o,G.h0.get? a=some o→(Zo G h8 [100,T,dx] x f2 [T,dx] G.bnd).h0.get? a=some o) :
    GOk G→GOk (lexG G s' hid x f2 Pb dx T)∧LD G s hid s' x f2 Pb dx T:=fun K=>by
  have nn:∀a∈ [T,dx,Pb],G.h0.get? a=none:=fun a h=>none_of inb (I'.new a h).1
  have hidn:∀a∈hid++ [100,Pb,dx,T],G.h0.get? a=none:=fun a ha=>(List.mem_append.mp ha).elim (fun ha=>(hh a ha).1)
    (all4 (P:=fun a=>G.h0.get? a=none) W.none (nn _ (by simp)) (nn _ (by simp)) (nn _ (by simp)) a)
  have old':∀a o,G.h0.get? a=some o→s'.heap.get? a=some o:=fun a o e=>I'.base _ _ (inb a o e)
  have t0:∀{a o},s.heap.get? a=some o→a≠T:=fun e=>Nat.ne_of_lt (Nat.lt_of_lt_of_le (Heap.lt_size e) S₅.t0)
  refine ⟨rebase_ok K old' hidn,inv_swap I' (fun a o e=>rebase_of e) (fun a ha=>rebase_none (List.mem_append_right _ (List.mem_cons_of_mem _ ha))) rfl rfl rfl,fun a o h1 e=>keep6 a o (t0 e) (S₅.keep a o h1 e),Nat.le_trans S₅.sz sz6,
    hP₅.elim fun ps e=>⟨ps,keep6 _ _ (Nat.ne_of_lt (Nat.lt_of_lt_of_le S₅.h100 S₅.t0)) e⟩,all3 (P:=fun a=>s.heap.get? a=none) ?_ ?_ ?_,rebase_in old' hidn⟩
  · cases e:s.heap.get? Pb with
    | none=>rfl
    | some o=>exact absurd (Nat.lt_of_lt_of_le (Heap.lt_size e) S₅.sz) (Nat.not_lt.mpr nPb)
  · cases e:s.heap.get? dx with
    | none=>rfl
    | some o=>exact nomatch (S₅.keep dx o (fun q=>hP₅.elim fun ps h=>nns (q▸nd) h) e).symm.trans nd
  · cases e:s.heap.get? T with
    | none=>rfl
    | some o=>exact absurd rfl (t0 e)
theorem lexer_x1{D':Addr}{o2:Obj}{fd2:FuncData}{doc pm ctv:Value}{mr:Str→Option Value}(W:LW G P s)(S₅:LS s h₅ L (L+1) (L+2) T y m)(hh:∀a∈hid,G.h0.get? a=none∧a≠100∧∃o,s.heap.get? a=some o)(hP₅:∃ps,h₅.get? 100=some (tabObj ps))(K':GOk (lexG G s' hid x f2 Pb dx T))(Z:LD G s hid s' x f2 Pb dx T)
    (keep6:∀a o,a≠T→h₅.get? a=some o→s'.heap.get? a=some o) (nx:h₅.get? x=none) (nd:h₅.get? dx=none) (nPb:h₅.objs.size≤Pb) (hdx:dx≠x) (hox:∃ox,s'.heap.get? x=some ox∧ox.cls = .ref 80∧(∀c,ox.data ≠ .cls c)∧ox.dict=some dx)
    (n1:s.heap.objs.size≤f1) (e1:h₅.get? f1=some (fnMade "_law_read_on" rdQ ZV (rb 1) rdScope (rdClos L) doc pm c' ctv)) (nc:s.heap.objs.size≤c') (hc:h₅.CodeRec (.ref c') rdQ)
    (n2:s.heap.objs.size≤f2) (e2:h₅.get? f2=some {cls:=o2.cls,dict:=some D',data:=o2.data,slots:=o2.slots}) (c2:o2.cls = .type "function") (d2:o2.data = .func fd2) (nD:s.heap.objs.size≤D') (d5:h₅.Ns1 D' mr) (hr:mr "read"=some (.ref f1)) (ht:okS text∧∃t,y = .str ⟨text.toArray⟩ t) :
    X1 (lexG G s' hid x f2 Pb dx T) P text 80 79 dx (mN1 P) f1:=by
  refine xe21 S₅.tl fun tT nT eT=>?_
  have hne:∀{a o},s.heap.objs.size≤a→a≠T→h₅.get? a=some o→a∉hid++ [100,Pb,dx,T]:=fun {a o} h1 h3 e q=>(List.mem_append.mp q).elim (fun q=>(hh a q).2.2.elim fun ob e2=>absurd (Heap.lt_size e2) (Nat.not_lt.mpr h1))
    fun q=>all4 (P:=(a≠ ·)) (fun (q:a=100)=>absurd S₅.h100 (Nat.not_lt.mpr (q▸h1))) (fun (q:a=Pb)=>absurd (Heap.lt_size e) (Nat.not_lt.mpr (q▸nPb))) (fun (q:a=dx)=>nns nd (q▸e)) h3 a q rfl
  have hin:∀{a o},s.heap.objs.size≤a→h₅.get? a=some o→o.data ≠ .seq #[.int 0 tT] nT→(lexG G s' hid x f2 Pb dx T).h0.get? a=some o:=fun h1 e hd=>rebase_get (keep6 _ _ (ne_get e eT hd) e) (hne h1 (ne_get e eT hd) e)
  have cellIn:∀{c v},s.heap.objs.size≤c→h₅.IsCell c v→(lexG G s' hid x f2 Pb dx T).h0.IsCell c v:=fun h1 h=>h.elim fun o h=>⟨o,hin h1 h.1 (h.2▸nofun),h.2⟩
  refine xe14 hox fun ox gx ox1 ox2 ox3=>?_
  have hx:x∉hid++ [100,Pb,dx,T]:=fun q=>(List.mem_append.mp q).elim (fun q=>(hh x q).2.elim fun q2 h=>h.elim fun ob e2=>nns nx (S₅.keep x ob q2 e2))
    fun q=>all4 (P:=(x≠ ·)) (fun (q:x=100)=>hP₅.elim fun ps h=>nns (q▸nx) h) (fun (q:x=Pb)=>?_) (Ne.symm hdx) (fun (q:x=T)=>nns (q▸nx) eT) x q rfl
  · have X':(hd1.heap_39 P).In (lexG G s' hid x f2 Pb dx T).h0:=W.X.keeps Z.inb
    have x80:x≠80:=fun q=>by
      have h80:=(rebase_of (Z.inb 80 _ (W.X 80 (obAt (hd1.heap_39 P) 80) (by kernel_rfl)))).symm.trans (q▸gx)
      have hcl:(obAt (hd1.heap_39 P) 80).cls = .type "type":=by kernel_rfl
      have:Value.type "type" = .ref 80:=hcl.symm.trans ((congrArg Obj.cls (Option.some.inj h80)).trans ox1)
      contradiction
    have W':W1 (lexG G s' hid x f2 Pb dx T) P:=w1_of X' K'
    refine d5.ns.elim fun oD h=>xe22 h fun esD epD eD rD=>hc.elim fun cc h=>xe31 h fun oc vs tc h=>?_
    have cf:c'=cc:=Value.ref.inj h.1
    subst cf
    have hin1:=hin n1 e1 nofun
    refine ⟨W',lx_of X' K' (o:=ox) (rebase_get gx hx) ox1 ox2 ox3 hdx x80 rfl,(Zr P).2.2.2.2.1,(Zr P).2.2.2.2.2.1,(Zr P).2.2.2.2.2.2.1,⟨⟨_,_,D',_,hin n2 e2 (d2▸nofun),c2,d2,rfl,⟨oD,esD,epD,hin nD eD (rD.1▸nofun),rD.1,rD.2⟩,hr⟩,_,_,hin1,rfl⟩,
      fun r=>call_fnC K' (rd_fn hin1 ⟨c',oc,vs,tc,rfl,hin nc h.2.1 (h.2.2.1▸nofun),h.2.2.1,h.2.2.2⟩ (cellIn S₅.ct0 S₅.ct) (cellIn S₅.ca0 S₅.ca) rfl ht) (s_read W'.B),rfl⟩
  · exact xe21 (Z.inv.obj 0 Pb _ rfl rfl) fun it n g=>by
      have:Value.ref 80 = .type "list":=ox1.symm.trans (congrArg Obj.cls (Option.some.inj (gx.symm.trans (q▸g.1))))
      contradiction
end
theorem lexer_run(W:LW G P s)(I:Inv G [] [] s)(hP:s.heap.get? 100=some (tabObj #[]))(q:VR G [] s.heap (.str text) ty)(ak:AOk (r+4) A)(hh:∀a∈hid,G.h0.get? a=none∧a≠100∧∃o,s.heap.get? a=some o){Q:Value→Shared→Prop}
    (k:∀x f2 Pb D T rf s',X1 (lexG G s' hid x f2 Pb D T) P text 80 79 D (mN1 P) rf→Inv (lexG G s' hid x f2 Pb D T) [Pb,D,T] [.list [], .ns (nsLex 0), .list [.int 0]] s'→(∀a o,a≠100→s.heap.get? a=some o→s'.heap.get? a=some o)→
      s.heap.objs.size≤s'.heap.objs.size→(∃ps,s'.heap.get? 100=some (tabObj ps))→(∀a∈ [Pb,D,T],s.heap.get? a=none)→(∀a o,G.h0.get? a=some o→(lexG G s' hid x f2 Pb D T).h0.get? a=some o)→Q (.ref x) s') :
    wpAny (model G.prog G.w) A (call (.ref 105) [ty] []) Q (fun _ _=>False) s:=by
  obtain ⟨st0,xp,ap,p1,p2,tp,ap',p3,p4,cp,rp,hbody,h0⟩:=lx_body
  have N:=fn_lexer (G:=G) (P:=P) W.X
  rw [hbody] at N
  refine wpAny_call (codeAny_mono (enter_fn (R:=fun res s'=>match res with | .ok (.ret y)=>Q y s' | _=>False) (r:=r+3) (vs:= [.str text]) W.K N ak I ⟨_,_,rfl,q,rfl⟩ rfl ?_) ?_)
  · intro s₁ L hz hL ak' O I₁ st₁ F₁ hown
    refine wpAny_execs_cons ?_
    refine wpAny_mono (h0 G _ W.K _ _ [] _ _ s₁ _ _ _ ak' O I₁ F₁ rfl) (fun f s₂ q₂=>?_) fun _ _ x=>x
    refine xe14 q₂ fun μ₂ st₂ I₂ F₂ q₃=>?_
    have q₃:f = .next:=q₃
    subst q₃
    obtain ⟨T,y,m,rfl,S₂,ht,hy,hP₂⟩:=lx_start P W hP hL st₁ st₂ I₂ F₂ hown
    refine wpAny_execs_cons (lx_st1 W S₂ hP₂ fun f1 c' doc ctv h₃ tk₃ S₃ n1 l1 e1 cr1 nc1 hP₃=>?_)
    refine wpAny_execs_cons (lx_st2 W S₃ hP₃ fun f2 c2 ctv2 h₄ tk₄ S₄ n2 l2 big2 e2 keep4 hP₄=>?_)
    have m1:upd (upd m "_law_read_on" (.ref f1)) "stream" (.ref f2) "_law_read_on"=some (.ref f1):=rfl
    have m2:upd (upd m "_law_read_on" (.ref f1)) "stream" (.ref f2) "stream"=some (.ref f2):=rfl
    refine wpAny_execs_cons (lx_st3 W S₄ m1 m2 e2 rfl rfl rfl n2 l2 fun D' h₅ tk₅ S₅ nD e5 d5 keep5=>?_)
    have h100f2:(100:Addr)≠f2:=Nat.ne_of_lt (Nat.lt_of_lt_of_le S₅.h100 n2)
    have hP₅:∃ps,h₅.get? 100=some (tabObj ps):=let ⟨ps,e⟩:=hP₄; ⟨ps,keep5 _ _ h100f2 e⟩
    refine wpAny_execs_cons (lx_st4 W S₅ (ak'.le (Nat.le_succ _)) m2 hP₅ (by exact I₂.gens) (by exact I₂.os) ?_)
    intro h8 x dx Pb s' I' keep6 sz6 nx nd nPb hox hdx inb
    refine (lexer_ld W S₅ hh hP₅ I' keep6 sz6 nd nPb inb W.K).elim fun K' Z=>k x f2 Pb dx T f1 s' (lexer_x1 W S₅ hh hP₅ K' Z keep6 nx nd nPb hdx hox n1 (keep5 _ _ ?_ (keep4 _ _ (Nat.ne_of_gt (Nat.lt_of_lt_of_le S₅.h100 n1)) l1 e1)) nc1 ?_ n2 e5 rfl rfl nD d5 rfl ⟨ht,hy⟩) Z.inv Z.keep Z.sz Z.ps Z.none Z.inb
    · exact Nat.ne_of_lt (Nat.lt_of_lt_of_le (Heap.lt_size e1) big2)
    · refine cr1.elim fun cc h=>xe31 h fun oc vs tc h=>⟨cc,oc,vs,tc,h.1,?_,h.2.2⟩
      have cf:c'=cc:=Value.ref.inj h.1
      subst cf
      refine keep5 _ _ (Nat.ne_of_lt (Nat.lt_of_lt_of_le (Heap.lt_size h.2.1) big2)) (keep4 _ _ (Nat.ne_of_gt (Nat.lt_of_lt_of_le S₅.h100 nc1)) ?_ h.2.1)
      exact S₃.ns.elim fun oL h'=>xe22 h' fun esL epL eL dL=>ne_get h.2.1 eL (h.2.2.1▸dL.1▸nofun)
  · intro res s' h
    cases res with
    | error e=>exact h
    | ok f=>cases f <;> exact h
end
end Mi
namespace Mi
open MeetsSeq MeetsSeq2 MeetsSeq3 SeqRoads2 SeqAt
mutual
noncomputable def V.nc:V→Bool
  | .cst _=>false
  | .tup vs=>V.ncs vs
  | .lst vs=>V.ncs vs
  | _=>true
noncomputable def V.ncs:List V→Bool
  | []=>true
  | v::vs=>V.nc v&&V.ncs vs
end
section
variable {G G':Gd}{μ':List Addr}{h h':Heap}{ps:Array Value}{cx:Cx}{fm:Fm}{ρ:List V}
theorem ne_tab{a:Addr}{o:Obj}(h100:h.get? 100=some (tabObj ps))(e:h.get? a=some o)(hc:o.data≠(tabObj ps).data):a≠100:=fun q=>hc (congrArg Obj.data (Option.some.inj (e.symm.trans (q▸h100))))
mutual
theorem VR.change(hn:∀a∈μ',h.get? a=none)(hk:∀a o,a≠100→h.get? a=some o→h'.get? a=some o)(h100:h.get? 100=some (tabObj ps)):∀{v:V} {y:Value},VR G [] h v y→V.nc v=true→VR G' μ' h' v y
  | .undef=>fun q _=>q.elim
  | .none=>fun q _=>q
  | .bool _=>fun q _=>q
  | .int _=>fun q _=>q
  | .str _=>fun q _=>q
  | .tup _=>fun q b=>xe35 q fun a items n e1 e2 e3 e0 e4=>⟨a,items,n,e1,fun q=>nns (hn a q) e3,hk _ _ (ne_tab h100 e3 nofun) e3,e0,VRs.change hn hk h100 e4 b⟩
  | .lst _=>fun q b=>xe35 q fun a items n e1 e2 e3 e0 e4=>⟨a,items,n,e1,fun q=>nns (hn a q) e3,hk _ _ (ne_tab h100 e3 nofun) e3,e0,VRs.change hn hk h100 e4 b⟩
  | .loc _=>fun q _=>xe12 q fun a e1 e2=>nomatch e1
  | .cst _=>fun _ b=>nomatch b
theorem VRs.change(hn:∀a∈μ',h.get? a=none)(hk:∀a o,a≠100→h.get? a=some o→h'.get? a=some o)(h100:h.get? 100=some (tabObj ps)):∀{vs:List V} {ys:List Value},VRs G [] h vs ys→V.ncs vs=true→VRs G' μ' h' vs ys
  | []=>fun q _=>q
  | _::_=>fun q b=>xe23 q fun y ys e1 e2 e3=>⟨y,ys,e1,VR.change hn hk h100 e2 (Bool.and_eq_true_iff.mp b).1,VRs.change hn hk h100 e3 (Bool.and_eq_true_iff.mp b).2⟩
end
theorem FR.change(hn:∀a∈μ',h.get? a=none)(hk:∀a o,a≠100→h.get? a=some o→h'.get? a=some o)(h100:h.get? 100=some (tabObj ps))(F:FR G cx fm [] h ρ)(hρ:∀v∈ρ,V.nc v=true)(h0:∀a,Own cx fm a→G'.h0.get? a=none):FR G' cx fm μ' h' ρ:=by
  obtain ⟨m,F⟩:=F
  have cell:∀c v,h.IsCell c v→h'.IsCell c v:=fun c v ⟨o,e,d⟩=>⟨o,hk c o (fun q=>by rw [q,h100] at e; cases e; cases d) e,d⟩
  obtain ⟨oL,esL,epL,eL,dL,rL⟩:=F.ns
  refine ⟨m,⟨oL,esL,epL,hk _ _ (fun q=>by rw [q,h100] at eL; cases eL; cases dL) eL,dL,rL⟩,fun q=>(by rw [hn _ q] at eL; cases eL),h0,fun i c e=>?_,F.len,fun i x v e1 e2 e3=>?_,fun i c v e1 e2 e3=>?_⟩
  · obtain ⟨_,h2,o,q⟩:=F.cells i c e
    exact ⟨fun q'=>(by obtain ⟨oc,e',_⟩:=q; rw [hn _ q'] at e'; cases e'),h2,o,cell _ _ q⟩
  · obtain ⟨y,e4,e5⟩:=F.locv i x v e1 e2 e3
    exact ⟨y,e4,e5.change hn hk h100 (hρ v (zG e2))⟩
  · obtain ⟨y,e4,e5⟩:=F.celv i c v e1 e2 e3
    exact ⟨y,cell _ _ e4,e5.change hn hk h100 (hρ v (zG e2))⟩
end
noncomputable def fB(text:List Nat):SF:=fSeq (f_law_6 text) (fSeq (f_law_7 text) (fSeq (f_law_8 text) (fSeq (f_law_9 text) (fSeq (f_law_10 text) (fSeq (f_law_11 text) (fSeq (f_law_12 text) (fSeq (f_law_13 text) (fSeq (f_law_14 text) zh))))))))
theorem s_B{G:Gd}{P:Params}{text:List Nat}{C N D:Addr}{mN:Str→Option Value}{rf:Addr}{r:Nat}(V:X1 G P text C N D mN rf):SSs G (r+5) yt [lawS 6,lawS 7,lawS 8,lawS 9,lawS 10,lawS 11,lawS 12,lawS 13,lawS 14] (fB text):=
  ze (s_law_6 V.W.B (g__law_read V)) (ze (s_law_7 V.W.B) (ze (s_law_8 V.W.B ((g__law_leashes (r:=r+1) V.W))) (ze (s_law_9 V.W.B (g__law_roped V)) (ze (s_law_10 V.W.B (g__law_price (r:=r+3) V.W)) (ze (s_law_11 V.W.B (g__law_all_ways (r:=r+4) V.W)) (ze (s_law_12 V.W.B) (ze (s_law_13 V.W.B) (ze (s_law_14 V.W.B V.X (g__law_free (r:=r+4) V.W) ((m_get_token (r:=r+1) V))) zi))))))))
theorem lawBody:fb 24= [lawS 0,lawS 1,lawS 2,lawS 3,lawS 4,lawS 5,lawS 6,lawS 7,lawS 8,lawS 9,lawS 10,lawS 11,lawS 12,lawS 13,lawS 14]:=by kernel_rfl
theorem lawS5:∃p0 p1 p2 p3,lawS 5 = .Assign [.Name "line" p0] (.Call (.Name "_law_lexer" p1) lawArg [] p2) p3:=⟨_,_,_,_,rfl⟩
section
variable {G:Gd}{P:Params}{s:Shared}{y:Value}{A:Around}{r:Nat}{text:List Nat}{ws:List V}{ρ1 ρ2 ρ3 ρ4 ρ5 ρ':List V}{σ':List AObj}
theorem law_top(W:LW G P s)(I:Inv G [] [] s)(hP:s.heap.get? 100=some (tabObj #[]))(q:VR G [] s.heap (.lst ws) y)(ak:AOk (r+8) A)
    (e0:f_law_0 (.lst ws::List.replicate 12 .undef) []=some (.next,ρ1, [])) (e1:f_law_1 ρ1 []=some (.next,ρ2, [])) (e2:f_law_2 ρ2 []=some (.next,ρ3, [])) (e3:f_law_3 ρ3 []=some (.next,ρ4, [])) (e4:f_law_4 ρ4 []=some (.next,ρ5, []))
    (nc:∀v∈ρ5,V.nc v=true) (et:f_law_text ρ5 []=some ([.str text], []))
    (eB:fB text (ρ5.set 6 (.cst 0)) [.list [], .ns (nsLex 0), .list [.int 0]]=some (.ret (.bool true),ρ',σ')) :
    codeAny (model G.prog G.w) A (.call (.ref 167) ⟨[y], []⟩) (fun res s'=>res = .ok (.ret (.bool true))∧(∀a o,G.h0.get? a=some o→s'.heap.get? a=some o)∧s'.os=G.os∧s'.gens= #[]∧∃ps,s'.heap.get? 100=some (tabObj ps)) s:=by
  obtain ⟨p0,p1,p2,p3,h5⟩:=lawS5
  have N:=fn_law (G:=G) (P:=P) W.X
  have B:=(w1_of W.X W.K).B
  rw [lawBody] at N
  refine enter_fn (r:=r+7) (vs:= [.lst ws]) W.K N ak I ⟨_,_,rfl,q,rfl⟩ rfl ?_
  intro s₁ L hz hL ak' O I₁ st₁ F₁ hown
  have hcell:∀(i:Nat) (a:Addr),(fmFn (fdOf (obAt (hd1.heap_39 P) 167)) L 167 yt).cs[i]?=some (some a)→∃x,yt.xs[i]?=some (x, .cel):=fun i a e=>let ⟨x,e1,_⟩:=N.cellOk e; ⟨x,e1⟩
  clear N
  generalize (fmFn (fdOf (obAt (hd1.heap_39 P) 167)) L 167 yt)=fm at *
  have go:∀{st:Stmt} {f:SF} {rest:List Stmt} {ρ ρ':List V} {s₁:Shared} {Q:Flow→Shared→Prop},SS G (r+7) yt st f→f ρ []=some (.next,ρ', [])→Inv G [] [] s₁→FR G yt fm [] s₁.heap ρ→Step (Own yt fm) [] [] s.heap s₁.heap→
      (∀s₂,Inv G [] [] s₂→FR G yt fm [] s₂.heap ρ'→Step (Own yt fm) [] [] s.heap s₂.heap→wpAny (model G.prog G.w) (A.deeper fm.env) (execs rest fm.env) Q (fun _ _=>False) s₂)→
      wpAny (model G.prog G.w) (A.deeper fm.env) (execs (st::rest) fm.env) Q (fun _ _=>False) s₁:=by
    intro st f rest ρ ρ' s₁ Q H e I₁ F₁ st₁ k
    refine wpAny_execs_cons ?_
    refine wpAny_mono (H _ _ [] _ _ s₁ _ _ _ ak' O I₁ F₁ e) (fun f s₂ q₂=>?_) fun _ _ x=>x
    obtain ⟨μ₂,st₂,I₂,F₂,q₃⟩:=q₂
    have q₃:f = .next:=q₃
    subst q₃
    have hl:=I₂.len
    have:μ₂= []:=List.eq_nil_of_length_eq_zero hl
    subst this
    exact k s₂ I₂ F₂ (st₁.trans st₂)
  refine go (s_law_0 B) e0 I₁ F₁ st₁.of0 fun s₂ I₂ F₂ st₂=>?_
  refine go (s_law_1 B) e1 I₂ F₂ st₂ fun s₃ I₃ F₃ st₃=>?_
  refine go (s_law_2 B) e2 I₃ F₃ st₃ fun s₄ I₄ F₄ st₄=>?_
  refine go (s_law_3 B (g__law_word (r:=r+6) (w1_of W.X W.K))) e3 I₄ F₄ st₄ fun s₅ I₅ F₅ st₅=>?_
  refine go (s_law_4 B (g__law_dressed (r:=r+6) (w1_of W.X W.K))) e4 I₅ F₅ st₅ fun s₆ I₆ F₆ st₆=>?_
  rw [h5]
  refine wpAny_execs_cons (wpAny_Assign_Name ?_ (by rfl))
  rw [yc]
  have hg:G.mg "_law_lexer"=some (.ref 105):=(mg_at W.X W.K.g (o:=obAt (hd1.heap_39 P) 3) (by kernel_rfl) ("_law_lexer":Str)).trans (by kernel_rfl)
  refine wpAny_bind (load_global W.K O I₆ (by kernel_rfl) hg (by decide) ?_)
  have ho:=fn_lexer (G:=G) (P:=P) W.X
  obtain ⟨ol,hol,hdl⟩:=ho.obj
  refine Calls.callWith_function (o:=ol) (fd:=fdOf (obAt (hd1.heap_39 P) 105)) (z6 (by rfl) ((s_law_text B).use ak' O I₆ F₆ et fun ys s₇ μ₇ st₇ I₇ F₇ q₇=>⟨⟨I₇.base _ _ hol,hdl⟩,?_⟩))
  have hl7:=I₇.len
  have:μ₇= []:=List.eq_nil_of_length_eq_zero hl7
  subst this
  obtain ⟨ty,ys',rfl,qt,q0⟩:=q₇
  have q0:ys'= []:=q0
  subst q0
  have st:Step (Own yt fm) [] [] s.heap s₇.heap:=st₆.trans st₇.of0
  have old:∀a o,s.heap.get? a=some o→s₇.heap.get? a=some o:=fun a o e=>st.keep a o (by simp) (fun q=>absurd (Heap.lt_size e) (Nat.not_lt.mpr (hown a q))) e
  have hP₇:=old _ _ hP
  have W₇:LW G P s₇:=⟨W.K,W.X,W.C,W.BA,W.none,I₇.base⟩
  have h100:100<s.heap.objs.size:=Heap.lt_size hP
  have ownIn:∀a,Own yt fm a→a∈fm.env.locals::fm.cs.filterMap id:=fun a q=>by
    rcases q with rfl | ⟨i,x,e1,e2⟩
    · exact List.mem_cons_self
    · exact List.mem_cons_of_mem _ (List.mem_filterMap.mpr ⟨_,zG e2,rfl⟩)
  refine lexer_run (r:=r+3) (hid:=fm.env.locals::fm.cs.filterMap id) W₇ I₇ hP₇ qt ak' ?_ ?_
  · obtain ⟨m,F⟩:=F₇
    intro a ha
    rcases List.mem_cons.mp ha with rfl | ha
    · refine ⟨F.own0 _ (.inl rfl),?_,?_⟩
      · exact Nat.ne_of_gt (Nat.lt_of_lt_of_le h100 (hown _ (.inl rfl)))
      · obtain ⟨oL,_,_,eL,_⟩:=F.ns
        exact ⟨oL,eL⟩
    · obtain ⟨c,hc,e⟩:=List.mem_filterMap.mp ha
      have e:c=some a:=e
      subst e
      obtain ⟨i,hi⟩:=List.getElem?_of_mem hc
      obtain ⟨x,e1⟩:=hcell i a hi
      have hw:Own yt fm a:= .inr ⟨i,x,e1,hi⟩
      obtain ⟨_,_,o,oc,q,_⟩:=F.cells i a hi
      exact ⟨F.own0 _ hw,Nat.ne_of_gt (Nat.lt_of_lt_of_le h100 (hown _ hw)),oc,q⟩
  · intro x f2 Pb D T rf s₈ X₈ I₈ keep₈ sz₈ hP₈ fresh₈ inb
    obtain ⟨ps,hP₈⟩:=hP₈
    have F₈:=FR.change (G':=lexG G s₈ (fm.env.locals::fm.cs.filterMap id) x f2 Pb D T) (μ':= [Pb,D,T]) fresh₈ keep₈ hP₇ F₇ nc fun a q=>rebase_none (List.mem_append_left _ (ownIn a q))
    refine store_var (k:= .loc) (i:=6) (v:= .cst 0) (x:="line") O F₈ I₈ (by kernel_rfl) (by decide) rfl fun s₉ st₉ _ F₉ I₉=>?_
    refine wpAny_mono (s_B (r:=r+2) X₈ _ _ [Pb,D,T] _ _ s₉ _ _ _ ak' O I₉ F₉ eB) (fun f s' q'=>?_) fun _ _ x=>x
    obtain ⟨μ',st',I',F',y',rfl,q'⟩:=q'
    have q':y' = .bool true:=q'
    subst q'
    refine ⟨rfl,fun a o e=>I'.base _ _ (inb a o e),I'.os,I'.gens,ps,?_⟩
    refine (st₉.trans st').keep 100 _ ?_ ?_ hP₈
    · intro hm
      have:=fresh₈ 100 hm
      rw [hP₇] at this; cases this
    · exact fun q=>absurd h100 (Nat.not_lt.mpr (hown _ q))
end
end Mi
namespace Mi
noncomputable def LawEval(w:List Int):Prop:= ∃ρ1 ρ2 ρ3 ρ4 ρ5 ρ' text σ',f_law_0 (.lst (w.map .int)::List.replicate 12 .undef) []=some (.next,ρ1, [])∧f_law_1 ρ1 []=some (.next,ρ2, [])∧f_law_2 ρ2 []=some (.next,ρ3, [])∧f_law_3 ρ3 []=some (.next,ρ4, [])∧f_law_4 ρ4 []=some (.next,ρ5, [])
  ∧ (∀v∈ρ5,V.nc v=true)∧f_law_text ρ5 []=some ([.str text], [])∧fB text (ρ5.set 6 (.cst 0)) [.list [], .ns (nsLex 0), .list [.int 0]]=some (.ret (.bool true),ρ',σ')
theorem well_ints{G:Gd}{P:Params}{h:Heap}:∀(w:List Int) {vs:List Value},WellAll P h vs (w.map .int)→VRs G [] h (w.map .int) vs
  | []=>fun q=>by cases q; rfl
  | i::w=>fun q=>by
    cases q with
    | cons q1 q2=>cases q1 with
      | int i t=>exact ⟨_,_,rfl,⟨t,rfl⟩,well_ints w q2⟩
theorem ofPys_ints:∀(w:List Int),ofPys (w.map PyData.int)=w.map WData.int
  | []=>rfl
  | i::w=>by
    show WData.int i::ofPys (w.map PyData.int)=WData.int i::w.map WData.int
    rw [ofPys_ints w]
theorem well_list{G:Gd}{P:Params}{h:Heap}{a:Addr}{w:List Int}(hw:w.length≤63)(q:Well P h (.ref a) (ofPy (.list (w.map .int)))):VR G [] h (.lst (w.map .int)) (.ref a):=by
  have e:ofPy (.list (w.map PyData.int)) = .list (w.map .int):=by
    show WData.list _=_
    rw [ofPys_ints]
  rw [e] at q
  cases q with
  | list h1 h2=>
    rename_i vs
    exact ⟨a,vs,0,rfl,by simp,h1,by rw [List.length_map]; exact Nat.le_trans hw (by decide),well_ints _ h2⟩
theorem holds1(H:∀w:List Int,w.length≤63→LawEval w):PySem.Challenge.rw_pg0165_01.Holds:=hd1 (by
  k_fill
  intro w s₀ s₁ mg mb G Y fa o pm cd doc dV kV ho hd hcd hD hmg hg args vals as hpre hlay hrd hwl hlo
  have KX:=km_in_of Y
  km_tabs Y
  have X:=(Ground.X G).1
  have V:=(Ground.X G).2
  refine Ground.open G ?_
  intro T B D TE TW
  clear D
  have hmg':=hmg
  have hT9:TabsAt ([(104,100)]:List (Addr × Addr)) _:=List.forall_mem_cons.mpr ⟨⟨codeHd_of_K (c:=104) (P:=100) KX (by kernel_rfl),hT8 100 (by k_mem)⟩,fun _ h=>nomatch h⟩
  clear hmg
  wrow_args hpre hlay hrd hwl hlo
  rename_i ws hs hlay0 hL1 hr1 hl2 w4 w3 wa w1 w0 hL ra w1' r0 hI hr hc1 hc2
  have hfa:fa=167:=by
    have h1:=mg_at KX T.g (o:=obAt (hd1.heap_39 w.params) 3) (by kernel_rfl) ("law":Str)
    have h2:nsFind (esOf (obAt (hd1.heap_39 w.params) 3)) ("law":Str)=some (.ref 167):=by kernel_rfl
    have h3:mg ("law":Str)=some (.ref fa):=hmg'
    rw [h2] at h1
    rw [h3] at h1
    cases h1; rfl
  subst hfa
  have hlen:ws.length≤63:=by omega
  refine xe51 (H ws hlen) fun ρ1 ρ2 ρ3 ρ4 ρ5 h=>xe38 h fun ρ' text σ' e0 e1 e2 e3 e4 nc et eB=>xe26 T.bmain fun bm ob b1 b2 b3 b4 b5 b6=>?_
  have hP:=(hT9 _ (.head _)).2
  refine enter_call ?_
  refine kn_post hT9 (fun _ _=>rfl) ?_
  refine codeAny_mono (law_top (G:=⟨_,w,ghostOf s₁.heap [(104,100)],s₁.os,mg,mb,fun _=>0, [],default⟩) (P:=w.params) (r:=7) ?W ?I hP (well_list hlen w1') ?ak e0 e1 e2 e3 e4 nc et eB) ?post
  case W=>
    refine ⟨⟨ghost_ns hT9 T.g,ghost_ns hT9 T.b,T.builtins,?_,?_⟩,ghost_K hT9 KX (by kernel_rfl),(ghost_code hT9).1,?_,?_,fun a o e=>of_hideAll _ e⟩
    · obtain ⟨mc,a,r⟩:=T.nolimit
      exact ⟨mc,ghost_ns hT9 a,r⟩
    · obtain ⟨mc,a,r⟩:=T.nodigits
      exact ⟨mc,ghost_ns hT9 a,r⟩
    · refine ⟨bm,ob,b1,b2,?_,?_,ghost_get hT9 b3 (fun q=>by rw [q] at b4; cases b4),b4,b5,b6⟩
      · rintro rfl
        obtain ⟨og,es,ep,e,hd',_⟩:=T.g
        rw [e] at b3; cases b3; rw [hd'] at b6; cases b6
      · rintro rfl
        rw [hP] at b3; cases b3; cases b4
    · exact hideAll_none _ (by simp)
  case I=>exact ⟨fun a o e=>of_hideAll _ e,nofun,List.nodup_nil,rfl,fun l a o e=>by simp at e,hg,rfl, [],rfl⟩
  case ak=>exact ⟨rfl,by decide,by decide⟩
  case post=>
    intro res s' ⟨h1,h2,h3,h4,h5⟩
    subst h1
    refine ⟨⟨.inl ⟨.bool true, .bool true, [],rfl,fun _=>rfl, .bool true,?_,?_⟩,h2,h3,h4⟩,h5,trivial⟩
    · kernel_rfl
    · intro _
      exact ⟨List.nodup_nil,nofun⟩)
end Mi
namespace Mi
theorem ev_o0:opOf .Add=opAdd:=rfl
theorem ev_o1:opOf .Sub=opSub:=rfl
theorem ev_o2:opOf .Mult=opMul:=rfl
theorem ev_o3:opOf .FloorDiv=opFdiv:=rfl
theorem ev_o4:opOf .Mod=opMod:=rfl
theorem ev_o5:opOf .RShift=opShr:=rfl
theorem ev_a1{a b:Int}:opAdd (.int a) (.int b)=some (.int (a+b)):=rfl
theorem ev_a2{x y:List Nat}:opAdd (.str x) (.str y)=if x.length+y.length≤LIM then some (.str (x++y)) else none:=rfl
theorem ev_a3{x y:List V}:opAdd (.lst x) (.lst y)=if x.length+y.length≤LIM then some (.lst (x++y)) else none:=rfl
theorem ev_a4{a b:Int}:opSub (.int a) (.int b)=some (.int (a-b)):=rfl
theorem ev_a5{a b:Int}:opMul (.int a) (.int b)=if -1000000<a∧a<1000000 then some (.int (a*b)) else none:=rfl
theorem ev_a6{a b:Int}:opFdiv (.int a) (.int b)=if 0<b∧b<1000000000 then some (.int (a/b)) else none:=rfl
theorem ev_a7{a b:Int}:opMod (.int a) (.int b)=if 0<b then some (.int (a%b)) else none:=rfl
theorem ev_a8{a b:Int}:opShr (.int a) (.int b)=if b=1 then some (.int (a/2)) else none:=rfl
theorem ev_p1:ZB .none=some none:=rfl
theorem ev_p2{i:Int}:ZB (.int i)=some (some i):=rfl
theorem ev_c1{σ:List AObj}{a b:V}:cmpOf .Eq σ a b=Zd σ a b:=rfl
theorem ev_c2{σ:List AObj}{a b:V}:cmpOf .NotEq σ a b=(Zd σ a b).map (!·):=rfl
theorem ev_c3{σ:List AObj}{a b:V}:cmpOf .Lt σ a b=cmpLt a b:=rfl
theorem ev_c4{σ:List AObj}{a b:Int}:cmpOf .LtE σ (.int a) (.int b)=some (decide (a≤b)):=rfl
theorem ev_c5{σ:List AObj}{a b:Int}:cmpOf .Gt σ (.int a) (.int b)=some (decide (b<a)):=rfl
theorem ev_c6{σ:List AObj}{a b:Int}:cmpOf .GtE σ (.int a) (.int b)=some (decide (b≤a)):=rfl
theorem ev_c7{σ:List AObj}{a b:V}:cmpOf .In σ a b=cmpIn σ a b:=rfl
theorem ev_c8{σ:List AObj}{a b:V}:cmpOf .NotIn σ a b=(cmpIn σ a b).map (!·):=rfl
theorem ev_l1{a b:Int}:cmpLt (.int a) (.int b)=some (decide (a<b)):=rfl
theorem ev_v0{σ:List AObj}:yx σ .none=some .none:=rfl
theorem ev_v1{σ:List AObj}{b:Bool}:yx σ (.bool b)=some (.bool b):=rfl
theorem ev_v2{σ:List AObj}{i:Int}:yx σ (.int i)=some (.int i):=rfl
theorem ev_v3{σ:List AObj}{x:List Nat}:yx σ (.str x)=some (.str x):=rfl
theorem ev_v4{σ:List AObj}{vs:List V}:yx σ (.tup vs)=some (.tup vs):=rfl
theorem ev_v5{σ:List AObj}{vs:List V}:yx σ (.lst vs)=some (.lst vs):=rfl
theorem ev_v6{σ:List AObj}{n:Nat}:yx σ (.cst n)=some (.cst n):=rfl
theorem ev_v8{σ:List AObj}{l:Nat}:yx σ (.loc l)=match σ[l]? with | some (.list vs)=>some (.lst vs) | _=>none:=rfl
theorem ev_w1{σ:List AObj}{vs:List V}:yM σ (.lst vs)=some vs:=rfl
theorem ev_w2{σ:List AObj}{vs:List V}:yM σ (.tup vs)=some vs:=rfl
theorem ev_w3{σ:List AObj}{l:Nat}:yM σ (.loc l)=match σ[l]? with | some (.list vs)=>some vs | _=>none:=rfl
theorem ev_i1{σ:List AObj}{c:Nat}{x:List Nat}:cmpIn σ (.str [c]) (.str x)=some (x.contains c):=rfl
theorem ev_i2{σ:List AObj}{a:V}{vs:List V}:cmpIn σ a (.tup vs)=if V.pd 8 a∧V.pdAll 8 vs then some (vs.any fun y=>V.eqv y a) else none:=rfl
theorem ev_i3{σ:List AObj}{a:V}{vs:List V}:cmpIn σ a (.lst vs)=if V.pd 8 a∧V.pdAll 8 vs then some (vs.any fun y=>V.eqv y a) else none:=rfl
theorem ev_i4{σ:List AObj}{a:V}{l:Nat}:cmpIn σ a (.loc l)=match yx σ (.loc l) with | some (.lst vs)=>if V.pd 8 a∧V.pdAll 8 vs then some (vs.any fun y=>V.eqv y a) else none | _=>none:=rfl
theorem ev_r1{b:Int}:yW [.int b]=if rngOk 0 b 1 then some (0,b,1) else none:=rfl
theorem ev_r2{a b:Int}:yW [.int a, .int b]=if rngOk a b 1 then some (a,b,1) else none:=rfl
theorem ev_r3{a b c:Int}:yW [.int a, .int b, .int c]=if rngOk a b c then some (a,b,c) else none:=rfl
theorem ev_t1{σ:List AObj}:Zx σ .none=some false:=rfl
theorem ev_t2{σ:List AObj}{b:Bool}:Zx σ (.bool b)=some b:=rfl
theorem ev_t3{σ:List AObj}{i:Int}:Zx σ (.int i)=some (i != 0):=rfl
theorem ev_t4{σ:List AObj}{x:List Nat}:Zx σ (.str x)=some (!x.isEmpty):=rfl
theorem ev_t5{σ:List AObj}{vs:List V}:Zx σ (.tup vs)=some (!vs.isEmpty):=rfl
theorem ev_t6{σ:List AObj}{vs:List V}:Zx σ (.lst vs)=some (!vs.isEmpty):=rfl
theorem ev_t7{σ:List AObj}{l:Nat}:Zx σ (.loc l)=match σ[l]? with | some (.list vs)=>some (!vs.isEmpty) | _=>none:=rfl
mutual
noncomputable def V.nl:V→Bool
  | .loc _=>false
  | .tup vs=>V.nls vs
  | .lst vs=>V.nls vs
  | _=>true
noncomputable def V.nls:List V→Bool
  | []=>true
  | v::vs=>V.nl v&&V.nls vs
end
mutual
theorem V.blw_nl{n:Nat}:∀{v:V},V.nl v=true→V.blw n v=true
  | .undef,_ | .none,_ | .bool _,_ | .int _,_ | .str _,_ | .cst _,_=>rfl
  | .tup vs,h=>V.blws_nl (n:=n) (vs:=vs) h
  | .lst vs,h=>V.blws_nl (n:=n) (vs:=vs) h
theorem V.blws_nl{n:Nat}:∀{vs:List V},V.nls vs=true→V.blws n vs=true
  | [],_=>rfl
  | v::vs,h=>by
    rw [V.nls,Bool.and_eq_true] at h
    rw [V.blws,V.blw_nl h.1,V.blws_nl h.2]; rfl
end
theorem V.nls_iff{vs:List V}:V.nls vs=true↔∀v∈vs,V.nl v=true:=by
  induction vs with
  | nil=>trivial
  | cons v vs ih=>rw [V.nls,Bool.and_eq_true,ih]; simp
theorem V.frz_nl{n:Nat}{σ:List AObj}:∀(k:Nat) {v:V},V.nl v=true→V.frz n σ k v=v
  | 0,_,_=>rfl
  | _+1, .undef,_ | _+1, .none,_ | _+1, .bool _,_ | _+1, .int _,_ | _+1, .str _,_ | _+1, .cst _,_=>rfl
  | k+1, .tup vs,h=>by
    have h:V.nls vs=true:=h
    simp only [V.frz]
    congr 1
    have:=V.nls_iff.mp h
    exact (List.map_congr_left fun v hv=>V.frz_nl k (this v hv)).trans (List.map_id _)
  | k+1, .lst vs,h=>by
    have h:V.nls vs=true:=h
    simp only [V.frz]
    congr 1
    have:=V.nls_iff.mp h
    exact (List.map_congr_left fun v hv=>V.frz_nl k (this v hv)).trans (List.map_id _)
theorem ZZ.app{σ τ:List AObj}:ZZ σ (σ++τ):=fun l o h e=> .inl (by rwa [List.getElem?_append_left h] at e)
theorem ZZ.same{σ:List AObj}:ZZ σ σ:=fun l o h e=> .inl e
theorem finF_nl{σ σ':List AObj}{v:V}(hk:ZZ σ σ')(h:V.nl v=true):finF σ σ' v=some (v,σ'.take σ.length):=by
  unfold finF
  refine rg (V.frz_nl 6 h) ?_; refine rg (if_pos ⟨hk,V.blw_nl h⟩) ?_; rfl
theorem fnF_ret{n:Nat}{body:SF}{vs ρ':List V}{σ σ':List AObj}{v:V}(hb:body (vs++List.replicate (n-vs.length) .undef) σ=some (.ret v,ρ',σ'))(hk:ZZ σ σ')(h:V.nl v=true):fnF n body vs σ=some (v,σ'.take σ.length):=by
  unfold fnF
  refine rg hb ?_
  exact finF_nl hk h
theorem fnG_ret{n m:Nat}{body:SF}{vs ρ':List V}{σ τ:List AObj}{v:V}(hb:body (vs++List.replicate (n-vs.length) .undef) σ=some (.ret v,ρ',σ++τ))(h:V.nl v=true)(hl:vs.length=m:=by rfl):fnG n m body vs σ=some (v,σ):=by
  unfold fnG
  refine rg (if_pos hl) ?_; refine rg (fnF_ret hb ZZ.app h) ?_; refine rg List.take_left ?_; rfl
theorem fnG_ret0{n m:Nat}{body:SF}{vs ρ':List V}{σ:List AObj}{v:V}(hb:body (vs++List.replicate (n-vs.length) .undef) σ=some (.ret v,ρ',σ))(h:V.nl v=true)(hl:vs.length=m:=by rfl):fnG n m body vs σ=some (v,σ):=by
  unfold fnG
  refine rg (if_pos hl) ?_; refine rg (fnF_ret hb ZZ.same h) ?_; refine rg List.take_length ?_; rfl
theorem eqvI(a b:Int):V.eqv (.int a) (.int b)=decide (a=b):=by
  by_cases h:a=b <;> rfl
theorem eqvS(a b:List Nat):V.eqv (.str a) (.str b)=decide (a=b):=by
  by_cases h:a=b
  · subst h; exact (beq_self_eq_true a).trans (decide_eq_true rfl).symm
  · exact (beq_eq_false_iff_ne.mpr h).trans (decide_eq_false h).symm
theorem cLoop_emit{c:BF}{el:EF}{p:V→Bool}{w:V→V}{caps:List V}{σ:List AObj}:∀(vs:List V) (u:V) (acc:List V),acc.length+vs.length≤LIM→
    (∀v∈vs,∀acc,c (v::caps) (σ++ [.list acc])=some (p v,σ++ [.list acc])∧(p v=true→el (v::caps) (σ++ [.list acc])=some (w v,σ++ [.list acc])))→
    ∃u',y5 (tVar 0) c (zY el σ.length) vs (u::caps) (σ++ [.list acc])=some (u'::caps,σ++ [.list (acc++(vs.filter p).map w)])
  | [],u,acc,_,_=>⟨u,by simp [y5]⟩
  | v::vs,u,acc,hl,H=>by
    obtain ⟨h1,h2⟩:=H v List.mem_cons_self acc
    have hset:tVar 0 v (u::caps)=some (v::caps):=rfl
    rw [y5,hset]
    simp only [h1]
    cases hp:p v with
    | false=>
      simp only
      obtain ⟨u',e⟩:=cLoop_emit vs v acc (by simp at hl; exact Nat.le_of_lt ‹_›) fun v hv=>H v (List.mem_cons_of_mem _ hv)
      exact ⟨u',by rw [e,List.filter_cons,if_neg (by simp [hp])]⟩
    | true=>
      simp only
      have h3:=h2 hp
      have e3:zY el σ.length (v::caps) (σ++ [.list acc])=some (v::caps,σ++ [.list (acc++ [w v])]):=by
        unfold zY
        refine rg h3 ?_
        have hg:(σ++ [AObj.list acc])[σ.length]?=some (.list acc):=by simp
        simp only [hg]
        refine rg (if_pos (by simp at hl; lia)) ?_
        simp
      refine rg e3 ?_
      simp only
      obtain ⟨u',e⟩:=cLoop_emit vs v (acc++ [w v]) (by simp at hl ⊢; lia) fun v hv=>H v (List.mem_cons_of_mem _ hv)
      exact ⟨u',by refine rg e ?_; refine rg List.filter_cons ?_; refine rg (if_pos hp) ?_; simp⟩
theorem freezeTo_app{σ:List AObj}{ws:List V}(h:V.blws σ.length ws=true):freezeTo (σ,σ++ [.list ws])=some (.lst ws,σ):=by
  unfold freezeTo
  have hg:(σ++ [AObj.list ws])[σ.length]?=some (.list ws):=by simp
  simp only [hg]
  refine rg (if_pos ⟨trivial,h⟩) ?_; rfl
theorem fComp_if{f:EsF}{js:List (Option Nat)}{c:BF}{el:EF}{p:V→Bool}{w:V→V}{ρ caps vs:List V}{σ:List AObj}{u:V}(hf:f ρ σ=some (vs,σ))(hρ:ρin js ρ=u::caps)(hl:vs.length≤LIM)
    (H:∀v∈vs,∀acc,c (v::caps) (σ++ [.list acc])=some (p v,σ++ [.list acc])∧(p v=true→el (v::caps) (σ++ [.list acc])=some (w v,σ++ [.list acc]))) (hn:∀v∈vs,p v=true→V.nl (w v)=true) :
    yh .frz f js (tVar 0) c (zY el) ρ σ=some (.lst ((vs.filter p).map w),σ):=by
  unfold yh fCompR
  refine rg hf ?_
  simp only [hρ]
  obtain ⟨u',e⟩:=cLoop_emit vs u [] (by simpa using hl) H
  refine rg e ?_
  simp only [Option.bind_some,List.nil_append]
  refine freezeTo_app (V.blws_nl (V.nls_iff.mpr fun v hv=>?_))
  obtain ⟨x,hx,rfl⟩:=List.mem_map.mp hv
  exact hn x (List.mem_filter.mp hx).1 (List.mem_filter.mp hx).2
theorem Zv{f:EsF}{js:List (Option Nat)}{el:EF}{w:V→V}{ρ caps vs:List V}{σ:List AObj}{u:V}(hf:f ρ σ=some (vs,σ))(hρ:ρin js ρ=u::caps)(hl:vs.length≤LIM)
    (H:∀v∈vs,∀acc,el (v::caps) (σ++ [.list acc])=some (w v,σ++ [.list acc])) (hn:∀v∈vs,V.nl (w v)=true) :
    yh .frz f js (tVar 0) zU (zY el) ρ σ=some (.lst (vs.map w),σ):=by
  have:=fComp_if (c:=zU) (p:=fun _=>true) hf hρ hl (fun v hv acc=>⟨rfl,fun _=>H v hv acc⟩) (fun v hv _=>hn v hv)
  refine rg this ?_
  congr 4
  exact List.filter_eq_self.mpr fun _ _=>rfl
end Mi
namespace Mi
noncomputable def sig:List Nat:= [97,65,98,32,34,92]
noncomputable def wd(n:Nat):List Nat:=sig.getD (n%6) 0::(sig[n/6%7]?).toList
theorem wd_idx{σ:List AObj}:∀a:Nat,a<6→ZR σ (.str sig) (.int a)=some (.str [sig.getD a 0])
  | 0,_ | 1,_ | 2,_ | 3,_ | 4,_ | 5,_=>rfl
  | n+6,h=>absurd h (by simp)
theorem wd_slice{σ:List AObj}:∀b:Nat,b<7→yE σ (.str sig) (some (b:Int)) (some ((b:Int)+1)) none=some (.str (sig[b]?).toList)
  | 0,_ | 1,_ | 2,_ | 3,_ | 4,_ | 5,_ | 6,_=>rfl
  | n+7,h=>absurd h (by simp)
theorem law_word(n:Nat)(σ:List AObj):ZQ [.int n] σ=some (.str (wd n),σ):=by
  refine fnG_ret0 (ρ':= [.int n, .str sig, .int ((n:Int)/6%7)]) ?_ rfl
  have e1:((n:Int)%6)=((n%6:Nat):Int):=by solve_by_elim [Nat.le_of_lt,Nat.lt_of_lt_of_le,Nat.lt_of_le_of_lt]
  have e2:((n:Int)/6%7)=((n/6%7:Nat):Int):=by solve_by_elim [Nat.le_of_lt,Nat.lt_of_lt_of_le,Nat.lt_of_le_of_lt]
  have h1:=wd_idx (σ:=σ) (n%6) (by grind)
  have h2:=wd_slice (σ:=σ) (n/6%7) (by grind)
  rw [←e1] at h1
  rw [←e2] at h2
  have hl:(sig[n/6%7]?).toList.length≤1:=by cases sig[n/6%7]? <;> simp
  show f__law_word [.int n, .undef, .undef] σ=_
  have h3:1+(sig[n/6%7]?).toList.length≤LIM:=by simp only [zv]; lia
  simp [f__law_word,fSeq,fAsg,za,tVar,fVar,fBin,fIdx,zx,fRet,ev_o0,ev_o3,ev_o4,ev_a1,ev_a2,ev_a6,ev_a7,ev_p1,ev_p2,show ([97,65,98,32,34,92]:List Nat)=sig from rfl,h1,h2,h3,wd]
noncomputable def esc(c:Nat):List Nat:=if [34,92].contains c then [92,c] else [c]
noncomputable def gapOf(n:Nat):List Nat:=if n/84%2=0 then [32] else [9]
noncomputable def dress(u:List Nat)(n:Nat):List Nat:=if n/42%2=0 then [34]++(u.map esc).flatten++ [34]++gapOf n else (u.map fun c=> [92,c]).flatten++gapOf n
theorem strsOf_map{α:Type}(g:α→List Nat):∀l:List α,strsOf (l.map fun c=> .str (g c))=some (l.map g)
  | []=>rfl
  | x::l=>by simp [strsOf,strsOf_map g l]
theorem comp_str{js:List (Option Nat)}{el:EF}{g:Nat→List Nat}{ρ caps:List V}{u₀:V}{u:List Nat}{σ:List AObj}{i:Nat}(hi:fVar i ρ σ=some (.str u,σ))(hρ:ρin js ρ=u₀::caps)(hl:u.length≤LIM)
    (H:∀c σ,el (.str [c]::caps) σ=some (.str (g c),σ)):yh .frz (zI (fVar i)) js (tVar 0) zU (zY el) ρ σ=some (.lst (u.map fun c=> .str (g c)),σ):=by
  have:=Zv (f:=zI (fVar i)) (js:=js) (el:=el) (ρ:=ρ) (caps:=caps) (u:=u₀) (vs:=u.map fun c=> .str [c]) (w:=fun v=>match v with | .str [c]=> .str (g c) | v=>v) (σ:=σ) (by unfold zI; refine rg hi ?_; rfl) hρ (by simpa using hl)
    (fun v hv acc=>by
      obtain ⟨c,_,rfl⟩:=List.mem_map.mp hv
      exact H c _) (fun v hv=>by
      obtain ⟨c,_,rfl⟩:=List.mem_map.mp hv
      rfl)
  refine rg this ?_
  simp
theorem join_ev{σ:List AObj}{ws:List V}{xs:List (List Nat)}(h:strsOf ws=some xs)(hl:xs.flatten.length≤LIM):pJoin σ (.str []) [.lst ws]=some (.str xs.flatten,σ):=(congrArg (fun x:Option (List (List Nat))=>match x with | some xs=>if xs.flatten.length≤LIM then some (V.str xs.flatten,σ) else none | none=>none) h).trans (if_pos hl)
theorem law_dressed(u:List Nat)(n:Nat)(σ:List AObj)(hu:u.length≤2):yU [.str u, .int n] σ=some (.str (dress u n),σ):=by
  have e1:((n:Int)/84%2)=((n/84%2:Nat):Int):=by solve_by_elim [Nat.le_of_lt,Nat.lt_of_lt_of_le,Nat.lt_of_le_of_lt]
  have e2:((n:Int)/42%2)=((n/42%2:Nat):Int):=by solve_by_elim [Nat.le_of_lt,Nat.lt_of_lt_of_le,Nat.lt_of_le_of_lt]
  have c1:=comp_str (js:= [none]) (el:=fIf (fCmp .In (fVar 0) (za (.str [34,92]))) (fBin (opOf .Add) (za (.str [92])) (fVar 0)) (fVar 0)) (g:=esc) (ρ:= [.str u, .int n, .str (gapOf n)]) (caps:= []) (u₀:= .undef) (u:=u) (i:=0) (σ:=σ) rfl rfl (by simp only [zv]; lia) (fun c σ=>by
    by_cases h1:c=34
    · subst h1; rfl
    · by_cases h2:c=92
      · subst h2; rfl
      · simp [za,fVar,fCmp,fIf,ev_c7,ev_i1,esc,h1,h2])
  have c2:=comp_str (js:= [none]) (el:=fBin (opOf .Add) (za (.str [92])) (fVar 0)) (g:=fun c=> [92,c]) (ρ:= [.str u, .int n, .str (gapOf n)]) (caps:= []) (u₀:= .undef) (u:=u) (i:=0) (σ:=σ) rfl rfl (by simp only [zv]; lia) (fun c σ=>by
      rfl)
  have l1:(u.map esc).flatten.length≤4:=by
    rcases u with _ | ⟨a,_ | ⟨b,_ | ⟨c,t⟩⟩⟩
    · decide
    · simp [esc]; split <;> simp
    · simp [esc]; split <;> split <;> simp
    · simp at hu
  have l2:(u.map fun c=> [92,c]).flatten.length≤4:=by
    rcases u with _ | ⟨a,_ | ⟨b,_ | ⟨c,t⟩⟩⟩ <;> simp at hu ⊢
  have l3:(gapOf n).length=1:=by unfold gapOf; split <;> rfl
  refine fnG_ret0 (ρ':= [.str u, .int n, .str (gapOf n)]) ?_ rfl
  show Zm [.str u, .int n, .undef] σ=_
  unfold Zm
  have s1:fAsg (fIf (fCmp .Eq (fBin (opOf .Mod) (fBin (opOf .FloorDiv) (fVar 1) (za (.int 84))) (za (.int 2))) (za (.int 0))) (za (.str [32])) (za (.str [9]))) (tVar 2) [.str u, .int n, .undef] σ=some (.next, [.str u, .int n, .str (gapOf n)],σ):=by
    have:gapOf n=if (n:Int)/84%2=0 then [32] else [9]:=by
      unfold gapOf
      by_cases h:n/84%2=0
      · refine rg (if_pos h) ?_; refine rg (if_pos (by lia)) ?_; rfl
      · refine rg (if_neg h) ?_; refine rg (if_neg (by lia)) ?_; rfl
    refine rg this ?_
    generalize (n:Int)=m
    by_cases h:m/84%2=0 <;> simp [fAsg,za,tVar,fVar,fBin,fCmp,fIf,ev_o3,ev_o4,ev_a6,ev_a7,ev_c1,ev_v2,Zd,h,eqvI,V.pd]
  rw [fSeq,s1]
  simp only
  have j1:∀ws:List (List Nat),ws.flatten.length≤4→pJoin σ (.str []) [.lst (ws.map fun x=> .str x)]=some (.str ws.flatten,σ):=fun ws hw=>by
    have:=strsOf_map (fun x:List Nat=>x) ws
    rw [List.map_id'] at this
    exact join_ev this (by rw [zv]; lia)
  have j2:=j1 (u.map esc) l1
  have j3:=j1 (u.map fun c=> [92,c]) l2
  rw [List.map_map] at j2 j3
  simp only [ev_o0] at c1 c2
  by_cases h:n/42%2=0
  · have h':(n:Int)/42%2=0:=by lia
    have hd:dress u n= [34]++(u.map esc).flatten++ [34]++gapOf n:=if_pos h
    refine rg hd ?_
    simp only [Function.comp_def] at j2
    generalize (u.map esc).flatten=X at *
    generalize gapOf n=g at *
    have k1:1+X.length≤LIM:=by simp only [zv]; lia
    have k2:X.length+1+1≤LIM:=by simp only [zv]; lia
    have k3:X.length+1+1+g.length≤LIM:=by simp only [zv]; lia
    simp [fSeq,za,fVar,fBin,fRet,fIfS,fCmp,fNil,zc,ev_o0,ev_o3,ev_o4,ev_a2,ev_a6,ev_a7,ev_c1,ev_v2,Zd,eqvI,V.pd,h',c1,j2,fSMeth,k1,k2,k3]
  · have h':¬(n:Int)/42%2=0:=by lia
    have hd:dress u n=(u.map fun c=> [92,c]).flatten++gapOf n:=if_neg h
    refine rg hd ?_
    simp only [Function.comp_def] at j3
    generalize (u.map fun c=> [92,c]).flatten=X at *
    generalize gapOf n=g at *
    have k1:X.length+g.length≤LIM:=by simp only [zv]; lia
    simp [fSeq,zh,za,fVar,fBin,fRet,fIfS,fCmp,fNil,zc,ev_o0,ev_o3,ev_o4,ev_a2,ev_a6,ev_a7,ev_c1,ev_v2,Zd,eqvI,V.pd,h',c2,j3,fSMeth,k1]
end Mi
namespace Mi
theorem ZW{α β:Type}(f:α→β)(l:List α)(lo hi st:Option Int):pick (l.map f) lo hi st=(pick l lo hi st).map f:=by
  unfold pick
  rw [List.length_map]
  generalize sliceRange (sliceBounds lo hi st l.length).1 (sliceBounds lo hi st l.length).2.1 (sliceBounds lo hi st l.length).2.2=is
  induction is with
  | nil=>rfl
  | cons i is ih=>
    simp only [List.filterMap_cons,List.getElem?_map]
    simp only [List.getElem?_map] at ih
    cases l[i]? <;> simp [ih]
theorem intList_lst(σ:List AObj)(l:List Int):Zy σ (.lst (l.map .int))=some l:=by
  unfold Zy
  simp [isLst,ev_w1,ZH]
noncomputable def fixedL:List Int:= [6,138,97,78,12,85,99]
noncomputable def partK(ws:List Int)(k:Int):List Int:=pick (pick ws none (some 14) none) (some k) none (some 7)
theorem partK_length(ws:List Int)(k:Int):((partK ws k).map V.int).length≤ws.length:=by
  have h1:=pick_length (pick (ws.map V.int) none (some 14) none) (some k) none (some 7)
  have h2:=pick_length (ws.map V.int) none (some 14) none
  rw [ZW,ZW] at h1
  rw [ZW] at h2
  unfold partK
  simp at h1 h2 ⊢
  exact Nat.le_trans ‹_› ‹_›
noncomputable def drawK(ws:List Int)(k:Int):Int:=fixedL.getD k.toNat 0+((partK ws k).map fun x=>x%1000000).sum
theorem sum_nonneg:∀l:List Int,(∀x∈l,0≤x)→0≤l.sum
  | [],_=>by simp
  | x::l,h=>by
    have:=h x List.mem_cons_self
    have:=sum_nonneg l fun y hy=>h y (List.mem_cons_of_mem _ hy)
    simp; lia
theorem drawK_nonneg(ws:List Int)(k:Nat)(hk:k<7):0≤drawK ws k:=by
  unfold drawK
  have h1:0≤fixedL.getD (k:Int).toNat 0:=by
    simp only [Int.toNat_natCast]
    exact (by decide:∀k,k<7→0≤fixedL.getD k 0) k hk
  have h2:=sum_nonneg ((partK ws k).map fun x=>x%1000000) (fun x hx=>by
    obtain ⟨y,_,rfl⟩:=List.mem_map.mp hx
    exact Int.emod_nonneg _ (by decide))
  lia
noncomputable abbrev ρ0L(ws:List Int)(fx dr ct wo dr2:V):List V:= [.lst (ws.map .int),fx,dr,ct,wo,dr2, .undef, .undef, .undef, .undef, .undef, .undef, .undef]
noncomputable abbrev fxL:V:= .lst (fixedL.map .int)
theorem law_0(ws:List Int):f_law_0 (.lst (ws.map .int)::List.replicate 12 .undef) []=some (.next,ρ0L ws fxL .undef .undef .undef .undef, []):=by
  rfl
theorem fixed_idx{σ:List AObj}:∀k:Nat,k<7→ZR σ fxL (.int k)=some (.int (fixedL.getD k 0))
  | 0,_ | 1,_ | 2,_ | 3,_ | 4,_ | 5,_ | 6,_=>rfl
  | n+7,h=>absurd h (by simp)
theorem inner_comp(ws:List Int)(hw:ws.length≤63)(k:Nat)(σ:List AObj):yh .frz (zI (zx (zx (fVar 2) (za .none) (za (.int 14)) (za .none)) (fVar 0) (za .none) (za (.int 7)))) [none] (tVar 0) zU (zY (fBin (opOf .Mod) (fVar 0) (za (.int 1000000)))) [.int k,fxL, .lst (ws.map .int)] σ=some (.lst (((partK ws k).map fun x=>x%1000000).map .int),σ):=by
  have:=Zv (f:=zI (zx (zx (fVar 2) (za .none) (za (.int 14)) (za .none)) (fVar 0) (za .none) (za (.int 7)))) (js:= [none]) (el:=fBin (opOf .Mod) (fVar 0) (za (.int 1000000))) (w:=fun v=>match v with | .int x=> .int (x%1000000) | v=>v) (ρ:= [.int k,fxL, .lst (ws.map .int)]) (caps:= []) (vs:=(partK ws k).map .int) (σ:=σ) (u:= .undef)
    (by simp [za,fVar,zx,ev_p1,ev_p2,ev_v5,zI,yE,partK,ZW]) rfl (by have:=partK_length ws k; simp only [zv]; lia) (fun v hv acc=>by
      obtain ⟨x,_,rfl⟩:=List.mem_map.mp hv
      rfl) (fun v hv=>by
      obtain ⟨x,_,rfl⟩:=List.mem_map.mp hv
      rfl)
  refine rg this ?_
  simp
theorem rngL7:rngL 0 7 1=(List.range 7).map fun k:Nat=> .int (k:Int):=by
  have:rngN 0 7 1=7:=by decide +kernel
  skip
  refine rg this ?_
  rfl
theorem law_1(ws:List Int)(hw:ws.length≤63):f_law_1 (ρ0L ws fxL .undef .undef .undef .undef) []=some (.next,ρ0L ws fxL (.lst ((List.range 7).map fun k:Nat=> .int (drawK ws k))) .undef .undef .undef, []):=by
  have:=Zv (f:=yI (zc (za (.int 7)) fNil)) (js:= [none,some 1,some 0]) (el:=fBin (opOf .Add) (fIdx (fVar 1) (fVar 0)) (zj (zc (yh .frz (zI (zx (zx (fVar 2) (za .none) (za (.int 14)) (za .none)) (fVar 0) (za .none) (za (.int 7)))) [none] (tVar 0) zU (zY (fBin (opOf .Mod) (fVar 0) (za (.int 1000000))))) fNil) pSum)) (w:=fun v=>match v with | .int k=> .int (drawK ws k) | v=>v)
    (ρ:=ρ0L ws fxL .undef .undef .undef .undef) (caps:= [fxL, .lst (ws.map .int)]) (vs:=(List.range 7).map fun k:Nat=> .int (k:Int)) (σ:= []) (u:= .undef)
    (by simp [za,fNil,zc,yI,ev_r1]; exact ⟨by decide,rngL7⟩) rfl (by simp only [zv]; trivial) (fun v hv acc=>by
      obtain ⟨k,hk,rfl⟩:=List.mem_map.mp hv
      have hk7:k<7:=List.mem_range.mp hk
      have e1:=inner_comp ws hw k ([]++ [.list acc])
      have e2:=fixed_idx (σ:= []++ [.list acc]) k hk7
      simp only [ev_o4] at e1
      have e3:=intList_lst ([]++ [.list acc]) ((partK ws k).map fun x=>x%1000000)
      dsimp [fSeq,zh,fAsg,za,tVar,fVar,fBin,fIdx,zx,fRet,fIfS,fCmp,fNot,yr,ev_t1,ev_t2,ev_t3,ev_t4,ev_t5,ev_t6,ev_t7,fAnd,fOr,Zz,fFalse,fAnd2,fOr2,fBool,fIf,fNeg,fNil,zc,fTup,fLst,zj,zy,zX,ev_o0,ev_o1,ev_o2,ev_o3,ev_o4,ev_o5,ev_a1,ev_a2,ev_a3,ev_a4,ev_a5,ev_a6,ev_a7,ev_a8,ev_p1,ev_p2,ev_c1,ev_c2,ev_c3,ev_c4,ev_c5,ev_c6,ev_c7,ev_c8,ev_l1,ev_v0,ev_v1,ev_v2,ev_v3,ev_v4,ev_v5,ev_v6,ev_v8,ev_w1,ev_w2,ev_w3,ev_i1,ev_i2,ev_i3,ev_i4,Zd,fBrk,fCont,yI,zI,ev_r1,ev_r2,ev_r3,e1,e2,pSum,e3,drawK]
      simp at e1 e2 e3
      simp [e1,e2,e3,ev_a1]) (fun v hv=>by
      obtain ⟨x,_,rfl⟩:=List.mem_map.mp hv
      rfl)
  simp only [f_law_1,fAsg,this]
  rfl
end Mi
namespace Mi
theorem wd_length(n:Nat):(wd n).length≤2:=by
  unfold wd
  cases sig[n/6%7]? <;> simp
theorem dress_length(u:List Nat)(n:Nat)(hu:u.length≤2):(dress u n).length≤7:=by
  unfold dress gapOf
  rcases u with _ | ⟨a,_ | ⟨b,_ | ⟨c,t⟩⟩⟩
  · split <;> split <;> trivial
  · split <;> split <;> simp [esc] <;> split <;> simp
  · split <;> split <;> simp [esc] <;> split <;> split <;> simp
  · simp at hu
section
variable (ws:List Int)(ds:List Nat)
noncomputable abbrev drV:V:=V.lst (ds.map fun d:Nat=>V.int d)
noncomputable abbrev woV:V:=V.lst (ds.map fun d:Nat=>V.str (wd d))
noncomputable abbrev dsV:V:=V.lst (ds.map fun d:Nat=>V.str (dress (wd d) d))
theorem law_3(hl:ds.length=7)(ct:V):f_law_3 (ρ0L ws fxL (drV ds) ct .undef .undef) []=some (.next,ρ0L ws fxL (drV ds) ct (woV ds) .undef, []):=by
  have:=Zv (f:=zI (fVar 2)) (js:= [none]) (el:=zy (zc (fVar 0) fNil) ZQ) (w:=fun v=>match v with | .int n=> .str (wd n.toNat) | v=>v)
    (ρ:=ρ0L ws fxL (drV ds) ct .undef .undef) (caps:= []) (vs:=ds.map fun d:Nat=>V.int d) (σ:= []) (u:= .undef) (by rfl) rfl (by simp only [zv]; simp [hl])
    (fun v hv acc=>by
      obtain ⟨d,_,rfl⟩:=List.mem_map.mp hv
      have:=law_word d ([]++ [.list acc])
      simp [fVar,fNil,zc,zy] at this ⊢
      assumption) (fun v hv=>by
      obtain ⟨x,_,rfl⟩:=List.mem_map.mp hv
      rfl)
  simp only [f_law_3,fAsg,this]
  simp [tVar]
theorem getD_map{α:Type}(f:α→V)(l:List α)(k:Nat)(d:α)(hk:k<l.length):(l.map f)[k]?=some (f (l.getD k d)):=by
  refine rg List.getElem?_map ?_; refine rg (List.getElem?_eq_getElem hk) ?_
  simp [List.getD_eq_getElem?_getD,List.getElem?_eq_getElem hk]
theorem nth_nat{n k:Nat}(h:k<n):nth n (k:Int)=some k:=by
  unfold nth
  refine rg (if_pos (by lia)) ?_
  simp
theorem idx_map{α:Type}{σ:List AObj}(f:α→V)(l:List α)(k:Nat)(d:α)(hk:k<l.length):ZR σ (.lst (l.map f)) (.int k)=some (f (l.getD k d)):=by
  show ((yM σ (.lst (l.map f))).bind fun vs=>(nth vs.length (k:Int)).bind fun j=>vs[j]?)=_
  simp only [ev_w1,Option.bind_some,List.length_map,nth_nat hk]
  exact getD_map f l k d hk
theorem range_getD:∀(l:List Nat),(List.range l.length).map (fun k=>l.getD k 0)=l:=fun l=>by
  refine List.ext_getElem (by simp) fun i h1 h2=>?_
  simp [List.getD_eq_getElem?_getD,List.getElem?_eq_getElem h2]
theorem law_4(hl:ds.length=7)(ct:V):f_law_4 (ρ0L ws fxL (drV ds) ct (woV ds) .undef) []=some (.next,ρ0L ws fxL (drV ds) ct (woV ds) (dsV ds), []):=by
  have:=Zv (f:=yI (zc (za (.int 7)) fNil)) (js:= [none,some 2,some 4]) (el:=zy (zc (fIdx (fVar 2) (fVar 0)) (zc (fIdx (fVar 1) (fVar 0)) fNil)) yU)
    (w:=fun v=>match v with | .int n=> .str (dress (wd (ds.getD n.toNat 0)) (ds.getD n.toNat 0)) | v=>v)
    (ρ:=ρ0L ws fxL (drV ds) ct (woV ds) .undef) (caps:= [drV ds,woV ds]) (vs:=(List.range 7).map fun k:Nat=> .int (k:Int)) (σ:= []) (u:= .undef) (by simp [za,fNil,zc,yI,ev_r1]; exact ⟨by decide,rngL7⟩) rfl (by simp only [zv]; trivial)
    (fun v hv acc=>by
      obtain ⟨k,hk,rfl⟩:=List.mem_map.mp hv
      have hk7:k<ds.length:=by refine rg hl ?_; exact List.mem_range.mp hk
      have e1:=idx_map (σ:= []++ [.list acc]) (fun d=>V.str (wd d)) ds k 0 hk7
      have e2:=idx_map (σ:= []++ [.list acc]) (fun d:Nat=>V.int d) ds k 0 hk7
      have e3:=law_dressed (wd (ds.getD k 0)) (ds.getD k 0) ([]++ [.list acc]) (wd_length _)
      simp only [zy,zc,fIdx,fVar,fNil,List.getElem?_cons_zero,List.getElem?_cons_succ,e1,e2,Option.map_some,e3,Int.toNat_natCast]) (fun v hv=>by
      obtain ⟨x,_,rfl⟩:=List.mem_map.mp hv
      rfl)
  simp only [f_law_4,fAsg,this]
  have hr:((List.range 7).map fun k:Nat=>V.int (k:Int)).map (fun v=>match v with | .int n=> .str (dress (wd (ds.getD n.toNat 0)) (ds.getD n.toNat 0)) | v=>v)=ds.map fun d:Nat=>V.str (dress (wd d) d):=by
    refine rg List.map_map ?_
    conv=>rhs; rw [←range_getD ds,hl,List.map_map]
    rfl
  refine rg hr ?_
  rfl
theorem law_2(hl:ds.length=7):f_law_2 (ρ0L ws fxL (drV ds) .undef .undef .undef) []=some (.next,ρ0L ws fxL (drV ds) (.int (4-((ds.sum:Nat):Int)%2)) .undef .undef, []):=by
  have e1:=intList_lst [] (ds.map fun d:Nat=>(d:Int))
  rw [List.map_map] at e1
  have e2:(ds.map fun d:Nat=>(d:Int)).sum=((ds.sum:Nat):Int):=by
    clear hl e1
    induction ds with
    | nil=>rfl
    | cons d ds ih=>simp [ih]
  have e1:Zy [] (drV ds)=some (ds.map fun d:Nat=>(d:Int)):=e1
  simp only [f_law_2,fAsg,fBin,za,zj,zc,fNil,fVar,ev_o1,ev_o4,ev_a7,List.getElem?_cons_zero,List.getElem?_cons_succ,pSum,e1,Option.map_some,e2]
  dsimp [tVar,ev_a4]
end
end Mi
namespace Mi
noncomputable def tk(d:Nat):List Nat:=dress (wd d) d
noncomputable def textOf(ds:List Nat)(c:Nat):List Nat:=(((ds.take c).map tk).flatten++ [10])++((ds.drop c).map tk).flatten
theorem tk_flat:∀l:List Nat,(l.map tk).flatten.length≤7*l.length
  | []=>by trivial
  | d::l=>by
    have h1:=tk_flat l
    have h2:=dress_length (wd d) d (wd_length d)
    have h3:((d::l).map tk).flatten.length=(tk d).length+(l.map tk).flatten.length:=by exact List.length_append
    refine rg h3 ?_
    unfold tk at *
    simp only [List.length_cons]
    lia
theorem pick_take{α:Type}(l:List α)(hl:l.length=7)(c:Nat)(hc:c=3∨c=4):pick l none (some (c:Int)) none=l.take c∧pick l (some (c:Int)) none none=l.drop c:=by
  rw [pick_plain,pick_plain]
  unfold sub
  refine rg hl ?_
  rcases hc with rfl | rfl
  · have h:clipAt 7 ((3:Nat):Int)=3:=by decide +kernel
    simp only [Option.elim_none,Option.elim_some,h,List.drop_zero,Nat.sub_zero]
    refine ⟨trivial,?_⟩
    rw [List.take_of_length_le]
    refine rg List.length_drop ?_; refine rg hl ?_; exact Nat.le_refl _
  · have h:clipAt 7 ((4:Nat):Int)=4:=by decide +kernel
    simp only [Option.elim_none,Option.elim_some,h,List.drop_zero,Nat.sub_zero]
    refine ⟨trivial,?_⟩
    rw [List.take_of_length_le]
    refine rg List.length_drop ?_; refine rg hl ?_; exact Nat.le_refl _
theorem join_map{σ:List AObj}(l:List Nat)(hl:l.length≤7):pJoin σ (.str []) [.lst (l.map fun d:Nat=>V.str (tk d))]=some (.str (l.map tk).flatten,σ):=by
  have:=tk_flat l
  exact join_ev (strsOf_map tk l) (by rw [zv]; lia)
theorem law_text(ws:List Int)(ds:List Nat)(hl:ds.length=7)(c:Nat)(hc:c=3∨c=4):f_law_text (ρ0L ws fxL (drV ds) (.int c) (woV ds) (dsV ds)) []=some ([.str (textOf ds c)], []):=by
  obtain ⟨p1,p2⟩:=pick_take ds hl c hc
  have s1:yE ([]:List AObj) (dsV ds) none (some (c:Int)) none=some (.lst ((ds.take c).map fun d:Nat=>V.str (tk d))):=by
    show (match yx [] (dsV ds) with | some (V.lst vs)=>if none=some (0:Int) then none else some (V.lst (pick vs none (some (c:Int)) none)) | _=>none)=_
    simp only [ev_v5,reduceCtorEq,if_false,ZW,p1]
    rfl
  have s2:yE ([]:List AObj) (dsV ds) (some (c:Int)) none none=some (.lst ((ds.drop c).map fun d:Nat=>V.str (tk d))):=by
    show (match yx [] (dsV ds) with | some (V.lst vs)=>if none=some (0:Int) then none else some (V.lst (pick vs (some (c:Int)) none none)) | _=>none)=_
    simp only [ev_v5,reduceCtorEq,if_false,ZW,p2]
    rfl
  have j1:=join_map (σ:= []) (ds.take c) (by simp; lia)
  have j2:=join_map (σ:= []) (ds.drop c) (by simp; lia)
  have l1:=tk_flat (ds.take c)
  have l2:=tk_flat (ds.drop c)
  have l3:(ds.take c).length≤7:=by simp; lia
  have l4:(ds.drop c).length≤7:=by simp; lia
  have hd:textOf ds c=(((ds.take c).map tk).flatten++ [10])++((ds.drop c).map tk).flatten:=rfl
  refine rg hd ?_
  generalize ((ds.take c).map tk).flatten=X at *
  generalize ((ds.drop c).map tk).flatten=Y at *
  have k1:X.length+ [10].length≤LIM:=by simp only [zv]; simp; lia
  have k2:(X++ [10]).length+Y.length≤LIM:=by simp only [zv]; simp; lia
  simp only [f_law_text,zc,fNil,fBin,fSMeth,za,zx,fVar,ev_o0,ev_a2,ev_p1,ev_p2,List.getElem?_cons_zero,List.getElem?_cons_succ,s1,s2,Option.map_some,j1,j2,if_pos k1,if_pos k2]
theorem front(ws:List Int)(hw:ws.length≤63)(H:∀(ds:List Nat) (c:Nat),ds.length=7→c=3∨c=4→∃ρ' σ',fB (textOf ds c) ((ρ0L ws fxL (drV ds) (.int c) (woV ds) (dsV ds)).set 6 (.cst 0)) [.list [], .ns (nsLex 0), .list [.int 0]]=some (.ret (.bool true),ρ',σ')):LawEval ws:=by
  let ds:List Nat:=(List.range 7).map fun k:Nat=>(drawK ws k).toNat
  have hl:ds.length=7:=by rfl
  have hc:∃c:Nat,(c=3∨c=4)∧(4-((ds.sum:Nat):Int)%2)=(c:Int):=by
    rcases Nat.mod_two_eq_zero_or_one ds.sum with h | h
    · exact ⟨4, .inr rfl,by lia⟩
    · exact ⟨3, .inl rfl,by lia⟩
  refine xe12 hc fun c hc ec=>?_
  have hd:((List.range 7).map fun k:Nat=>V.int (drawK ws k))=ds.map fun d:Nat=>V.int d:=by
    show _=List.map _ (List.map _ _)
    refine rg List.map_map ?_
    refine List.map_congr_left fun k hk=>?_
    have:=drawK_nonneg ws k (List.mem_range.mp hk)
    show V.int _=V.int _
    refine rg (Int.toNat_of_nonneg this) ?_; rfl
  have h1:=law_1 ws hw
  rw [hd] at h1
  have h2:=law_2 ws ds hl
  rw [ec] at h2
  refine xe21 (H ds c hl hc) fun ρ' σ' hB=>?_
  refine ⟨_,_,_,_,_,ρ',textOf ds c,σ',law_0 ws,h1,h2,law_3 ws ds hl _,law_4 ws ds hl _,?_,law_text ws ds hl c hc,hB⟩
  have nm:∀{α:Type} (f:α→V) (l:List α),(∀x∈l,V.nc (f x)=true)→V.ncs (l.map f)=true:=by
    intro α f l
    induction l with
    | nil=>intro _; rfl
    | cons x l ih=>intro h; simp only [List.map_cons,V.ncs,Bool.and_eq_true]; exact ⟨h x List.mem_cons_self,ih fun y hy=>h y (List.mem_cons_of_mem _ hy)⟩
  intro v hv
  simp only [List.mem_cons,List.not_mem_nil,or_false] at hv
  rcases hv with rfl | rfl | rfl | rfl | rfl | rfl | rfl | rfl | rfl | rfl | rfl | rfl | rfl
  · exact nm _ _ fun _ _=>rfl
  · rfl
  · exact nm _ _ fun _ _=>rfl
  · rfl
  · exact nm _ _ fun _ _=>rfl
  · exact nm _ _ fun _ _=>rfl
  all_goals rfl
end Mi
namespace Mi
noncomputable def nsL(n:Nat):List (Str × V):= [("lineno", .int n),("instream", .cst 1),("whitespace", .str [10,9,13,32]),("pushback", .loc 0)]
noncomputable abbrev LS3(pb:List V)(n p:Nat)(τ:List AObj):List AObj:= .list pb :: .ns (nsL n) :: .list [.int p]::τ
noncomputable def At(text:List Nat)(p:Nat)(rest:List Nat):Prop:=text.drop p=rest∧p+rest.length=text.length
theorem At.step{text:List Nat}{p c:Nat}{r:List Nat}(h:At text p (c::r)):At text (p+1) r:=by
  obtain ⟨h1,h2⟩:=h
  refine ⟨?_,by simp at h2; grind⟩
  refine rl List.drop_drop ?_; refine rg h1 ?_; rfl
theorem max_nat(m:Nat):(max 0 (m:Int)).toNat=m:=by rw [Int.max_eq_right (Int.natCast_nonneg _)]; rfl
theorem clip_mid{n k:Nat}:(max 0 (min (k:Int) (n:Int))).toNat=min k n:=
  (Nat.le_total k n).elim (fun h=>by rw [Int.min_eq_left (Int.ofNat_le.mpr h),Nat.min_eq_left h,max_nat]) fun h=>by rw [Int.min_eq_right (Int.ofNat_le.mpr h),Nat.min_eq_right h,max_nat]
theorem clip_nat{n k:Nat}:clipAt n (k:Int)=min k n:=by
  unfold clipAt
  rw [if_neg (Int.not_lt.mpr (Int.natCast_nonneg k))]
  exact clip_mid
theorem sub_one{text:List Nat}{p:Nat}{r:List Nat}(h:At text p r):sub text (some (p:Int)) (some ((p:Int)+1))=r.take 1:=by
  refine xe02 h fun h1 h2=>?_
  unfold sub
  have e:((p:Int)+1)=((p+1:Nat):Int):=by solve_by_elim [Nat.le_of_lt,Nat.lt_of_lt_of_le,Nat.lt_of_le_of_lt]
  simp only [Option.elim_some,e,clip_nat]
  have e1:min p text.length=p:=by lia
  refine rg e1 ?_; refine rg h1 ?_
  cases r with
  | nil=>simp
  | cons c r=>
    have:min (p+1) text.length-p=1:=by simp at h2; lia
    refine rg this ?_; rfl
theorem nsL_blw(k n:Nat):AObj.blw (k+1) (.ns (nsL n))=true:=by kernel_rfl
theorem kept3{a:AObj}{n n' p p':Nat}{τ ρ:List AObj}:ZZ (a :: .ns (nsL n) :: .list [.int p]::τ) (a :: .ns (nsL n') :: .list [.int p']::(τ++ρ)):=fun l o hl e=>by
  match l,hl,e with
  | 0,_,e=>exact .inl e
  | 1,_,e=>
    right
    simp at e
    subst e
    exact nsL_blw _ _
  | 2,_,e=>
    right
    simp at e
    subst e
    rfl
  | l+3,hl,e=>
    left
    simp at e ⊢
    simp at hl
    rwa [List.getElem?_append_left hl] at e
theorem take3{a b c:AObj}{a' b' c':AObj}{τ ρ:List AObj}:(a'::b'::c'::(τ++ρ)).take (a::b::c::τ).length=a'::b'::c'::τ:=by
  simp
theorem finF3{a:AObj}{n n' p p':Nat}{τ ρ:List AObj}{v:V}(h:V.nl v=true):finF (a :: .ns (nsL n) :: .list [.int p]::τ) (a :: .ns (nsL n') :: .list [.int p']::(τ++ρ)) v=some (v,a :: .ns (nsL n') :: .list [.int p']::τ):=by
  refine rg (finF_nl kept3 h) ?_; refine rg take3 ?_; rfl
theorem finF3'{a:AObj}{n n' p p':Nat}{τ:List AObj}{v:V}(h:V.nl v=true):finF (a :: .ns (nsL n) :: .list [.int p]::τ) (a :: .ns (nsL n') :: .list [.int p']::τ) v=some (v,a :: .ns (nsL n') :: .list [.int p']::τ):=by
  have:=finF3 (a:=a) (n:=n) (n':=n') (p:=p) (p':=p') (τ:=τ) (ρ:= []) h
  rwa [List.append_nil] at this
theorem read_eval{text:List Nat}{p n:Nat}{r:List Nat}{pb:List V}{τ:List AObj}(h:At text p r):F_read text [.int 1] (LS3 pb n p τ)=some (.str (r.take 1),LS3 pb n (p+(r.take 1).length) τ):=by
  have e:=sub_one h
  show fnFC [.undef, .loc 2, .str text] f_read [.int 1] (LS3 pb n p τ)=_
  unfold fnFC
  have:f_read ([.int 1]++ [.undef, .loc 2, .str text]) (LS3 pb n p τ)=some (.ret (.str (r.take 1)), [.int 1, .str (r.take 1), .loc 2, .str text],LS3 pb n (p+(r.take 1).length) τ):=by
    have e0:ZR (LS3 pb n p τ) (.loc 2) (.int 0)=some (.int p):=rfl
    have e1:yE (LS3 pb n p τ) (.str text) (some (p:Int)) (some ((p:Int)+1)) none=some (.str (r.take 1)):=by
      simp only [yE,if_true,e]
    generalize r.take 1=c at *
    have e2:setOf (LS3 pb n p τ) (.loc 2) (.int 0) (.int ((p:Int)+c.length))=some (LS3 pb n (p+c.length) τ):=by
      rfl
    simp [f_read,fSeq,fAsg,za,tVar,fVar,fBin,fIdx,zx,fRet,fNil,zc,zj,ev_o0,ev_a1,ev_p1,ev_p2,e0,e1,pLen,fSet,e2]
  refine rg this ?_
  exact finF3' rfl
noncomputable def bump(c n:Nat):Nat:=if c=10 then n+1 else n
theorem attr_in{text:List Nat}{n p:Nat}{pb:List V}{τ:List AObj}{ρ:List V}(h:ρ[0]?=some (.cst 0)):yO (fVar 0) "instream" ρ (LS3 pb n p τ)=some (.cst 1,LS3 pb n p τ):=by
  have h1:fVar 0 ρ (LS3 pb n p τ)=some (.cst 0,LS3 pb n p τ):=by unfold fVar; refine rg h ?_; rfl
  unfold yO
  refine rg h1 ?_
  rfl
theorem rc{text:List Nat}{p n c:Nat}{r:List Nat}{pb:List V}{τ:List AObj}(h:At text p (c::r)):zo text [.cst 0] (LS3 pb n p τ)=some (.str [c],LS3 pb (bump c n) (p+1) τ):=by
  show fnG 2 1 (ye text) [.cst 0] (LS3 pb n p τ)=_
  unfold fnG fnF
  rw [if_pos (show [V.cst 0].length=1 from rfl)]
  have e1:fAsg (fFMeth (yO (fVar 0) "instream") (zc (za (.int 1)) fNil) (F_read text)) (tVar 1) [.cst 0, .undef] (LS3 pb n p τ)=some (.next, [.cst 0, .str [c]],LS3 pb n (p+1) τ):=by
    have:=read_eval (n:=n) (pb:=pb) (τ:=τ) h
    simp only [fAsg,fFMeth,attr_in (text:=text) (ρ:= [.cst 0, .undef]) rfl,zc,za,fNil,this]
    rfl
  have e2:ye text [.cst 0, .undef] (LS3 pb n p τ)=some (.ret (.str [c]), [.cst 0, .str [c]],LS3 pb (bump c n) (p+1) τ):=by
    unfold ye
    rw [fSeq,e1]
    simp only
    by_cases hc:c=10
    · subst hc
      rfl
    · simp [fSeq,zh,za,fVar,fRet,fIfS,fCmp,ev_c1,ev_v3,Zd,eqvS,V.pd,hc,bump]
  have e2':ye text ([.cst 0]++List.replicate (2- [V.cst 0].length) .undef) (LS3 pb n p τ)=_:=e2
  refine rg e2' ?_
  exact finF3' rfl
theorem rc_end{text:List Nat}{p n:Nat}{pb:List V}{τ:List AObj}(h:At text p []):zo text [.cst 0] (LS3 pb n p τ)=some (.str [],LS3 pb n p τ):=by
  show fnG 2 1 (ye text) [.cst 0] (LS3 pb n p τ)=_
  unfold fnG fnF
  rw [if_pos (show [V.cst 0].length=1 from rfl)]
  have e1:fAsg (fFMeth (yO (fVar 0) "instream") (zc (za (.int 1)) fNil) (F_read text)) (tVar 1) [.cst 0, .undef] (LS3 pb n p τ)=some (.next, [.cst 0, .str []],LS3 pb n p τ):=by
    have:=read_eval (n:=n) (pb:=pb) (τ:=τ) h
    simp only [fAsg,fFMeth,attr_in (text:=text) (ρ:= [.cst 0, .undef]) rfl,zc,za,fNil,this]
    rfl
  have e2:ye text [.cst 0, .undef] (LS3 pb n p τ)=some (.ret (.str []), [.cst 0, .str []],LS3 pb n p τ):=by
    unfold ye
    rw [fSeq,e1]
    rfl
  have e2':ye text ([.cst 0]++List.replicate (2- [V.cst 0].length) .undef) (LS3 pb n p τ)=_:=e2
  refine rg e2' ?_
  exact finF3' rfl
end Mi
namespace Mi
noncomputable abbrev LT(n p:Nat)(τ:List AObj):List AObj:=LS3 [] n p (τ++ [.bnd, .cit true (τ.length+3)])
theorem idxB{a b c x y:AObj}{τ:List AObj}:(a::b::c::(τ++ [x,y]))[τ.length+3]?=some x:=by simp
theorem idxC{a b c x y:AObj}{τ:List AObj}:(a::b::c::(τ++ [x,y]))[τ.length+3+1]?=some y:=by simp
section
variable {text:List Nat}{n p c:Nat}{r:List Nat}{τ:List AObj}
theorem ZY{g:TF}{b:SF}{k:Nat}{ρ:List V}(h:At text p (c::r)):citN (zo text) g b (τ.length+3+1) (k+1) ρ (LT n p τ)=match g (.str [c]) ρ with
    | some ρ'=>match b ρ' (LT (bump c n) (p+1) τ) with
      | some (.next,ρ,σ)=>citN (zo text) g b (τ.length+3+1) k ρ σ
      | some (.cont,ρ,σ)=>citN (zo text) g b (τ.length+3+1) k ρ σ
      | some (.brk,ρ,σ)=>some (.next,ρ,σ)
      | some (.ret v,ρ,σ)=>some (.ret v,ρ,σ)
      | none=>none
    | none=>none:=by
  exact (citStep_yes (lb:=τ.length+3) (by simp only [citAt,idxC]) (by simp only [bndAt,idxB]) (rc h) ⟨by simp only [citAt,idxC],by simp only [bndAt,idxB]⟩).trans rfl
theorem cit_end{g:TF}{b:SF}{k:Nat}{ρ:List V}(h:At text p []):citN (zo text) g b (τ.length+3+1) (k+1) ρ (LT n p τ)=some (.next,ρ,(LT n p τ).set (τ.length+3+1) (.cit false (τ.length+3))):=by
  exact (citStep_yes (lb:=τ.length+3) (by simp only [citAt,idxC]) (by simp only [bndAt,idxB]) (rc_end h) ⟨by simp only [citAt,idxC],by simp only [bndAt,idxB]⟩).trans rfl
noncomputable abbrev rdNext(text:List Nat):SF:=fSeq (fIfS (fCmp .Eq (fVar 3) (za (.str [92]))) (fSeq (fAsg (z7 "_read_char" (fVar 0) fNil (zo text)) (tVar 3)) zh) zh) zh
noncomputable abbrev gb1(text:List Nat):SF:=(fSeq (fIfS (fCmp .Eq (fVar 3) (za (.str [34]))) (fSeq (fRet (fVar 1)) zh) (rdNext text)) (fSeq (fAug .Add 1 (fVar 3)) zh))
noncomputable abbrev gb2(text:List Nat):SF:=(fSeq (fIfS (fCmp .In (fVar 3) (yO (fVar 0) "whitespace")) (fSeq (fRet (fVar 1)) zh) (rdNext text)) (fSeq (fAug .Add 1 (fVar 3)) zh))
noncomputable abbrev gb0(text:List Nat):SF:=(fSeq (fIfS (fCmp .In (fVar 3) (yO (fVar 0) "whitespace")) (fSeq fCont zh) zh)
  (fSeq (fIfS (fCmp .Eq (fVar 3) (za (.str [34]))) (fSeq (fForC (zo text) (fVar 2) (tVar 3) (gb1 text)) zh)
    (fSeq (fIfS (fCmp .Eq (fVar 3) (za (.str [92]))) (fSeq (fAsg (z7 "_read_char" (fVar 0) fNil (zo text)) (tVar 3)) zh) zh)
    (fSeq (fAug .Add 1 (fVar 3)) (fSeq (fForC (zo text) (fVar 2) (tVar 3) (gb2 text)) zh)))) zh))
theorem get_token_form:z4 text=(fSeq (fIfS (yr (yO (fVar 0) "pushback")) (fSeq (fRet (zF (yO (fVar 0) "pushback") (zc (za (.int 0)) fNil) pPop)) zh) zh)
  (fSeq (fAsg (za (.str [])) (tVar 1)) (fSeq (fAsg (fIterC "_read_char" (fVar 0)) (tVar 2)) (fSeq (fForC (zo text) (fVar 2) (tVar 3) (gb0 text)) (fSeq (fRet (fVar 1)) zh))))):=rfl
theorem imeth_rc{ρ:List V}(h0:ρ[0]?=some (.cst 0))(h:At text p (c::r)):z7 "_read_char" (fVar 0) fNil (zo text) ρ (LT n p τ)=some (.str [c],LT (bump c n) (p+1) τ):=by
  have h1:fVar 0 ρ (LT n p τ)=some (.cst 0,LT n p τ):=by unfold fVar; refine rg h0 ?_; rfl
  unfold z7
  refine rg h1 ?_
  have h2:(LT n p τ)[1]?=some (.ns (nsL n)):=rfl
  have h3:(nsL n).lookup ("_read_char":Str)=none:=by kernel_rfl
  simp only [h2,h3,fNil,rc h]
theorem aug_str{x:List Nat}{v2:V}{y:List Nat}{σ:List AObj}(hl:x.length+y.length≤LIM):fAug .Add 1 (fVar 3) [.cst 0, .str x,v2, .str y] σ=some (.next, [.cst 0, .str (x++y),v2, .str y],σ):=by
  simp [fAug,fVar,noLst,ev_o0,ev_a2,hl]
theorem rdn_esc{x:List Nat}{v2:V}(h:At text p (c::r)):rdNext text [.cst 0, .str x,v2, .str [92]] (LT n p τ)=some (.next, [.cst 0, .str x,v2, .str [c]],LT (bump c n) (p+1) τ):=by
  have:=imeth_rc (n:=n) (τ:=τ) (ρ:= [.cst 0, .str x,v2, .str [92]]) rfl h
  simp [rdNext,fSeq,fIfS,fCmp,fVar,za,ev_c1,Zd,ev_v3,eqvS,V.pd,fAsg,this,tVar,zh]
theorem rdn_plain{x:List Nat}{v2:V}{σ:List AObj}(hc:c≠92):rdNext text [.cst 0, .str x,v2, .str [c]] σ=some (.next, [.cst 0, .str x,v2, .str [c]],σ):=by
  simp [rdNext,fSeq,fIfS,fCmp,fVar,za,ev_c1,Zd,ev_v3,eqvS,V.pd,hc,zh]
theorem ws_attr{x:List Nat}{v2 v3:V}:yO (fVar 0) "whitespace" [.cst 0, .str x,v2,v3] (LT n p τ)=some (.str [10,9,13,32],LT n p τ):=rfl
theorem ws_in{x:List Nat}{v2:V}:fCmp .In (fVar 3) (yO (fVar 0) "whitespace") [.cst 0, .str x,v2, .str [c]] (LT n p τ)=some ([10,9,13,32].contains c,LT n p τ):=by
  have:=ws_attr (n:=n) (p:=p) (τ:=τ) (x:=x) (v2:=v2) (v3:= .str [c])
  simp only [fCmp,fVar,List.getElem?_cons_zero,List.getElem?_cons_succ,this,ev_c7,ev_i1]
  rfl
theorem loop1:∀(u:List Nat) (n p:Nat) (x:List Nat) (v3:V) (k:Nat) (more:List Nat),(∀c∈u,c≠10)→x.length+u.length≤100→u.length<k→At text p ((u.map esc).flatten++34::more)→
    ∃ρ' p',citN (zo text) (tVar 3) (gb1 text) (τ.length+3+1) k [.cst 0, .str x, .loc (τ.length+3+1),v3] (LT n p τ)=some (.ret (.str (x++u)),ρ',LT n p' τ)∧At text p' more
  | [],n,p,x,v3,k+1,more,_,_,_,h=>by
    have h:At text p (34::more):=h
    refine ⟨[.cst 0, .str x, .loc (τ.length+3+1), .str [34]],p+1,?_,h.step⟩
    refine rg (ZY h) ?_
    simp [tVar,gb1,fSeq,fIfS,fCmp,fVar,za,ev_c1,Zd,ev_v3,eqvS,V.pd,fRet,bump]
  | c::u,n,p,x,v3,k+1,more,hu,hl,hk,h=>by
    have hc:c≠10:=hu c List.mem_cons_self
    have hb:bump c n=n:=if_neg hc
    simp only [List.length_cons] at hl hk
    have h:At text p (esc c++((u.map esc).flatten++34::more)):=by simpa using h
    by_cases he:c=34∨c=92
    · have e:esc c= [92,c]:=by unfold esc; refine rg (if_pos (by simpa using he)) ?_; rfl
      rw [e] at h
      have h1:At text p (92::c::((u.map esc).flatten++34::more)):=h
      have h2:=h1.step
      refine xe22 (loop1 u n (p+1+1) (x++ [c]) (.str [c]) k more (fun d hd=>hu d (List.mem_cons_of_mem _ hd)) (by simp; lia) (by exact Nat.le_of_lt_succ ‹_›) h2.step) fun ρ' p' e1 e2=>?_
      refine ⟨ρ',p',?_,e2⟩
      refine rg (ZY h1) ?_
      have r1:=rdn_esc (n:=n) (τ:=τ) (x:=x) (v2:= .loc (τ.length+3+1)) h2
      rw [hb] at r1
      have a1:=aug_str (x:=x) (v2:= .loc (τ.length+3+1)) (y:= [c]) (σ:=LT n (p+1+1) τ) (by simp only [zv]; simp; lia)
      have b1:bump 92 n=n:=rfl
      refine rg b1 ?_
      have s1:gb1 text [.cst 0, .str x, .loc (τ.length+3+1), .str [92]] (LT n (p+1) τ)=some (.next, [.cst 0, .str (x++ [c]), .loc (τ.length+3+1), .str [c]],LT n (p+1+1) τ):=by
        have c0:fIfS (fCmp .Eq (fVar 3) (za (.str [34]))) (fSeq (fRet (fVar 1)) zh) (rdNext text) [.cst 0, .str x, .loc (τ.length+3+1), .str [92]] (LT n (p+1) τ)=some (.next, [.cst 0, .str x, .loc (τ.length+3+1), .str [c]],LT n (p+1+1) τ):=by
          refine rl r1 ?_
          rfl
        simp only [gb1,fSeq,c0,a1,zh]
      have g1:tVar 3 (.str [92]) [.cst 0, .str x, .loc (τ.length+3+1),v3]=some [.cst 0, .str x, .loc (τ.length+3+1), .str [92]]:=rfl
      simp only [g1,s1]
      refine rg e1 ?_; simp
    · have h3:c≠34:=fun q=>he (.inl q)
      have h4:c≠92:=fun q=>he (.inr q)
      have e:esc c= [c]:=by unfold esc; rw [if_neg (by simp [h3,h4])]
      rw [e] at h
      have h1:At text p (c::((u.map esc).flatten++34::more)):=h
      refine xe22 (loop1 u n (p+1) (x++ [c]) (.str [c]) k more (fun d hd=>hu d (List.mem_cons_of_mem _ hd)) (by simp; omega) (by exact Nat.le_of_lt_succ ‹_›) h1.step) fun ρ' p' e1 e2=>?_
      refine ⟨ρ',p',?_,e2⟩
      refine rg (ZY h1) ?_
      have r1:=rdn_plain (text:=text) (x:=x) (v2:= .loc (τ.length+3+1)) (σ:=LT n (p+1) τ) h4
      have a1:=aug_str (x:=x) (v2:= .loc (τ.length+3+1)) (y:= [c]) (σ:=LT n (p+1) τ) (by simp only [zv]; simp; lia)
      refine rg hb ?_
      have s1:gb1 text [.cst 0, .str x, .loc (τ.length+3+1), .str [c]] (LT n (p+1) τ)=some (.next, [.cst 0, .str (x++ [c]), .loc (τ.length+3+1), .str [c]],LT n (p+1) τ):=by
        have c0:fIfS (fCmp .Eq (fVar 3) (za (.str [34]))) (fSeq (fRet (fVar 1)) zh) (rdNext text) [.cst 0, .str x, .loc (τ.length+3+1), .str [c]] (LT n (p+1) τ)=some (.next, [.cst 0, .str x, .loc (τ.length+3+1), .str [c]],LT n (p+1) τ):=by
          refine rl r1 ?_
          simp [fIfS,fCmp,fVar,za,ev_c1,Zd,ev_v3,eqvS,V.pd,h3]
        simp only [gb1,fSeq,c0,a1,zh]
      have g1:tVar 3 (.str [c]) [.cst 0, .str x, .loc (τ.length+3+1),v3]=some [.cst 0, .str x, .loc (τ.length+3+1), .str [c]]:=rfl
      simp only [g1,s1]
      refine rg e1 ?_; simp
theorem loop2:∀(u:List Nat) (n p:Nat) (x:List Nat) (v3:V) (k:Nat) (g:Nat) (more:List Nat),(∀c∈u,c≠10)→x.length+u.length≤100→u.length<k→g=32∨g=9→At text p ((u.map fun c=> [92,c]).flatten++g::more)→
    ∃ρ' p',citN (zo text) (tVar 3) (gb2 text) (τ.length+3+1) k [.cst 0, .str x, .loc (τ.length+3+1),v3] (LT n p τ)=some (.ret (.str (x++u)),ρ',LT n p' τ)∧At text p' more
  | [],n,p,x,v3,k+1,g,more,_,_,_,hg,h=>by
    have h:At text p (g::more):=h
    refine ⟨[.cst 0, .str x, .loc (τ.length+3+1), .str [g]],p+1,?_,h.step⟩
    refine rg (ZY h) ?_
    have hb:bump g n=n:=by rcases hg with rfl | rfl <;> rfl
    refine rg hb ?_
    have g1:tVar 3 (.str [g]) [.cst 0, .str x, .loc (τ.length+3+1),v3]=some [.cst 0, .str x, .loc (τ.length+3+1), .str [g]]:=rfl
    have w1:=ws_in (c:=g) (n:=n) (p:=p+1) (τ:=τ) (x:=x) (v2:= .loc (τ.length+3+1))
    have hgc: [10,9,13,32].contains g=true:=by rcases hg with rfl | rfl <;> rfl
    rw [hgc] at w1
    simp only [g1,gb2,fSeq,fIfS,w1,fRet,fVar,List.getElem?_cons_zero,List.getElem?_cons_succ,List.append_nil]
  | c::u,n,p,x,v3,k+1,g,more,hu,hl,hk,hg,h=>by
    have hc:c≠10:=hu c List.mem_cons_self
    have hb:bump c n=n:=if_neg hc
    simp only [List.length_cons] at hl hk
    have h1:At text p (92::c::((u.map fun c=> [92,c]).flatten++g::more)):=by simpa using h
    have h2:=h1.step
    refine xe22 (loop2 u n (p+1+1) (x++ [c]) (.str [c]) k g more (fun d hd=>hu d (List.mem_cons_of_mem _ hd)) (by simp; lia) (by exact Nat.le_of_lt_succ ‹_›) hg h2.step) fun ρ' p' e1 e2=>?_
    refine ⟨ρ',p',?_,e2⟩
    refine rg (ZY h1) ?_
    have r1:=rdn_esc (n:=n) (τ:=τ) (x:=x) (v2:= .loc (τ.length+3+1)) h2
    rw [hb] at r1
    have a1:=aug_str (x:=x) (v2:= .loc (τ.length+3+1)) (y:= [c]) (σ:=LT n (p+1+1) τ) (by simp only [zv]; simp; lia)
    have b1:bump 92 n=n:=rfl
    refine rg b1 ?_
    have w1:=ws_in (c:=92) (n:=n) (p:=p+1) (τ:=τ) (x:=x) (v2:= .loc (τ.length+3+1))
    have hgc: [10,9,13,32].contains 92=false:=rfl
    rw [hgc] at w1
    have s1:gb2 text [.cst 0, .str x, .loc (τ.length+3+1), .str [92]] (LT n (p+1) τ)=some (.next, [.cst 0, .str (x++ [c]), .loc (τ.length+3+1), .str [c]],LT n (p+1+1) τ):=by
      have c0:fIfS (fCmp .In (fVar 3) (yO (fVar 0) "whitespace")) (fSeq (fRet (fVar 1)) zh) (rdNext text) [.cst 0, .str x, .loc (τ.length+3+1), .str [92]] (LT n (p+1) τ)=some (.next, [.cst 0, .str x, .loc (τ.length+3+1), .str [c]],LT n (p+1+1) τ):=by
        refine rl r1 ?_
        skip
        rfl
      simp only [gb2,fSeq,c0,a1,zh]
    have g1:tVar 3 (.str [92]) [.cst 0, .str x, .loc (τ.length+3+1),v3]=some [.cst 0, .str x, .loc (τ.length+3+1), .str [92]]:=rfl
    simp only [g1,s1]
    refine rg e1 ?_; simp
end
end Mi
namespace Mi
theorem wd_mem(d:Nat):∀c∈wd d,c≠10:=by
  intro c hc
  unfold wd at hc
  have key:∀x∈sig,x≠10:=by decide
  rcases List.mem_cons.mp hc with rfl | hc
  · have h6:d%6<6:=Nat.mod_lt _ (by decide)
    generalize d%6=a at *
    clear hc
    revert a
    decide
  · cases e:sig[d/6%7]? with
    | none=>rw [e] at hc; simp at hc
    | some x=>
      rw [e] at hc
      simp at hc
      subst hc
      exact key _ (List.mem_of_getElem? e)
theorem wd_cons(d:Nat):∃c u,wd d=c::u:=⟨_,_,rfl⟩
noncomputable def wsp(w:Nat):Prop:=w=32∨w=9∨w=10
noncomputable def quoted(d:Nat):Bool:=d/42%2==0
noncomputable def remOf(d:Nat):List Nat:=if quoted d then gapOf d else []
theorem gap_one(d:Nat):∃g,gapOf d= [g]∧(g=32∨g=9):=by
  unfold gapOf
  split
  · exact ⟨32,rfl, .inl rfl⟩
  · exact ⟨9,rfl, .inr rfl⟩
section
variable {text:List Nat}{n p c:Nat}{r:List Nat}{τ:List AObj}
theorem outer_ws:∀(ws:List Nat) (n p:Nat) (v3:V) (k:Nat) (rest:List Nat),(∀w∈ws,wsp w)→At text p (ws++rest)→
    ∃v3',citN (zo text) (tVar 3) (gb0 text) (τ.length+3+1) (ws.length+k) [.cst 0, .str [], .loc (τ.length+3+1),v3] (LT n p τ)=citN (zo text) (tVar 3) (gb0 text) (τ.length+3+1) k [.cst 0, .str [], .loc (τ.length+3+1),v3'] (LT (n+ws.count 10) (p+ws.length) τ)∧At text (p+ws.length) rest
  | [],n,p,v3,k,rest,_,h=>⟨v3,by simp,h⟩
  | w::ws,n,p,v3,k,rest,hw,h=>by
    have h1:At text p (w::(ws++rest)):=h
    have hw0:=hw w List.mem_cons_self
    refine xe12 (outer_ws ws (bump w n) (p+1) (.str [w]) k rest (fun x hx=>hw x (List.mem_cons_of_mem _ hx)) h1.step) fun v3' e1 e2=>?_
    refine ⟨v3',?_,by
      have hp:p+(w::ws).length=p+1+ws.length:=by simp; lia
      refine rg hp ?_; exact e2⟩
    have hk:(w::ws).length+k=(ws.length+k)+1:=by simp; lia
    refine rg hk ?_; refine rg (ZY h1) ?_
    have g1:tVar 3 (.str [w]) [.cst 0, .str [], .loc (τ.length+3+1),v3]=some [.cst 0, .str [], .loc (τ.length+3+1), .str [w]]:=rfl
    have w1:=ws_in (c:=w) (n:=bump w n) (p:=p+1) (τ:=τ) (x:= []) (v2:= .loc (τ.length+3+1))
    have hgc: [10,9,13,32].contains w=true:=by rcases hw0 with rfl | rfl | rfl <;> rfl
    rw [hgc] at w1
    have s1:gb0 text [.cst 0, .str [], .loc (τ.length+3+1), .str [w]] (LT (bump w n) (p+1) τ)=some (.cont, [.cst 0, .str [], .loc (τ.length+3+1), .str [w]],LT (bump w n) (p+1) τ):=by
      skip
      simp only [fSeq,fIfS,w1,fCont]
    simp only [g1,s1]
    refine rg e1 ?_
    have hn:bump w n+ws.count 10=n+(w::ws).count 10:=by
      refine rg List.count_cons ?_
      unfold bump
      rcases hw0 with rfl | rfl | rfl <;> simp; lia
    refine rg hn ?_
    have hp:p+1+ws.length=p+(w::ws).length:=by simp; lia
    refine rg hp ?_; rfl
theorem outer_tok(d:Nat)(more:List Nat)(v3:V)(k:Nat)(h:At text p (tk d++more)) :
    ∃ρ' p',citN (zo text) (tVar 3) (gb0 text) (τ.length+3+1) (k+1) [.cst 0, .str [], .loc (τ.length+3+1),v3] (LT n p τ)=some (.ret (.str (wd d)),ρ',LT n p' τ)∧At text p' (remOf d++more):=by
  have hl:=wd_length d
  have hm:=wd_mem d
  have i2:∀(x:List Nat) (v:V) (σ:List AObj),fVar 2 [.cst 0, .str x, .loc (τ.length+3+1),v] σ=some (.loc (τ.length+3+1),σ):=fun _ _ _=>rfl
  unfold tk dress at h
  by_cases hq:d/42%2=0
  · rw [if_pos hq] at h
    have hr:remOf d=gapOf d:=by unfold remOf quoted; simp [hq]
    refine rg hr ?_
    have h1:At text p (34::(((wd d).map esc).flatten++34::(gapOf d++more))):=by simpa using h
    refine xe22 (loop1 (τ:=τ) (wd d) n (p+1) [] (.str [34]) 5 (gapOf d++more) hm (by simp; lia) (by lia) h1.step) fun ρ' p' e1 e2=>?_
    refine ⟨ρ',p',?_,e2⟩
    refine rg (ZY h1) ?_
    have g1:tVar 3 (.str [34]) [.cst 0, .str [], .loc (τ.length+3+1),v3]=some [.cst 0, .str [], .loc (τ.length+3+1), .str [34]]:=rfl
    have w1:=ws_in (c:=34) (n:=n) (p:=p+1) (τ:=τ) (x:= []) (v2:= .loc (τ.length+3+1))
    have hgc: [10,9,13,32].contains 34=false:=rfl
    rw [hgc] at w1
    have b1:bump 34 n=n:=rfl
    have c0:fCmp .Eq (fVar 3) (za (.str [34])) [.cst 0, .str [], .loc (τ.length+3+1), .str [34]] (LT n (p+1) τ)=some (true,LT n (p+1) τ):=by
      rfl
    have s1:gb0 text [.cst 0, .str [], .loc (τ.length+3+1), .str [34]] (LT n (p+1) τ)=some (.ret (.str (wd d)),ρ',LT n p' τ):=by
      skip
      simp only [fSeq,fIfS,w1,zh,c0,fForC,i2,citAll_of e1,List.nil_append]
    refine rg b1 ?_
    simp only [g1,s1]
  · rw [if_neg hq] at h
    have hr:remOf d= []:=by unfold remOf quoted; simp [hq]
    refine rg hr ?_
    refine xe21 (wd_cons d) fun c u hu=>?_
    refine xe12 (gap_one d) fun g hg hg2=>?_
    rw [hu] at h hl hm
    rw [hg] at h
    have h1:At text p (92::c::((u.map fun c=> [92,c]).flatten++g::more)):=by simpa using h
    have hc:c≠10:=hm c List.mem_cons_self
    have hb:bump c n=n:=if_neg hc
    simp only [List.length_cons] at hl
    refine xe22 (loop2 (τ:=τ) u n (p+1+1) [c] (.str [c]) 5 g more (fun x hx=>hm x (List.mem_cons_of_mem _ hx)) (by simp; lia) (by lia) hg2 h1.step.step) fun ρ' p' e1 e2=>?_
    refine ⟨ρ',p',?_,e2⟩
    refine rg (ZY h1) ?_
    have g1:tVar 3 (.str [92]) [.cst 0, .str [], .loc (τ.length+3+1),v3]=some [.cst 0, .str [], .loc (τ.length+3+1), .str [92]]:=rfl
    have w1:=ws_in (c:=92) (n:=n) (p:=p+1) (τ:=τ) (x:= []) (v2:= .loc (τ.length+3+1))
    have hgc: [10,9,13,32].contains 92=false:=rfl
    rw [hgc] at w1
    have b1:bump 92 n=n:=rfl
    have c0:fCmp .Eq (fVar 3) (za (.str [34])) [.cst 0, .str [], .loc (τ.length+3+1), .str [92]] (LT n (p+1) τ)=some (false,LT n (p+1) τ):=by
      assumption
    have r1:=rdn_esc (n:=n) (τ:=τ) (x:= []) (v2:= .loc (τ.length+3+1)) h1.step
    rw [hb] at r1
    have r2:fIfS (fCmp .Eq (fVar 3) (za (.str [92]))) (fSeq (fAsg (z7 "_read_char" (fVar 0) fNil (zo text)) (tVar 3)) zh) zh [.cst 0, .str [], .loc (τ.length+3+1), .str [92]] (LT n (p+1) τ)=some (.next, [.cst 0, .str [], .loc (τ.length+3+1), .str [c]],LT n (p+1+1) τ):=by
      have:=imeth_rc (n:=n) (τ:=τ) (ρ:= [.cst 0, .str [], .loc (τ.length+3+1), .str [92]]) rfl h1.step
      rw [hb] at this
      simp [fSeq,fIfS,fCmp,fVar,za,ev_c1,Zd,ev_v3,eqvS,V.pd,fAsg,this,tVar,zh]
    have a1:=aug_str (x:= []) (v2:= .loc (τ.length+3+1)) (y:= [c]) (σ:=LT n (p+1+1) τ) (by simp only [zv]; simp)
    rw [List.nil_append] at a1
    have s1:gb0 text [.cst 0, .str [], .loc (τ.length+3+1), .str [92]] (LT n (p+1) τ)=some (.ret (.str (wd d)),ρ',LT n p' τ):=by
      skip
      unfold fIfS at r2
      simp only [fSeq,fIfS,w1,zh,c0] at r2 ⊢
      simp only [r2,a1,fForC,i2,citAll_of e1]
      refine rg hu ?_; rfl
    refine rg b1 ?_
    simp only [g1,s1]
theorem gt_start{pv:List V}(h:zp text=fnG 4 1 (z4 text)){x:Fl × List V × List AObj}{k:Nat}(e:citN (zo text) (tVar 3) (gb0 text) (τ.length+3+1) k [.cst 0, .str [], .loc (τ.length+3+1), .undef] (LT n p τ)=some x) :
    z4 text [.cst 0, .undef, .undef, .undef] (LS3 [] n p τ)=(match x with
      | (.next,ρ,σ)=>(fSeq (fRet (fVar 1)) zh) ρ σ
      | (.brk,ρ,σ)=>some (.brk,ρ,σ)
      | (.cont,ρ,σ)=>some (.cont,ρ,σ)
      | (.ret v,ρ,σ)=>some (.ret v,ρ,σ)):=by
  dsimp only [get_token_form]
  have t0:yr (yO (fVar 0) "pushback") [.cst 0, .undef, .undef, .undef] (LS3 [] n p τ)=some (false,LS3 [] n p τ):=rfl
  have t1:fIterC "_read_char" (fVar 0) [.cst 0, .str [], .undef, .undef] (LS3 [] n p τ)=some (.loc (τ.length+3+1),LT n p τ):=by
    have h3:(nsL n).lookup ("_read_char":Str)=none:=by kernel_rfl
    simp [fIterC,fVar,h3]
  have i2:∀(x:List Nat) (v:V) (σ:List AObj),fVar 2 [.cst 0, .str x, .loc (τ.length+3+1),v] σ=some (.loc (τ.length+3+1),σ):=fun _ _ _=>rfl
  have a0:fAsg (za (.str [])) (tVar 1) [.cst 0, .undef, .undef, .undef] (LS3 [] n p τ)=some (.next, [.cst 0, .str [], .undef, .undef],LS3 [] n p τ):=rfl
  have a1:fAsg (fIterC "_read_char" (fVar 0)) (tVar 2) [.cst 0, .str [], .undef, .undef] (LS3 [] n p τ)=some (.next, [.cst 0, .str [], .loc (τ.length+3+1), .undef],LT n p τ):=by
    unfold fAsg
    refine rg t1 ?_; rfl
  have c1:fForC (zo text) (fVar 2) (tVar 3) (gb0 text) [.cst 0, .str [], .loc (τ.length+3+1), .undef] (LT n p τ)=some x:=by
    unfold fForC
    rw [i2]
    exact citAll_of e
  obtain ⟨fl,ρ,σ⟩:=x
  have b0:fIfS (yr (yO (fVar 0) "pushback")) (fSeq (fRet (zF (yO (fVar 0) "pushback") (zc (za (.int 0)) fNil) pPop)) zh) zh [.cst 0, .undef, .undef, .undef] (LS3 [] n p τ)=some (.next, [.cst 0, .undef, .undef, .undef],LS3 [] n p τ):=by
    skip
    refine rg t0 ?_; rfl
  rw [fSeq,b0]
  simp only
  rw [fSeq,a0]
  simp only
  rw [fSeq,a1]
  simp only
  rw [fSeq,c1]
  cases fl <;> rfl
theorem get_tok(ws:List Nat)(d:Nat)(more:List Nat)(hw:∀w∈ws,wsp w)(h:At text p (ws++(tk d++more))):∃p',zp text [.cst 0] (LS3 [] n p τ)=some (.str (wd d),LS3 [] (n+ws.count 10) p' τ)∧At text p' (remOf d++more):=by
  refine xe12 (outer_ws (τ:=τ) ws n p .undef 1 (tk d++more) hw h) fun v3' e1 e2=>?_
  refine xe22 (outer_tok (τ:=τ) (n:=n+ws.count 10) d more v3' 0 e2) fun ρ' p' e3 e4=>?_
  rw [e3] at e1
  refine ⟨p',?_,e4⟩
  have:=gt_start (pv:= []) rfl e1
  show fnG 4 1 (z4 text) [.cst 0] (LS3 [] n p τ)=_
  unfold fnG fnF
  rw [if_pos (show [V.cst 0].length=1 from rfl)]
  have t:z4 text ([.cst 0]++List.replicate (4- [V.cst 0].length) .undef) (LS3 [] n p τ)=_:=this
  refine rg t ?_
  exact finF3 rfl
theorem get_end(ws:List Nat)(hw:∀w∈ws,wsp w)(h:At text p ws):∃p',zp text [.cst 0] (LS3 [] n p τ)=some (.str [],LS3 [] (n+ws.count 10) p' τ)∧At text p' []:=by
  rw [←List.append_nil ws] at h
  refine xe12 (outer_ws (τ:=τ) ws n p .undef 1 [] hw h) fun v3' e1 e2=>?_
  have hs:(LT (n+ws.count 10) (p+ws.length) τ).set (τ.length+3+1) (.cit false (τ.length+3))=LS3 [] (n+ws.count 10) (p+ws.length) (τ++ [.bnd, .cit false (τ.length+3)]):=by
    simp [List.set_append_right]
  rw [cit_end e2,hs] at e1
  refine ⟨p+ws.length,?_,e2⟩
  have:=gt_start (pv:= []) rfl e1
  show fnG 4 1 (z4 text) [.cst 0] (LS3 [] n p τ)=_
  unfold fnG fnF
  rw [if_pos (show [V.cst 0].length=1 from rfl)]
  have t:z4 text ([.cst 0]++List.replicate (4- [V.cst 0].length) .undef) (LS3 [] n p τ)=_:=this
  refine rg t ?_
  exact finF3 rfl
end
end Mi
namespace Mi
noncomputable def toks(ds:List Nat):List Nat:=(ds.map tk).flatten
noncomputable def wV(d:Nat):V:= .str (wd d)
theorem rem_wsp(d:Nat):(∀w∈remOf d,wsp w)∧(remOf d).count 10=0:=by
  refine xe12 (gap_one d) fun g e hg=>?_
  unfold remOf
  split
  · refine rg e ?_
    rcases hg with rfl | rfl
    · exact ⟨by simp [wsp],rfl⟩
    · exact ⟨by simp [wsp],rfl⟩
  · exact ⟨by simp,rfl⟩
section
variable {text:List Nat}
noncomputable abbrev lrBody(text:List Nat):SF:=(fSeq (zX (zF (fIdx (fVar 1) (fBin (opOf .Sub) (yO (fVar 0) "lineno") (za (.int 1)))) (zc (fVar 2) fNil) zB))
  (fSeq (fAsg (z7 "get_token" (fVar 0) fNil (zp text)) (tVar 2)) zh))
noncomputable abbrev lrC:BF:=fCmp .NotEq (fVar 2) (za (.str []))
noncomputable abbrev ρR(t:List Nat):List V:= [.cst 0, .lst [.loc 3, .loc 4], .str t]
theorem imeth_gt{n p n' p':Nat}{τ:List AObj}{ρ:List V}{v:V}(h0:ρ[0]?=some (.cst 0))(h:zp text [.cst 0] (LS3 [] n p τ)=some (v,LS3 [] n' p' τ)):z7 "get_token" (fVar 0) fNil (zp text) ρ (LS3 [] n p τ)=some (v,LS3 [] n' p' τ):=by
  have h1:fVar 0 ρ (LS3 [] n p τ)=some (.cst 0,LS3 [] n p τ):=by unfold fVar; refine rg h0 ?_; rfl
  unfold z7
  refine rg h1 ?_
  have h2:(LS3 [] n p τ)[1]?=some (.ns (nsL n)):=rfl
  have h3:(nsL n).lookup ("get_token":Str)=none:=by kernel_rfl
  trivial
theorem lrC_true{t:List Nat}{σ:List AObj}(ht:t≠ []):lrC (ρR t) σ=some (true,σ):=by
  simp [lrC,fCmp,fVar,za,ev_c2,Zd,ev_v3,eqvS,V.pd,ht]
theorem lrC_false{σ:List AObj}:lrC (ρR []) σ=some (false,σ):=by
  rfl
theorem lr_app1{t:List Nat}{p:Nat}{us vs:List V}(hu:us.length<100):zX (zF (fIdx (fVar 1) (fBin (opOf .Sub) (yO (fVar 0) "lineno") (za (.int 1)))) (zc (fVar 2) fNil) zB) (ρR t) (LS3 [] 1 p [.list us, .list vs])=some (.next,ρR t,LS3 [] 1 p [.list (us++ [.str t]), .list vs]):=by
  have a:yO (fVar 0) "lineno" (ρR t) (LS3 [] 1 p [.list us, .list vs])=some (.int 1,LS3 [] 1 p [.list us, .list vs]):=rfl
  have i:ZR (LS3 [] 1 p [.list us, .list vs]) (.lst [.loc 3, .loc 4]) (.int 0)=some (.loc 3):=rfl
  have hl:us.length<LIM:=by simp only [zv]; lia
  simp only [zX,zF,fIdx,fVar,fBin,a,za,ev_o1,ev_a4,List.getElem?_cons_zero,List.getElem?_cons_succ,Option.map_some,Int.sub_self,i,ev_v8,zc,fNil,zB,if_pos hl]
  rfl
theorem lr_app2{t:List Nat}{p:Nat}{us vs:List V}(hu:vs.length<100):zX (zF (fIdx (fVar 1) (fBin (opOf .Sub) (yO (fVar 0) "lineno") (za (.int 1)))) (zc (fVar 2) fNil) zB) (ρR t) (LS3 [] 2 p [.list us, .list vs])=some (.next,ρR t,LS3 [] 2 p [.list us, .list (vs++ [.str t])]):=by
  have a:yO (fVar 0) "lineno" (ρR t) (LS3 [] 2 p [.list us, .list vs])=some (.int 2,LS3 [] 2 p [.list us, .list vs]):=rfl
  have i:ZR (LS3 [] 2 p [.list us, .list vs]) (.lst [.loc 3, .loc 4]) (.int 1)=some (.loc 4):=rfl
  have hl:vs.length<LIM:=by simp only [zv]; lia
  have e21:(2:Int)-1=1:=rfl
  simp only [zX,zF,fIdx,fVar,fBin,a,za,ev_o1,ev_a4,List.getElem?_cons_zero,List.getElem?_cons_succ,Option.map_some,e21,i,ev_v8,zc,fNil,zB,if_pos hl]
  rfl
theorem lr_next{n p n' p':Nat}{τ:List AObj}{t t':List Nat}(h:zp text [.cst 0] (LS3 [] n p τ)=some (.str t',LS3 [] n' p' τ)):fAsg (z7 "get_token" (fVar 0) fNil (zp text)) (tVar 2) (ρR t) (LS3 [] n p τ)=some (.next,ρR t',LS3 [] n' p' τ):=by
  unfold fAsg
  refine rg (imeth_gt rfl h) ?_
  rfl
theorem lr_step1{p n' p':Nat}{us vs:List V}{t t':List Nat}(hu:us.length<100)(h:zp text [.cst 0] (LS3 [] 1 p [.list (us++ [.str t]), .list vs])=some (.str t',LS3 [] n' p' [.list (us++ [.str t]), .list vs])):lrBody text (ρR t) (LS3 [] 1 p [.list us, .list vs])=some (.next,ρR t',LS3 [] n' p' [.list (us++ [.str t]), .list vs]):=by
  unfold lrBody
  rw [fSeq,lr_app1 hu]
  simp only
  rw [fSeq,lr_next h]
  rfl
theorem lr_step2{p n' p':Nat}{us vs:List V}{t t':List Nat}(hu:vs.length<100)(h:zp text [.cst 0] (LS3 [] 2 p [.list us, .list (vs++ [.str t])])=some (.str t',LS3 [] n' p' [.list us, .list (vs++ [.str t])])):lrBody text (ρR t) (LS3 [] 2 p [.list us, .list vs])=some (.next,ρR t',LS3 [] n' p' [.list us, .list (vs++ [.str t])]):=by
  unfold lrBody
  rw [fSeq,lr_app2 hu]
  simp only
  rw [fSeq,lr_next h]
  rfl
theorem wd_ne(d:Nat):wd d≠ []:=by unfold wd; simp
theorem lr_second:∀(ds:List Nat) (t:List Nat) (p:Nat) (us vs:List V) (ws:List Nat),t≠ []→(∀w∈ws,wsp w)→ws.count 10=0→vs.length+ds.length<50→At text p (ws++toks ds)→
    ∃p',yA lrC (lrBody text) (ρR t) (LS3 [] 2 p [.list us, .list vs])=some (.next,ρR [],LS3 [] 2 p' [.list us, .list (vs ++ .str t::ds.map wV)])∧At text p' []
  | [],t,p,us,vs,ws,ht,hw,h10,hl,h=>by
    have h:At text p ws:=by simpa [toks] using h
    refine xe12 (get_end (n:=2) (τ:= [.list us, .list (vs++ [.str t])]) ws hw h) fun p' e1 e2=>?_
    rw [h10] at e1
    refine ⟨p',?_,e2⟩
    exact z5 (lrC_true ht) (.inl (lr_step2 (by lia) e1)) (zO lrC_false)
  | d::ds,t,p,us,vs,ws,ht,hw,h10,hl,h=>by
    have h:At text p (ws++(tk d++toks ds)):=by simpa [toks] using h
    refine xe12 (get_tok (n:=2) (τ:= [.list us, .list (vs++ [.str t])]) ws d (toks ds) hw h) fun p' e1 e2=>?_
    rw [h10] at e1
    simp only [List.length_cons] at hl
    refine xe12 (lr_second ds (wd d) p' us (vs++ [.str t]) (remOf d) (wd_ne d) (rem_wsp d).1 (rem_wsp d).2 (by simp; lia) e2) fun p'' e3 e4=>?_
    refine ⟨p'',?_,e4⟩
    have:=z5 (lrC_true ht) (.inl (lr_step2 (by lia) e1)) e3
    refine rg this ?_
    simp [wV]
theorem lr_first:∀(ds:List Nat) (t:List Nat) (p:Nat) (us:List V) (ws:List Nat) (d0:Nat) (es:List Nat),t≠ []→(∀w∈ws,wsp w)→ws.count 10=0→us.length+ds.length+es.length<40→At text p (ws++toks ds++10::toks (d0::es))→
    ∃p',yA lrC (lrBody text) (ρR t) (LS3 [] 1 p [.list us, .list []])=some (.next,ρR [],LS3 [] 2 p' [.list (us ++ .str t::ds.map wV), .list ((d0::es).map wV)])∧At text p' []
  | [],t,p,us,ws,d0,es,ht,hw,h10,hl,h=>by
    have h:At text p ((ws++ [10])++(tk d0++toks es)):=by simpa [toks] using h
    have hw':∀w∈ws++ [10],wsp w:=by
      intro w hm
      rcases List.mem_append.mp hm with hm | hm
      · exact hw w hm
      · simp at hm; subst hm; exact .inr (.inr rfl)
    refine xe12 (get_tok (n:=1) (τ:= [.list (us++ [.str t]), .list []]) (ws++ [10]) d0 (toks es) hw' h) fun p' e1 e2=>?_
    have hc:(ws++ [10]).count 10=1:=by refine rg List.count_append ?_; refine rg h10 ?_; rfl
    rw [hc] at e1
    simp only [List.length_nil] at hl
    refine xe12 (lr_second es (wd d0) p' (us++ [.str t]) [] (remOf d0) (wd_ne d0) (rem_wsp d0).1 (rem_wsp d0).2 (by simp; lia) e2) fun p'' e3 e4=>?_
    refine ⟨p'',?_,e4⟩
    have:=z5 (lrC_true ht) (.inl (lr_step1 (by lia) e1)) e3
    refine rg this ?_
    rfl
  | d::ds,t,p,us,ws,d0,es,ht,hw,h10,hl,h=>by
    have h:At text p (ws++(tk d++(toks ds++10::toks (d0::es)))):=by simpa [toks] using h
    refine xe12 (get_tok (n:=1) (τ:= [.list (us++ [.str t]), .list []]) ws d _ hw h) fun p' e1 e2=>?_
    rw [h10] at e1
    simp only [List.length_cons] at hl
    refine xe12 (lr_first ds (wd d) p' (us++ [.str t]) (remOf d) d0 es (wd_ne d) (rem_wsp d).1 (rem_wsp d).2 (by simp; lia) (by simpa using e2)) fun p'' e3 e4=>?_
    refine ⟨p'',?_,e4⟩
    have:=z5 (lrC_true ht) (.inl (lr_step1 (by lia) e1)) e3
    refine rg this ?_
    simp [wV]
theorem law_read{d0 e0:Nat}{ds es:List Nat}(hl:ds.length+es.length<30)(h:text=toks (d0::ds)++10::toks (e0::es)) :
    ∃p',F__law_read text [.cst 0] (LS3 [] 1 0 [])=some (.lst [.lst ((d0::ds).map wV), .lst ((e0::es).map wV)],LS3 [] 2 p' [])∧At text p' []:=by
  have h0:At text 0 ([]++(tk d0++(toks ds++10::toks (e0::es)))):=⟨by refine rg h ?_; simp [toks],by refine rg h ?_; simp [toks]⟩
  refine xe12 (get_tok (n:=1) (τ:= [.list [], .list []]) [] d0 _ (by simp) h0) fun p1 e1 e2=>?_
  have e1:zp text [.cst 0] (LS3 [] 1 0 [.list [], .list []])=some (.str (wd d0),LS3 [] 1 p1 [.list [], .list []]):=e1
  refine xe12 (lr_first ds (wd d0) p1 [] (remOf d0) e0 es (wd_ne d0) (rem_wsp d0).1 (rem_wsp d0).2 (by simp; lia) (by simpa using e2)) fun p2 e3 e4=>?_
  refine ⟨p2,?_,e4⟩
  show fnG 3 1 (Zi text) [.cst 0] (LS3 [] 1 0 [])=_
  unfold fnG fnF
  rw [if_pos (show [V.cst 0].length=1 from rfl)]
  have a0:fAsg (fLst (zc (fNew fNil) (zc (fNew fNil) fNil))) (tVar 1) [.cst 0, .undef, .undef] (LS3 [] 1 0 [])=some (.next, [.cst 0, .lst [.loc 3, .loc 4], .undef],LS3 [] 1 0 [.list [], .list []]):=rfl
  have a1:fAsg (z7 "get_token" (fVar 0) fNil (zp text)) (tVar 2) [.cst 0, .lst [.loc 3, .loc 4], .undef] (LS3 [] 1 0 [.list [], .list []])=some (.next,ρR (wd d0),LS3 [] 1 p1 [.list [], .list []]):=by
    unfold fAsg
    refine rg (imeth_gt rfl e1) ?_
    rfl
  have t:Zi text ([.cst 0]++List.replicate (3- [V.cst 0].length) .undef) (LS3 [] 1 0 [])=some (.ret (.lst [.loc 3, .loc 4]),ρR [],LS3 [] 2 p2 [.list ((d0::ds).map wV), .list ((e0::es).map wV)]):=by
    show Zi text [.cst 0, .undef, .undef] (LS3 [] 1 0 [])=_
    unfold Zi
    rw [fSeq,a0]
    simp only
    rw [fSeq,a1]
    simp only
    rw [fSeq,e3]
    rfl
  refine rg t ?_
  simp only
  unfold finF
  have hm:∀(l:List Nat) (σ:List AObj) (k n:Nat),(l.map wV).map (V.frz n σ k)=l.map wV:=fun l σ k n=>by
    refine rg List.map_map ?_
    refine List.map_congr_left fun x _=>?_
    exact V.frz_nl k (v:=wV x) rfl
  have hf:V.frz (LS3 [] 1 0 []).length (LS3 [] 2 p2 [.list ((d0::ds).map wV), .list ((e0::es).map wV)]) 6 (.lst [.loc 3, .loc 4]) = .lst [.lst ((d0::ds).map wV), .lst ((e0::es).map wV)]:=by
    show V.lst [V.lst (((d0::ds).map wV).map (V.frz 3 _ 4)),V.lst (((e0::es).map wV).map (V.frz 3 _ 4))]=_
    rw [hm,hm]
  refine rg hf ?_
  have hb:V.blw (LS3 [] 1 0 []).length (.lst [.lst ((d0::ds).map wV), .lst ((e0::es).map wV)])=true:=by
    refine V.blw_nl ?_
    show (V.nls ((d0::ds).map wV)&&(V.nls ((e0::es).map wV)&&true))=true
    have hn:∀l:List Nat,V.nls (l.map wV)=true:=fun l=>V.nls_iff.mpr fun v hv=>by
      obtain ⟨x,_,rfl⟩:=List.mem_map.mp hv
      rfl
    rw [hn,hn]; rfl
  rw [if_pos ⟨kept3 (τ:= []),hb⟩]
  rfl
end
end Mi
namespace Mi
noncomputable def sc(x y:Nat):Int:=if x=y then 0 else if lowOf x=lowOf y then 1 else 2
theorem low_ev{σ:List AObj}{x:Nat}(h:x∈y6):pLower σ (.str [x]) []=some (.str [lowOf x],σ):=if_pos ⟨h,rfl⟩
theorem sub_cost{σ:List AObj}{x y:Nat}(hx:x∈y6)(hy:y∈y6):zR [.str [x], .str [y]] σ=some (.int (sc x y),σ):=by
  refine fnG_ret0 (ρ':= [.str [x], .str [y]]) ?_ rfl
  show zQ [.str [x], .str [y]] σ=_
  unfold sc
  by_cases h1:x=y
  · simp [zQ,fSeq,za,fVar,fRet,fIfS,fCmp,ev_c1,ev_v3,Zd,eqvS,V.pd,h1]
  · by_cases h2:lowOf x=lowOf y
    · simp [zQ,fSeq,zh,za,fVar,fRet,fIfS,fCmp,fNil,ev_c1,ev_v3,Zd,eqvS,V.pd,h1,h2,fSMeth,low_ev hx,low_ev hy]
    · simp [zQ,fSeq,zh,za,fVar,fRet,fIfS,fCmp,fNil,ev_c1,ev_v3,Zd,eqvS,V.pd,h1,h2,fSMeth,low_ev hx,low_ev hy]
noncomputable def imin(a b:Int):Int:=if b<a then b else a
structure DS where
  dist:Int
  res:Int
  mn:Int
  row:List Int
noncomputable def istep(bc:Nat)(a:List Nat)(s:DS)(i:Nat):DS:=
  let r:=imin (imin s.res (s.row.getD i 0)+2) (s.dist+sc bc (a.getD i 0))
  ⟨s.row.getD i 0,r,if r<s.mn then r else s.mn,s.row.set i r⟩
noncomputable abbrev ib:SF:=(fSeq (fAsg (fBin (opOf .Add) (fVar 9) (zy (zc (fVar 8) (zc (fIdx (fVar 0) (fVar 11)) fNil)) zR)) (tVar 12))
  (fSeq (fAsg (fIdx (fVar 5) (fVar 11)) (tVar 9))
  (fSeq (fAsg (fBin (opOf .Add) (zj (zc (fVar 6) (zc (fVar 9) fNil)) pMin2) (za (.int 2))) (tVar 13))
  (fSeq (fAsg (zj (zc (fVar 13) (zc (fVar 12) fNil)) pMin2) (tVar 6))
  (fSeq (fSet (fVar 6) (fVar 5) (fVar 11))
  (fSeq (fIfS (fCmp .Lt (fVar 6) (fVar 10)) (fSeq (fAsg (fVar 6) (tVar 10))
  zh) zh)
  zh))))))
noncomputable abbrev ρD(a b cap p3 p4 row res bi bc di mi ix sb idl:V):List V:= [a,b,cap,p3,p4,row,res,bi,bc,di,mi,ix,sb,idl]
theorem str_idx{σ:List AObj}{a:List Nat}{i:Nat}(h:i<a.length):ZR σ (.str a) (.int i)=some (.str [a.getD i 0]):=by
  simp [ZR,nth_nat h,List.getElem?_eq_getElem h,List.getD_eq_getElem?_getD]
theorem row_idx{σ:List AObj}{row:List Int}{i:Nat}(h:i<row.length):ZR (σ++ [.list (row.map .int)]) (.loc σ.length) (.int i)=some (.int (row.getD i 0)):=by
  have hg:(σ++ [AObj.list (row.map .int)])[σ.length]?=some (.list (row.map .int)):=by simp
  simp [ZR,ev_w3,nth_nat h,List.getElem?_eq_getElem h,List.getD_eq_getElem?_getD]
theorem row_set{σ:List AObj}{row:List Int}{i:Nat}{x:Int}(h:i<row.length):setOf (σ++ [.list (row.map .int)]) (.loc σ.length) (.int i) (.int x)=some (σ++ [.list ((row.set i x).map .int)]):=by
  have hg:(σ++ [AObj.list (row.map .int)])[σ.length]?=some (.list (row.map .int)):=by simp
  simp [setOf,h,List.set_append_right,List.map_set]
theorem ib_step{a:List Nat}{b cap p3 p4 bi sb idl:V}{bc:Nat}{s:DS}{i:Nat}{σ:List AObj}(hi:i<a.length)(hr:i<s.row.length)(hbc:bc∈y6)(ha:∀c∈a,c∈y6) :
    ∃sb' idl',ib (ρD (.str a) b cap p3 p4 (.loc σ.length) (.int s.res) bi (.str [bc]) (.int s.dist) (.int s.mn) (.int i) sb idl) (σ++ [.list (s.row.map .int)]) =
      some (.next,ρD (.str a) b cap p3 p4 (.loc σ.length) (.int (istep bc a s i).res) bi (.str [bc]) (.int (istep bc a s i).dist) (.int (istep bc a s i).mn) (.int i) sb' idl',σ++ [.list ((istep bc a s i).row.map .int)]):=by
  have hai:a.getD i 0∈y6:=by
    refine rg List.getD_eq_getElem?_getD ?_; refine rg (List.getElem?_eq_getElem hi) ?_
    exact ha _ (List.getElem_mem hi)
  have e1:=str_idx (σ:=σ++ [.list (s.row.map .int)]) hi
  have e2:=sub_cost (σ:=σ++ [.list (s.row.map .int)]) hbc hai
  have e3:=row_idx (σ:=σ) hr
  have e4:=row_set (σ:=σ) (x:=(istep bc a s i).res) hr
  refine ⟨.int (s.dist+sc bc (a.getD i 0)), .int (imin s.res (s.row.getD i 0)+2),?_⟩
  have s1:fAsg (fBin (opOf .Add) (fVar 9) (zy (zc (fVar 8) (zc (fIdx (fVar 0) (fVar 11)) fNil)) zR)) (tVar 12) (ρD (.str a) b cap p3 p4 (.loc σ.length) (.int s.res) bi (.str [bc]) (.int s.dist) (.int s.mn) (.int i) sb idl) (σ++ [.list (s.row.map .int)]) =
      some (.next,ρD (.str a) b cap p3 p4 (.loc σ.length) (.int s.res) bi (.str [bc]) (.int s.dist) (.int s.mn) (.int i) (.int (s.dist+sc bc (a.getD i 0))) idl,σ++ [.list (s.row.map .int)]):=by
    simp only [fAsg,fBin,fVar,zy,zc,fIdx,fNil,List.getElem?_cons_zero,List.getElem?_cons_succ,e1,Option.map_some,e2,ev_o0,ev_a1]
    rfl
  have s2:∀sb,fAsg (fIdx (fVar 5) (fVar 11)) (tVar 9) (ρD (.str a) b cap p3 p4 (.loc σ.length) (.int s.res) bi (.str [bc]) (.int s.dist) (.int s.mn) (.int i) sb idl) (σ++ [.list (s.row.map .int)]) =
      some (.next,ρD (.str a) b cap p3 p4 (.loc σ.length) (.int s.res) bi (.str [bc]) (.int (s.row.getD i 0)) (.int s.mn) (.int i) sb idl,σ++ [.list (s.row.map .int)]):=by
    intro sb
    simp only [fAsg,fVar,fIdx,List.getElem?_cons_zero,List.getElem?_cons_succ,e3,Option.map_some]
    rfl
  have s3:∀(x:Int) sb,fAsg (fBin (opOf .Add) (zj (zc (fVar 6) (zc (fVar 9) fNil)) pMin2) (za (.int 2))) (tVar 13) (ρD (.str a) b cap p3 p4 (.loc σ.length) (.int s.res) bi (.str [bc]) (.int x) (.int s.mn) (.int i) sb idl) (σ++ [.list (s.row.map .int)]) =
      some (.next,ρD (.str a) b cap p3 p4 (.loc σ.length) (.int s.res) bi (.str [bc]) (.int x) (.int s.mn) (.int i) sb (.int (imin s.res x+2)),σ++ [.list (s.row.map .int)]):=fun _ _=>rfl
  have s4:∀(x y z:Int),fAsg (zj (zc (fVar 13) (zc (fVar 12) fNil)) pMin2) (tVar 6) (ρD (.str a) b cap p3 p4 (.loc σ.length) (.int s.res) bi (.str [bc]) (.int x) (.int s.mn) (.int i) (.int y) (.int z)) (σ++ [.list (s.row.map .int)]) =
      some (.next,ρD (.str a) b cap p3 p4 (.loc σ.length) (.int (imin z y)) bi (.str [bc]) (.int x) (.int s.mn) (.int i) (.int y) (.int z),σ++ [.list (s.row.map .int)]):=fun _ _ _=>rfl
  have s5:∀(x y z:V),fSet (fVar 6) (fVar 5) (fVar 11) (ρD (.str a) b cap p3 p4 (.loc σ.length) (.int (istep bc a s i).res) bi (.str [bc]) x (.int s.mn) (.int i) y z) (σ++ [.list (s.row.map .int)]) =
      some (.next,ρD (.str a) b cap p3 p4 (.loc σ.length) (.int (istep bc a s i).res) bi (.str [bc]) x (.int s.mn) (.int i) y z,σ++ [.list ((s.row.set i (istep bc a s i).res).map .int)]):=by
    intro x y z
    simp only [fSet,fVar,List.getElem?_cons_zero,List.getElem?_cons_succ,e4,Option.map_some]
  have s6:∀(x y z:V) (r:Int) (τ:List AObj),fIfS (fCmp .Lt (fVar 6) (fVar 10)) (fSeq (fAsg (fVar 6) (tVar 10)) zh) zh (ρD (.str a) b cap p3 p4 (.loc σ.length) (.int r) bi (.str [bc]) x (.int s.mn) (.int i) y z) τ =
      some (.next,ρD (.str a) b cap p3 p4 (.loc σ.length) (.int r) bi (.str [bc]) x (.int (if r<s.mn then r else s.mn)) (.int i) y z,τ):=by
    intro x y z r τ
    by_cases h:r<s.mn
    · simp [fSeq,zh,fAsg,tVar,fVar,fIfS,fCmp,ev_c3,ev_l1,h]
    · simp [zh,fVar,fIfS,fCmp,ev_c3,ev_l1,h]
  rw [ib,fSeq,s1]
  simp only
  rw [fSeq,s2]
  simp only
  rw [fSeq,s3]
  simp only
  rw [fSeq,s4]
  simp only
  have hres:imin (imin s.res (s.row.getD i 0)+2) (s.dist+sc bc (a.getD i 0))=(istep bc a s i).res:=rfl
  rw [hres,fSeq,s5]
  simp only
  rw [fSeq,s6]
  rfl
theorem istep_len{bc:Nat}{a:List Nat}{s:DS}{i:Nat}:(istep bc a s i).row.length=s.row.length:=by exact List.length_set
theorem inner_loop{a:List Nat}{b cap p3 p4 bi:V}{bc:Nat}{σ:List AObj}(hbc:bc∈y6)(ha:∀c∈a,c∈y6):∀(is:List Nat) (s:DS) (ix sb idl:V),(∀i∈is,i<a.length)→s.row.length=a.length→
    ∃ix' sb' idl',forL (tVar 11) ib (is.map fun i:Nat=> .int i) (ρD (.str a) b cap p3 p4 (.loc σ.length) (.int s.res) bi (.str [bc]) (.int s.dist) (.int s.mn) ix sb idl) (σ++ [.list (s.row.map .int)]) =
      some (.next,ρD (.str a) b cap p3 p4 (.loc σ.length) (.int (is.foldl (istep bc a) s).res) bi (.str [bc]) (.int (is.foldl (istep bc a) s).dist) (.int (is.foldl (istep bc a) s).mn) ix' sb' idl',σ++ [.list ((is.foldl (istep bc a) s).row.map .int)])
  | [],s,ix,sb,idl,_,_=>⟨ix,sb,idl,rfl⟩
  | i::is,s,ix,sb,idl,hi,hr=>by
    have hi0:=hi i List.mem_cons_self
    refine xe21 (ib_step (b:=b) (cap:=cap) (p3:=p3) (p4:=p4) (bi:=bi) (sb:=sb) (idl:=idl) (σ:=σ) (s:=s) hi0 (by lia) hbc ha) fun sb' idl' e=>?_
    obtain ⟨ix'',sb'',idl'',e2⟩:=inner_loop hbc ha is (istep bc a s i) (.int i) sb' idl' (fun j hj=>hi j (List.mem_cons_of_mem _ hj)) (by refine rg istep_len ?_; exact hr)
    refine ⟨ix'',sb'',idl'',?_⟩
    have t:tVar 11 (.int i) (ρD (.str a) b cap p3 p4 (.loc σ.length) (.int s.res) bi (.str [bc]) (.int s.dist) (.int s.mn) ix sb idl)=some (ρD (.str a) b cap p3 p4 (.loc σ.length) (.int s.res) bi (.str [bc]) (.int s.dist) (.int s.mn) (.int i) sb idl):=rfl
    rw [List.map_cons,forL,t]
    simp only [e]
    refine rg e2 ?_
    rfl
end Mi
namespace Mi
noncomputable def BIG:Int:=9223372036854775807
noncomputable def oRow(a b:List Nat)(j:Nat)(row:List Int):DS:=(List.range a.length).foldl (istep (b.getD j 0) a) ⟨2*j,2*j,BIG,row⟩
noncomputable def outP(a b:List Nat)(cap:Int):List Nat→List Int→Int→Bool × Int
  | [],_,res=>(false,res)
  | j::js,row,_=>if cap<(oRow a b j row).mn then (true,cap+1) else outP a b cap js (oRow a b j row).row (oRow a b j row).res
theorem rng0:∀n:Nat,n≤3→yW [.int n]=some (0,(n:Int),1)∧rngL 0 n 1=(List.range n).map fun i:Nat=> .int i
  | 0,_=>⟨by simp [ev_r1],by unfold rngL; refine rg (show rngN 0 ((0:Nat):Int) 1=0 by decide +kernel) ?_; simp⟩
  | 1,_=>⟨by simp [ev_r1],by unfold rngL; refine rg (show rngN 0 ((1:Nat):Int) 1=1 by decide +kernel) ?_; simp⟩
  | 2,_=>⟨by simp [ev_r1],by unfold rngL; refine rg (show rngN 0 ((2:Nat):Int) 1=2 by decide +kernel) ?_; simp⟩
  | 3,_=>⟨by simp [ev_r1],by unfold rngL; refine rg (show rngN 0 ((3:Nat):Int) 1=3 by decide +kernel) ?_; simp⟩
  | n+4,h=>absurd h (by simp)
noncomputable def row0(n:Nat):List Int:=(List.range n).map fun i:Nat=>2+2*(i:Int)
theorem rng2:∀n:Nat,n≤3→yW [.int 2, .int (2*((n:Int)+1)), .int 2]=some (2,2*((n:Int)+1),2)∧rngN 2 (2*((n:Int)+1)) 2≤LIM∧rngL 2 (2*((n:Int)+1)) 2=(row0 n).map .int
  | 0,_=>⟨by simp [ev_r3],by dsimp only [show rngN 2 (2*(((0:Nat):Int)+1)) 2=0 by decide +kernel,zv]; decide,by unfold rngL row0; refine rg (show rngN 2 (2*(((0:Nat):Int)+1)) 2=0 by decide +kernel) ?_; rfl⟩
  | 1,_=>⟨by simp [ev_r3],by dsimp only [show rngN 2 (2*(((1:Nat):Int)+1)) 2=1 by decide +kernel,zv]; decide,by unfold rngL row0; refine rg (show rngN 2 (2*(((1:Nat):Int)+1)) 2=1 by decide +kernel) ?_; rfl⟩
  | 2,_=>⟨by simp [ev_r3],by dsimp only [show rngN 2 (2*(((2:Nat):Int)+1)) 2=2 by decide +kernel,zv]; decide,by unfold rngL row0; refine rg (show rngN 2 (2*(((2:Nat):Int)+1)) 2=2 by decide +kernel) ?_; rfl⟩
  | 3,_=>⟨by simp [ev_r3],by dsimp only [show rngN 2 (2*(((3:Nat):Int)+1)) 2=3 by decide +kernel,zv]; decide,by unfold rngL row0; refine rg (show rngN 2 (2*(((3:Nat):Int)+1)) 2=3 by decide +kernel) ?_; rfl⟩
  | n+4,h=>absurd h (by simp)
theorem fRange_of{g:EsF}{ρ vs:List V}{σ σ1:List AObj}{a b c:Int}{l:List V}(hg:g ρ σ=some (vs,σ1))(hr:yW vs=some (a,b,c))(hl:rngL a b c=l):yI g ρ σ=some (l,σ1):=by
  unfold yI
  refine rg hg ?_
  simp only [hr,Option.map_some,hl]
theorem rng_var0{a:List Nat}(h:a.length≤3){r1 r2 r3 r4 r5 r6 r7 r8 r9 r10 r11 r12 r13:V}{σ:List AObj}:yI (zc (zj (zc (fVar 0) fNil) pLen) fNil) (ρD (.str a) r1 r2 r3 r4 r5 r6 r7 r8 r9 r10 r11 r12 r13) σ=some ((List.range a.length).map fun i:Nat=> .int i,σ):=
  fRange_of (vs:= [.int a.length]) rfl (rng0 a.length h).1 (rng0 a.length h).2
theorem rng_var1{b:List Nat}(h:b.length≤3){r1 r2 r3 r4 r5 r6 r7 r8 r9 r10 r11 r12 r13:V}{σ:List AObj}:yI (zc (zj (zc (fVar 1) fNil) pLen) fNil) (ρD r1 (.str b) r2 r3 r4 r5 r6 r7 r8 r9 r10 r11 r12 r13) σ=some ((List.range b.length).map fun i:Nat=> .int i,σ):=
  fRange_of (vs:= [.int b.length]) rfl (rng0 b.length h).1 (rng0 b.length h).2
theorem zf{f g:SF}{ρ ρ1:List V}{σ σ1:List AObj}{R:Option (Fl × List V × List AObj)}(h:f ρ σ=some (.next,ρ1,σ1))(k:g ρ1 σ1=R):fSeq f g ρ σ=R:=by
  unfold fSeq
  refine rg h ?_
  exact k
theorem ZF{f g:SF}{ρ ρ1:List V}{σ σ1:List AObj}{v:V}(h:f ρ σ=some (.ret v,ρ1,σ1)):fSeq f g ρ σ=some (.ret v,ρ1,σ1):=by
  unfold fSeq
  refine rg h ?_; rfl
theorem zJ{op:V→V→Option V}{f g:EF}{ρ:List V}{σ σ1 σ2:List AObj}{a b v:V}(hf:f ρ σ=some (a,σ1))(hg:g ρ σ1=some (b,σ2))(ho:op a b=some v):fBin op f g ρ σ=some (v,σ2):=by
  unfold fBin
  refine rg hf ?_
  simp only [hg,ho,Option.map_some]
theorem opMul_of{j:Int}(h: -1000000<j∧j<1000000):opOf .Mult (.int j) (.int 2)=some (.int (2*j)):=by
  show opMul (.int j) (.int 2)=_
  simp only [ev_a5,if_pos h,Int.mul_comm]
theorem zw{f:EF}{g:TF}{ρ ρ1:List V}{σ σ1:List AObj}{v:V}(hf:f ρ σ=some (v,σ1))(hg:g v ρ=some ρ1):fAsg f g ρ σ=some (.next,ρ1,σ1):=by
  unfold fAsg
  refine rg hf ?_
  simp only [hg,Option.map_some]
theorem fAsg2_of{f:EF}{g h:TF}{ρ ρ1 ρ2:List V}{σ σ1:List AObj}{v:V}(hf:f ρ σ=some (v,σ1))(hg:g v ρ=some ρ1)(hh:h v ρ1=some ρ2):fAsg2 f g h ρ σ=some (.next,ρ2,σ1):=by
  unfold fAsg2
  refine rg hf ?_
  simp only [hg,hh,Option.map_some]
theorem fFor_of{f:EsF}{g:TF}{b:SF}{ρ vs:List V}{σ σ1:List AObj}{R:Option (Fl × List V × List AObj)}(hf:f ρ σ=some (vs,σ1))(e:forL g b vs ρ σ1=R):fFor f g b ρ σ=R:=by
  unfold fFor
  refine rg hf ?_
  exact e
noncomputable abbrev ob:SF:=(fSeq (fAsg (fIdx (fVar 1) (fVar 7)) (tVar 8))
  (fSeq (fAsg2 (fBin (opOf .Mult) (fVar 7) (za (.int 2))) (tVar 9) (tVar 6))
  (fSeq (fAsg (za (.int 9223372036854775807)) (tVar 10))
  (fSeq (fFor (yI (zc (zj (zc (fVar 0) fNil) pLen) fNil)) (tVar 11) ib)
  (fSeq (fIfS (fCmp .Gt (fVar 10) (fVar 2)) (fSeq (fRet (fBin (opOf .Add) (fVar 2) (za (.int 1)))) zh) zh)
  zh)))))
theorem oRow_len{a b:List Nat}{j:Nat}{row:List Int}:(oRow a b j row).row.length=row.length:=by
  skip
  have:∀(is:List Nat) (s:DS),(is.foldl (istep (b.getD j 0) a) s).row.length=s.row.length:=by
    intro is
    induction is with
    | nil=>intro s; rfl
    | cons i is ih=>intro s; simp only [List.foldl_cons,ih,istep_len]
  exact this _ _
theorem ob_step{a b:List Nat}{cap:Int}{p3 p4 res bc di mi ix sb idl:V}{j:Nat}{row:List Int}{σ:List AObj}(hj:j<b.length)(hb3:b.length≤3)(ha3:a.length≤3)(hr:row.length=a.length)(ha:∀c∈a,c∈y6)(hb:∀c∈b,c∈y6) :
    ∃bc' di' mi' ix' sb' idl',ob (ρD (.str a) (.str b) (.int cap) p3 p4 (.loc σ.length) res (.int j) bc di mi ix sb idl) (σ++ [.list (row.map .int)]) =
      some (if cap<(oRow a b j row).mn then .ret (.int (cap+1)) else .next,ρD (.str a) (.str b) (.int cap) p3 p4 (.loc σ.length) (.int (oRow a b j row).res) (.int j) bc' di' mi' ix' sb' idl',σ++ [.list ((oRow a b j row).row.map .int)]):=by
  have hbj:b.getD j 0∈y6:=by
    refine rg List.getD_eq_getElem?_getD ?_; refine rg (List.getElem?_eq_getElem hj) ?_
    exact hb _ (List.getElem_mem hj)
  refine xe31 (inner_loop (b:= .str b) (cap:= .int cap) (p3:=p3) (p4:=p4) (bi:= .int j) (σ:=σ) hbj ha (List.range a.length) ⟨2*j,2*j,BIG,row⟩ ix sb idl (fun i hi=>List.mem_range.mp hi) hr) fun ix' sb' idl' e=>?_
  have e:forL (tVar 11) ib ((List.range a.length).map fun i:Nat=> .int i) (ρD (.str a) (.str b) (.int cap) p3 p4 (.loc σ.length) (.int (2*j)) (.int j) (.str [b.getD j 0]) (.int (2*j)) (.int BIG) ix sb idl) (σ++ [.list (row.map .int)])=some (.next,ρD (.str a) (.str b) (.int cap) p3 p4 (.loc σ.length) (.int (oRow a b j row).res) (.int j) (.str [b.getD j 0]) (.int (oRow a b j row).dist) (.int (oRow a b j row).mn) ix' sb' idl',σ++ [.list ((oRow a b j row).row.map .int)]):=e
  refine ⟨.str [b.getD j 0], .int (oRow a b j row).dist, .int (oRow a b j row).mn,ix',sb',idl',?_⟩
  have i1:=str_idx (σ:=σ++ [.list (row.map .int)]) hj
  have s1:fAsg (fIdx (fVar 1) (fVar 7)) (tVar 8) (ρD (.str a) (.str b) (.int cap) p3 p4 (.loc σ.length) res (.int j) bc di mi ix sb idl) (σ++ [.list (row.map .int)])=some (.next,ρD (.str a) (.str b) (.int cap) p3 p4 (.loc σ.length) res (.int j) (.str [b.getD j 0]) di mi ix sb idl,σ++ [.list (row.map .int)]):=by
    simp only [fAsg,fIdx,fVar,List.getElem?_cons_zero,List.getElem?_cons_succ,i1,Option.map_some]
    rfl
  have s2:fAsg2 (fBin (opOf .Mult) (fVar 7) (za (.int 2))) (tVar 9) (tVar 6) (ρD (.str a) (.str b) (.int cap) p3 p4 (.loc σ.length) res (.int j) (.str [b.getD j 0]) di mi ix sb idl) (σ++ [.list (row.map .int)])=some (.next,ρD (.str a) (.str b) (.int cap) p3 p4 (.loc σ.length) (.int (2*j)) (.int j) (.str [b.getD j 0]) (.int (2*j)) mi ix sb idl,σ++ [.list (row.map .int)]):=by
    have hm: -1000000<(j:Int)∧(j:Int)<1000000:=by lia
    exact fAsg2_of (zJ (a:= .int j) (b:= .int 2) rfl rfl (opMul_of hm)) rfl rfl
  have s3:fAsg (za (.int 9223372036854775807)) (tVar 10) (ρD (.str a) (.str b) (.int cap) p3 p4 (.loc σ.length) (.int (2*j)) (.int j) (.str [b.getD j 0]) (.int (2*j)) mi ix sb idl) (σ++ [.list (row.map .int)])=some (.next,ρD (.str a) (.str b) (.int cap) p3 p4 (.loc σ.length) (.int (2*j)) (.int j) (.str [b.getD j 0]) (.int (2*j)) (.int BIG) ix sb idl,σ++ [.list (row.map .int)]):=by
    rfl
  have s4:=fFor_of (rng_var0 ha3) e
  have s5:∀(x y z w:V) (m:Int) (τ:List AObj),fIfS (fCmp .Gt (fVar 10) (fVar 2)) (fSeq (fRet (fBin (opOf .Add) (fVar 2) (za (.int 1)))) zh) zh (ρD (.str a) (.str b) (.int cap) p3 p4 (.loc σ.length) x (.int j) y z (.int m) w sb' idl') τ =
      some (if cap<m then .ret (.int (cap+1)) else .next,ρD (.str a) (.str b) (.int cap) p3 p4 (.loc σ.length) x (.int j) y z (.int m) w sb' idl',τ):=by
    intro x y z w m τ
    by_cases h:cap<m
    · simp [fSeq,za,fVar,fBin,fRet,fIfS,fCmp,ev_o0,ev_a1,ev_c5,h]
    · simp [zh,fVar,fIfS,fCmp,ev_c5,h]
  refine zf s1 (zf s2 (zf s3 (zf s4 ?_)))
  by_cases h:cap<(oRow a b j row).mn
  · refine rg (if_pos h) ?_
    have:=s5 (.int (oRow a b j row).res) (.str [b.getD j 0]) (.int (oRow a b j row).dist) ix' (oRow a b j row).mn (σ++ [.list ((oRow a b j row).row.map .int)])
    rw [if_pos h] at this
    exact ZF this
  · refine rg (if_neg h) ?_
    have:=s5 (.int (oRow a b j row).res) (.str [b.getD j 0]) (.int (oRow a b j row).dist) ix' (oRow a b j row).mn (σ++ [.list ((oRow a b j row).row.map .int)])
    rw [if_neg h] at this
    exact zf this rfl
theorem outer_loop{a b:List Nat}{cap:Int}{p3 p4:V}{σ:List AObj}(hb3:b.length≤3)(ha3:a.length≤3)(ha:∀c∈a,c∈y6)(hb:∀c∈b,c∈y6):∀(js:List Nat) (row:List Int) (res:Int) (bi bc di mi ix sb idl:V),(∀j∈js,j<b.length)→row.length=a.length→
    ∃(bi' bc' di' mi' ix' sb' idl':V) (row':List Int) (res':Int),forL (tVar 7) ob (js.map fun i:Nat=> .int i) (ρD (.str a) (.str b) (.int cap) p3 p4 (.loc σ.length) (.int res) bi bc di mi ix sb idl) (σ++ [.list (row.map .int)]) =
      some (if (outP a b cap js row res).1 then .ret (.int (outP a b cap js row res).2) else .next,ρD (.str a) (.str b) (.int cap) p3 p4 (.loc σ.length) (.int res') bi' bc' di' mi' ix' sb' idl',σ++ [.list (row'.map .int)])∧((outP a b cap js row res).1=false→res'=(outP a b cap js row res).2)
  | [],row,res,bi,bc,di,mi,ix,sb,idl,_,_=>⟨bi,bc,di,mi,ix,sb,idl,row,res,rfl,fun _=>rfl⟩
  | j::js,row,res,bi,bc,di,mi,ix,sb,idl,hj,hr=>by
    obtain ⟨bc',di',mi',ix',sb',idl',e⟩:=ob_step (cap:=cap) (p3:=p3) (p4:=p4) (res:= .int res) (bc:=bc) (di:=di) (mi:=mi) (ix:=ix) (sb:=sb) (idl:=idl) (σ:=σ) (hj j List.mem_cons_self) hb3 ha3 hr ha hb
    have t:tVar 7 (.int j) (ρD (.str a) (.str b) (.int cap) p3 p4 (.loc σ.length) (.int res) bi bc di mi ix sb idl)=some (ρD (.str a) (.str b) (.int cap) p3 p4 (.loc σ.length) (.int res) (.int j) bc di mi ix sb idl):=rfl
    by_cases h:cap<(oRow a b j row).mn
    · rw [if_pos h] at e
      refine ⟨.int j,bc',di',mi',ix',sb',idl',(oRow a b j row).row,(oRow a b j row).res,?_,?_⟩
      · rw [List.map_cons,forL,t]
        simp only [e,outP,if_pos h,if_true]
      · simp [outP,h]
    · rw [if_neg h] at e
      obtain ⟨bi2,bc2,di2,mi2,ix2,sb2,idl2,row2,res2,e2,e3⟩:=outer_loop (cap:=cap) (p3:=p3) (p4:=p4) (σ:=σ) hb3 ha3 ha hb js (oRow a b j row).row (oRow a b j row).res (.int j) bc' di' mi' ix' sb' idl' (fun i hi=>hj i (List.mem_cons_of_mem _ hi)) (by refine rg oRow_len ?_; exact hr)
      refine ⟨bi2,bc2,di2,mi2,ix2,sb2,idl2,row2,res2,?_,?_⟩
      · rw [List.map_cons,forL,t]
        simp only [e,e2,outP,if_neg h]
      · intro q
        simp only [outP,if_neg h] at q ⊢
        exact e3 q
end Mi
namespace Mi
noncomputable def cpl:List Nat→List Nat→Nat
  | x::u,y::v=>if x=y then cpl u v+1 else 0
  | _,_=>0
theorem fSeq_brk{f g:SF}{ρ ρ1:List V}{σ σ1:List AObj}(h:f ρ σ=some (.brk,ρ1,σ1)):fSeq f g ρ σ=some (.brk,ρ1,σ1):=by
  unfold fSeq
  refine rg h ?_; rfl
theorem zH{f g:BF}{ρ:List V}{σ σ1:List AObj}{r:Option (Bool × List AObj)}(hf:f ρ σ=some (true,σ1))(hg:g ρ σ1=r):fAnd f g ρ σ=r:=by
  unfold fAnd
  refine rg hf ?_
  exact hg
theorem yq{f g:BF}{ρ:List V}{σ σ1:List AObj}(hf:f ρ σ=some (false,σ1)):fAnd f g ρ σ=some (false,σ1):=by
  unfold fAnd
  refine rg hf ?_; rfl
theorem sub_from(u:List Nat)(k:Nat)(hk:k≤u.length):sub u (some (k:Int)) none=u.drop k:=by
  unfold sub
  simp only [Option.elim_some,Option.elim_none,clip_nat]
  rw [Nat.min_eq_left hk,List.take_of_length_le]
  refine rg List.length_drop ?_; exact Nat.le_refl _
theorem sl_from{i k:Nat}{f1:EF}{u:List Nat}{ρ:List V}{σ:List AObj}(hi:fVar i ρ σ=some (.str u,σ))(hk:f1 ρ σ=some (.int k,σ))(hl:k≤u.length):zx (fVar i) f1 (za .none) (za .none) ρ σ=some (.str (u.drop k),σ):=by
  unfold zx
  refine rg hi ?_
  simp only [hk,za,ev_p1,ev_p2,yE,if_true,sub_from u k hl,Option.map_some]
theorem ZG{f:EF}{u:List Nat}{ρ:List V}{σ:List AObj}(h:f ρ σ=some (.str u,σ)):yr f ρ σ=some (!u.isEmpty,σ):=by
  unfold yr
  refine rg h ?_
  rfl
theorem fIdx_str{i k:Nat}{f1:EF}{u:List Nat}{ρ:List V}{σ:List AObj}(hi:fVar i ρ σ=some (.str u,σ))(hk:f1 ρ σ=some (.int k,σ))(hl:k<u.length):fIdx (fVar i) f1 ρ σ=some (.str [u.getD k 0],σ):=by
  unfold fIdx
  refine rg hi ?_
  simp only [hk,str_idx hl,Option.map_some]
theorem fCmpEq_str{f g:EF}{x y:List Nat}{ρ:List V}{σ:List AObj}(hf:f ρ σ=some (.str x,σ))(hg:g ρ σ=some (.str y,σ)):fCmp .Eq f g ρ σ=some (decide (x=y),σ):=by
  unfold fCmp
  refine rg hf ?_
  simp only [hg,ev_c1,Zd,ev_v3,V.pd,and_self,if_true,eqvS,Option.map_some]
noncomputable abbrev preC:BF:=fAnd (yr (zx (fVar 0) (fVar 3) (za .none) (za .none))) (fAnd (yr (zx (fVar 1) (fVar 3) (za .none) (za .none))) (fAnd (fCmp .Eq (fIdx (fVar 0) (fVar 3)) (fIdx (fVar 1) (fVar 3))) Zz))
noncomputable abbrev preB:SF:=fSeq (fAug .Add 3 (za (.int 1))) zh
noncomputable abbrev ρS(u v:List Nat)(cap pre post:V)(r5 r6 r7 r8 r9 r10 r11 r12 r13:V):List V:= [.str u, .str v,cap,pre,post,r5,r6,r7,r8,r9,r10,r11,r12,r13]
section
variable {u v:List Nat}{cap post r5 r6 r7 r8 r9 r10 r11 r12 r13:V}{σ:List AObj}
theorem preC_eval{k:Nat}(hu:k≤u.length)(hv:k≤v.length):preC (ρS u v cap (.int k) post r5 r6 r7 r8 r9 r10 r11 r12 r13) σ=some (match u.drop k,v.drop k with | x::_,y::_=>decide (x=y) | _,_=>false,σ):=by
  have t1:=ZG (sl_from (i:=0) (k:=k) (f1:=fVar 3) (u:=u) (ρ:=ρS u v cap (.int k) post r5 r6 r7 r8 r9 r10 r11 r12 r13) (σ:=σ) rfl rfl hu)
  have t2:=ZG (sl_from (i:=1) (k:=k) (f1:=fVar 3) (u:=v) (ρ:=ρS u v cap (.int k) post r5 r6 r7 r8 r9 r10 r11 r12 r13) (σ:=σ) rfl rfl hv)
  cases eu:u.drop k with
  | nil=>
    rw [eu] at t1
    exact yq t1
  | cons x ur=>
    rw [eu] at t1
    cases ev:v.drop k with
    | nil=>
      rw [ev] at t2
      exact zH t1 (yq t2)
    | cons y vr=>
      rw [ev] at t2
      have lu:k<u.length:=by
        have:=congrArg List.length eu
        simp at this; omega
      have lv:k<v.length:=by
        have:=congrArg List.length ev
        simp at this; omega
      have gu:u.getD k 0=x:=by
        refine rg List.getD_eq_getElem?_getD ?_; refine rg (List.getElem?_eq_getElem lu) ?_
        have:=List.drop_eq_getElem_cons lu
        rw [eu] at this
        cases this
        rfl
      have gv:v.getD k 0=y:=by
        refine rg List.getD_eq_getElem?_getD ?_; refine rg (List.getElem?_eq_getElem lv) ?_
        have:=List.drop_eq_getElem_cons lv
        rw [ev] at this
        cases this
        rfl
      have i1:=fIdx_str (i:=0) (k:=k) (f1:=fVar 3) (u:=u) (ρ:=ρS u v cap (.int k) post r5 r6 r7 r8 r9 r10 r11 r12 r13) (σ:=σ) rfl rfl lu
      have i2:=fIdx_str (i:=1) (k:=k) (f1:=fVar 3) (u:=v) (ρ:=ρS u v cap (.int k) post r5 r6 r7 r8 r9 r10 r11 r12 r13) (σ:=σ) rfl rfl lv
      rw [gu] at i1
      rw [gv] at i2
      have c:=fCmpEq_str i1 i2
      refine zH t1 (zH t2 ?_)
      by_cases h:x=y
      · subst h
        simp only [decide_true] at c ⊢
        exact zH c rfl
      · have hd:decide (([x]:List Nat)= [y])=false:=by simp [h]
        rw [hd] at c
        simp only [decide_eq_false h]
        exact yq c
theorem pre_loop:∀(n k:Nat),u.length-k≤n→k≤u.length→k≤v.length→yA preC preB (ρS u v cap (.int k) post r5 r6 r7 r8 r9 r10 r11 r12 r13) σ=some (.next,ρS u v cap (.int (k+cpl (u.drop k) (v.drop k):Nat)) post r5 r6 r7 r8 r9 r10 r11 r12 r13,σ)
  | n,k,hn,hu,hv=>by
    have c:=preC_eval (cap:=cap) (post:=post) (r5:=r5) (r6:=r6) (r7:=r7) (r8:=r8) (r9:=r9) (r10:=r10) (r11:=r11) (r12:=r12) (r13:=r13) (σ:=σ) hu hv
    cases eu:u.drop k with
    | nil=>
      rw [eu] at c
      refine rg (zO c) ?_
      rfl
    | cons x ur=>
      rw [eu] at c
      cases ev:v.drop k with
      | nil=>
        rw [ev] at c
        refine rg (zO c) ?_
        rfl
      | cons y vr=>
        rw [ev] at c
        by_cases h:x=y
        · subst h
          simp only [decide_true] at c
          have lu:k<u.length:=by
            have:=congrArg List.length eu
            simp at this; omega
          have lv:k<v.length:=by
            have:=congrArg List.length ev
            simp at this; omega
          have hdu:u.drop (k+1)=ur:=by refine rl List.drop_drop ?_; refine rg eu ?_; rfl
          have hdv:v.drop (k+1)=vr:=by refine rl List.drop_drop ?_; refine rg ev ?_; rfl
          match n,hn with
          | 0,hn=>omega
          | n+1,hn=>
            have ih:=pre_loop n (k+1) (by grind) lu lv
            rw [hdu,hdv] at ih
            have hb:preB (ρS u v cap (.int k) post r5 r6 r7 r8 r9 r10 r11 r12 r13) σ=some (.next,ρS u v cap (.int (k+1:Nat)) post r5 r6 r7 r8 r9 r10 r11 r12 r13,σ):=rfl
            refine rg (z5 c (.inl hb) ih) ?_
            have:k+1+cpl ur vr=k+cpl (x::ur) (x::vr):=by simp [cpl]; lia
            refine rg this ?_; rfl
        · simp only [decide_eq_false h] at c
          refine rg (zO c) ?_
          simp [cpl,h]
end
end Mi
namespace Mi
theorem clip_neg{n k:Nat}(h0:0<k)(hk:k≤n):clipAt n (-(k:Int))=n-k:=by
  have e: -(k:Int)+n=(n-k:Nat):=by rw [Int.natCast_sub hk,Int.add_comm]; rfl
  unfold clipAt
  rw [if_pos (Int.neg_neg_of_pos (Int.natCast_pos.mpr h0)),e]
  exact clip_mid.trans (Nat.min_eq_left (Nat.sub_le _ _))
theorem sub_to(u:List Nat)(k:Nat)(h0:0<k)(hk:k≤u.length):sub u none (some (-(k:Int)))=u.take (u.length-k):=by
  unfold sub
  simp only [Option.elim_some,Option.elim_none,clip_neg h0 hk,List.drop_zero,Nat.sub_zero]
theorem sub_all(u:List Nat):sub u none none=u:=by
  unfold sub
  simp
noncomputable abbrev postE:EF:=fOr2 (fVar 4) (za .none)
noncomputable abbrev postC:BF:=fAnd (yr (zx (fVar 0) (za .none) postE (za .none))) (fAnd (yr (zx (fVar 1) (za .none) postE (za .none))) (fAnd (fCmp .Eq (fIdx (fVar 0) (fBin (opOf .Sub) (fVar 4) (za (.int 1)))) (fIdx (fVar 1) (fBin (opOf .Sub) (fVar 4) (za (.int 1))))) Zz))
noncomputable abbrev postB:SF:=fSeq (fAug .Sub 4 (za (.int 1))) zh
section
variable {u v:List Nat}{cap pre r5 r6 r7 r8 r9 r10 r11 r12 r13:V}{σ:List AObj}
theorem sl_to{i k:Nat}{w:List Nat}{ρ:List V}(hi:fVar i ρ σ=some (.str w,σ))(hp:fVar 4 ρ σ=some (.int (-(k:Int)),σ))(hl:k≤w.length):zx (fVar i) (za .none) postE (za .none) ρ σ=some (.str (w.take (w.length-k)),σ):=by
  unfold zx
  refine rg hi ?_
  by_cases h0:k=0
  · subst h0
    have e:postE ρ σ=some (.none,σ):=by
      unfold postE fOr2
      refine rg hp ?_
      rfl
    simp only [za,e,ev_p1,yE,if_true,sub_all,Option.map_some,Nat.sub_zero,List.take_length]
  · have e:postE ρ σ=some (.int (-(k:Int)),σ):=by
      unfold postE fOr2
      refine rg hp ?_
      have:(-(k:Int) != 0)=true:=by simp; omega
      simp only [ev_t3,this]
    simp only [za,e,ev_p1,ev_p2,yE,if_true,sub_to w k (by exact Nat.pos_of_ne_zero ‹_›) hl,Option.map_some]
theorem idx_neg{i k:Nat}{w:List Nat}{ρ:List V}(hi:fVar i ρ σ=some (.str w,σ))(hp:fVar 4 ρ σ=some (.int (-(k:Int)),σ))(hl:k<w.length):fIdx (fVar i) (fBin (opOf .Sub) (fVar 4) (za (.int 1))) ρ σ=some (.str [w.reverse.getD k 0],σ):=by
  unfold fIdx
  refine rg hi ?_
  have e:fBin (opOf .Sub) (fVar 4) (za (.int 1)) ρ σ=some (.int (-(k:Int)-1),σ):=zJ hp rfl rfl
  have n:nth w.length (-(k:Int)-1)=some (w.length-1-k):=by
    unfold nth
    obtain ⟨m,q⟩:=Nat.exists_eq_add_of_lt hl
    refine rg (if_neg (by omega)) ?_; refine rg (if_pos (by omega)) ?_
    rw [q,show -(k:Int)-1+((k+m+1:Nat):Int)=m by omega,Nat.add_sub_cancel,Nat.add_sub_cancel_left]
    rfl
  have g:w[w.length-1-k]?=some (w.reverse.getD k 0):=by
    have h1:w.length-1-k<w.length:=by omega
    refine rg List.getD_eq_getElem?_getD ?_; refine rg (List.getElem?_reverse hl) ?_; refine rg (List.getElem?_eq_getElem h1) ?_
    rfl
  simp only [e,ZR,n,Option.bind_some,g,Option.map_some]
theorem drop_rev_nil{w:List Nat}{k:Nat}(h:k≤w.length):(w.take (w.length-k)).isEmpty=(w.reverse.drop k).isEmpty:=by
  have:(w.take (w.length-k)).isEmpty=decide (w.length≤k):=by
    cases hw:w.take (w.length-k) with
    | nil=>
      have:=congrArg List.length hw
      simp at this
      simp; omega
    | cons x t=>
      have:=congrArg List.length hw
      simp at this
      simp; omega
  refine rg this ?_
  cases hw:w.reverse.drop k with
  | nil=>
    have:=congrArg List.length hw
    simp at this
    simp; omega
  | cons x t=>
    have:=congrArg List.length hw
    simp at this
    simp; omega
theorem postC_eval{k:Nat}(hu:k≤u.length)(hv:k≤v.length):postC (ρS u v cap pre (.int (-(k:Int))) r5 r6 r7 r8 r9 r10 r11 r12 r13) σ=some (match u.reverse.drop k,v.reverse.drop k with | x::_,y::_=>decide (x=y) | _,_=>false,σ):=by
  have t1:=ZG (sl_to (i:=0) (k:=k) (w:=u) (ρ:=ρS u v cap pre (.int (-(k:Int))) r5 r6 r7 r8 r9 r10 r11 r12 r13) (σ:=σ) rfl rfl hu)
  have t2:=ZG (sl_to (i:=1) (k:=k) (w:=v) (ρ:=ρS u v cap pre (.int (-(k:Int))) r5 r6 r7 r8 r9 r10 r11 r12 r13) (σ:=σ) rfl rfl hv)
  rw [drop_rev_nil hu] at t1
  rw [drop_rev_nil hv] at t2
  cases eu:u.reverse.drop k with
  | nil=>
    rw [eu] at t1
    exact yq t1
  | cons x ur=>
    rw [eu] at t1
    cases ev:v.reverse.drop k with
    | nil=>
      rw [ev] at t2
      exact zH t1 (yq t2)
    | cons y vr=>
      rw [ev] at t2
      have lu:k<u.reverse.length:=by
        have:=congrArg List.length eu
        simp at this ⊢; omega
      have lv:k<v.reverse.length:=by
        have:=congrArg List.length ev
        simp at this ⊢; omega
      have gu:u.reverse.getD k 0=x:=by
        refine rg List.getD_eq_getElem?_getD ?_; refine rg (List.getElem?_eq_getElem lu) ?_
        have:=List.drop_eq_getElem_cons lu
        rw [eu] at this
        cases this
        rfl
      have gv:v.reverse.getD k 0=y:=by
        refine rg List.getD_eq_getElem?_getD ?_; refine rg (List.getElem?_eq_getElem lv) ?_
        have:=List.drop_eq_getElem_cons lv
        rw [ev] at this
        cases this
        rfl
      rw [List.length_reverse] at lu lv
      have i1:=idx_neg (i:=0) (k:=k) (w:=u) (ρ:=ρS u v cap pre (.int (-(k:Int))) r5 r6 r7 r8 r9 r10 r11 r12 r13) (σ:=σ) rfl rfl lu
      have i2:=idx_neg (i:=1) (k:=k) (w:=v) (ρ:=ρS u v cap pre (.int (-(k:Int))) r5 r6 r7 r8 r9 r10 r11 r12 r13) (σ:=σ) rfl rfl lv
      rw [gu] at i1
      rw [gv] at i2
      have c:=fCmpEq_str i1 i2
      refine zH t1 (zH t2 ?_)
      by_cases h:x=y
      · subst h
        simp only [decide_true] at c ⊢
        exact zH c rfl
      · have hd:decide (([x]:List Nat)= [y])=false:=by simp [h]
        rw [hd] at c
        simp only [decide_eq_false h]
        exact yq c
theorem post_loop:∀(n k:Nat),u.length-k≤n→k≤u.length→k≤v.length→yA postC postB (ρS u v cap pre (.int (-(k:Int))) r5 r6 r7 r8 r9 r10 r11 r12 r13) σ=some (.next,ρS u v cap pre (.int (-((k+cpl (u.reverse.drop k) (v.reverse.drop k):Nat):Int))) r5 r6 r7 r8 r9 r10 r11 r12 r13,σ)
  | n,k,hn,hu,hv=>by
    have c:=postC_eval (cap:=cap) (pre:=pre) (r5:=r5) (r6:=r6) (r7:=r7) (r8:=r8) (r9:=r9) (r10:=r10) (r11:=r11) (r12:=r12) (r13:=r13) (σ:=σ) hu hv
    cases eu:u.reverse.drop k with
    | nil=>
      rw [eu] at c
      refine rg (zO c) ?_
      rfl
    | cons x ur=>
      rw [eu] at c
      cases ev:v.reverse.drop k with
      | nil=>
        rw [ev] at c
        refine rg (zO c) ?_
        rfl
      | cons y vr=>
        rw [ev] at c
        by_cases h:x=y
        · subst h
          simp only [decide_true] at c
          have lu:k<u.length:=by
            have:=congrArg List.length eu
            simp at this; omega
          have lv:k<v.length:=by
            have:=congrArg List.length ev
            simp at this; omega
          have hdu:u.reverse.drop (k+1)=ur:=by refine rl List.drop_drop ?_; refine rg eu ?_; rfl
          have hdv:v.reverse.drop (k+1)=vr:=by refine rl List.drop_drop ?_; refine rg ev ?_; rfl
          match n,hn with
          | 0,hn=>omega
          | n+1,hn=>
            have ih:=post_loop n (k+1) (by grind) lu lv
            rw [hdu,hdv] at ih
            have hb:postB (ρS u v cap pre (.int (-(k:Int))) r5 r6 r7 r8 r9 r10 r11 r12 r13) σ=some (.next,ρS u v cap pre (.int (-(k:Int)-1)) r5 r6 r7 r8 r9 r10 r11 r12 r13,σ):=rfl
            have e1: -(k:Int)-1= -((k+1:Nat):Int):=by lia
            rw [e1] at hb
            refine rg (z5 c (.inl hb) ih) ?_
            have:k+1+cpl ur vr=k+cpl (x::ur) (x::vr):=by simp [cpl]; lia
            refine rg this ?_; rfl
        · simp only [decide_eq_false h] at c
          refine rg (zO c) ?_
          simp [cpl,h]
end
end Mi
namespace Mi
noncomputable def dpP(x y:List Nat)(cap:Int):Int:=if cap<((y.length:Int)-x.length)*2 then cap+1 else (outP x y cap (List.range y.length) (row0 x.length) 0).2
noncomputable def levP(u v:List Nat)(cap:Int):Int:=
  if u=v then 0 else
    let a:=u.drop (cpl u v)
    let b:=v.drop (cpl u v)
    let q:=cpl a.reverse b.reverse
    let a':=a.take (a.length-q)
    let b':=b.take (b.length-q)
    if a'.isEmpty||b'.isEmpty then 2*((a'.length:Int)+b'.length)
    else if b'.length<a'.length then dpP b' a' cap else dpP a' b' cap
theorem len_var{i:Nat}{w:List Nat}{ρ:List V}{σ:List AObj}(hi:fVar i ρ σ=some (.str w,σ)):zj (zc (fVar i) fNil) pLen ρ σ=some (.int w.length,σ):=by
  unfold zj zc
  refine rg hi ?_
  rfl
theorem fCmp_lt{f g:EF}{x y:Int}{ρ:List V}{σ:List AObj}(hf:f ρ σ=some (.int x,σ))(hg:g ρ σ=some (.int y,σ)):fCmp .Lt f g ρ σ=some (decide (x<y),σ):=by
  unfold fCmp
  refine rg hf ?_
  simp only [hg,ev_c3,ev_l1,Option.map_some]
theorem fCmp_gt{f g:EF}{x y:Int}{ρ:List V}{σ:List AObj}(hf:f ρ σ=some (.int x,σ))(hg:g ρ σ=some (.int y,σ)):fCmp .Gt f g ρ σ=some (decide (y<x),σ):=by
  unfold fCmp
  refine rg hf ?_
  simp only [hg,ev_c5,Option.map_some]
theorem fCmp_le{f g:EF}{x y:Int}{ρ:List V}{σ:List AObj}(hf:f ρ σ=some (.int x,σ))(hg:g ρ σ=some (.int y,σ)):fCmp .LtE f g ρ σ=some (decide (x≤y),σ):=by
  unfold fCmp
  refine rg hf ?_
  simp only [hg,ev_c4,Option.map_some]
theorem Zu{c:BF}{f g:SF}{ρ:List V}{σ σ1:List AObj}(h:c ρ σ=some (true,σ1)):fIfS c f g ρ σ=f ρ σ1:=by
  unfold fIfS
  refine rg h ?_; rfl
theorem yC{c:BF}{f g:SF}{ρ:List V}{σ σ1:List AObj}(h:c ρ σ=some (false,σ1)):fIfS c f g ρ σ=g ρ σ1:=by
  unfold fIfS
  refine rg h ?_; rfl
theorem fOr_no{f g:BF}{ρ:List V}{σ σ1:List AObj}{r:Option (Bool × List AObj)}(hf:f ρ σ=some (false,σ1))(hg:g ρ σ1=r):fOr f g ρ σ=r:=by
  unfold fOr
  refine rg hf ?_
  exact hg
theorem fOr_yes{f g:BF}{ρ:List V}{σ σ1:List AObj}(hf:f ρ σ=some (true,σ1)):fOr f g ρ σ=some (true,σ1):=by
  unfold fOr
  refine rg hf ?_; rfl
theorem fNot_of{f:BF}{b:Bool}{ρ:List V}{σ σ1:List AObj}(hf:f ρ σ=some (b,σ1)):fNot f ρ σ=some (!b,σ1):=by
  unfold fNot
  refine rg hf ?_; rfl
theorem ZA{f:EF}{v:V}{ρ:List V}{σ σ1:List AObj}(hf:f ρ σ=some (v,σ1)):fSeq (fRet f) zh ρ σ=some (.ret v,ρ,σ1):=by
  unfold fSeq fRet
  refine rg hf ?_; rfl
theorem y8{a b:Int}:opOf .Add (.int a) (.int b)=some (.int (a+b)):=rfl
theorem yS{a b:Int}:opOf .Sub (.int a) (.int b)=some (.int (a-b)):=rfl
theorem opMul_int{a b:Int}(h: -1000000<a∧a<1000000):opOf .Mult (.int a) (.int b)=some (.int (a*b)):=by
  show opMul (.int a) (.int b)=_
  rw [opMul,if_pos h]
theorem fListRange_of{g:EsF}{ρ vs:List V}{σ σ1:List AObj}{a b c:Int}{l:List V}(hg:g ρ σ=some (vs,σ1))(hr:yW vs=some (a,b,c))(hn:rngN a b c≤LIM)(hl:rngL a b c=l):Zj g ρ σ=some (.loc σ1.length,σ1++ [.list l]):=by
  unfold Zj
  refine rg hg ?_
  simp only [hr,if_pos hn,hl]
noncomputable abbrev lev3:SF:=(fSeq (fIfS (fCmp .Gt (fBin (opOf .Mult) (fBin (opOf .Sub) (zj (zc (fVar 1) fNil) pLen) (zj (zc (fVar 0) fNil) pLen)) (za (.int 2))) (fVar 2)) (fSeq (fRet (fBin (opOf .Add) (fVar 2) (za (.int 1)))) zh) zh)
  (fSeq (fAsg (Zj (zc (za (.int 2)) (zc (fBin (opOf .Mult) (za (.int 2)) (fBin (opOf .Add) (zj (zc (fVar 0) fNil) pLen) (za (.int 1)))) (zc (za (.int 2)) fNil)))) (tVar 5))
  (fSeq (fAsg (za (.int 0)) (tVar 6))
  (fSeq (fFor (yI (zc (zj (zc (fVar 1) fNil) pLen) fNil)) (tVar 7) ob)
  (fSeq (fRet (fVar 6))
  zh)))))
theorem lev3_eval{x y:List Nat}{cap:Int}{p3 p4 r5 r6 r7 r8 r9 r10 r11 r12 r13:V}{σ:List AObj}(hx:x.length≤3)(hy:y.length≤3)(ax:∀c∈x,c∈y6)(ay:∀c∈y,c∈y6) :
    ∃ρ' τ,lev3 (ρS x y (.int cap) p3 p4 r5 r6 r7 r8 r9 r10 r11 r12 r13) σ=some (.ret (.int (dpP x y cap)),ρ',σ++τ):=by
  have lx:=len_var (i:=0) (w:=x) (ρ:=ρS x y (.int cap) p3 p4 r5 r6 r7 r8 r9 r10 r11 r12 r13) (σ:=σ) rfl
  have ly:=len_var (i:=1) (w:=y) (ρ:=ρS x y (.int cap) p3 p4 r5 r6 r7 r8 r9 r10 r11 r12 r13) (σ:=σ) rfl
  have m1:fBin (opOf .Mult) (fBin (opOf .Sub) (zj (zc (fVar 1) fNil) pLen) (zj (zc (fVar 0) fNil) pLen)) (za (.int 2)) (ρS x y (.int cap) p3 p4 r5 r6 r7 r8 r9 r10 r11 r12 r13) σ=some (.int (((y.length:Int)-x.length)*2),σ):=
    zJ (zJ ly lx yS) rfl (opMul_int (by omega))
  have c1:=fCmp_gt (g:=fVar 2) m1 rfl
  unfold dpP
  by_cases h:cap<((y.length:Int)-x.length)*2
  · rw [decide_eq_true h] at c1
    refine rg (if_pos h) ?_
    have r:=ZF (g:=(fSeq (fAsg (Zj (zc (za (.int 2)) (zc (fBin (opOf .Mult) (za (.int 2)) (fBin (opOf .Add) (zj (zc (fVar 0) fNil) pLen) (za (.int 1)))) (zc (za (.int 2)) fNil)))) (tVar 5)) (fSeq (fAsg (za (.int 0)) (tVar 6)) (fSeq (fFor (yI (zc (zj (zc (fVar 1) fNil) pLen) fNil)) (tVar 7) ob) (fSeq (fRet (fVar 6)) zh))))) ((Zu (f:=fSeq (fRet (fBin (opOf .Add) (fVar 2) (za (.int 1)))) zh) (g:=zh) c1).trans (ZA (zJ rfl rfl y8)))
    exact ⟨_, [],by rw [List.append_nil]; exact r⟩
  · rw [decide_eq_false h] at c1
    refine rg (if_neg h) ?_
    refine xe03 (rng2 x.length hx) fun q1 q2 q3=>?_
    have s2:fAsg (Zj (zc (za (.int 2)) (zc (fBin (opOf .Mult) (za (.int 2)) (fBin (opOf .Add) (zj (zc (fVar 0) fNil) pLen) (za (.int 1)))) (zc (za (.int 2)) fNil)))) (tVar 5) (ρS x y (.int cap) p3 p4 r5 r6 r7 r8 r9 r10 r11 r12 r13) σ=some (.next,ρS x y (.int cap) p3 p4 (.loc σ.length) r6 r7 r8 r9 r10 r11 r12 r13,σ++ [.list ((row0 x.length).map .int)]):=by
      refine zw (fListRange_of (vs:= [.int 2, .int (2*((x.length:Int)+1)), .int 2]) ?_ q1 q2 q3) rfl
      have m2:fBin (opOf .Mult) (za (.int 2)) (fBin (opOf .Add) (zj (zc (fVar 0) fNil) pLen) (za (.int 1))) (ρS x y (.int cap) p3 p4 r5 r6 r7 r8 r9 r10 r11 r12 r13) σ=some (.int (2*((x.length:Int)+1)),σ):=
        zJ rfl (zJ lx rfl y8) (opMul_int (by decide))
      dsimp only [zc,fNil,m2]
      rfl
    have s3:fAsg (za (.int 0)) (tVar 6) (ρS x y (.int cap) p3 p4 (.loc σ.length) r6 r7 r8 r9 r10 r11 r12 r13) (σ++ [.list ((row0 x.length).map .int)])=some (.next,ρS x y (.int cap) p3 p4 (.loc σ.length) (.int 0) r7 r8 r9 r10 r11 r12 r13,σ++ [.list ((row0 x.length).map .int)]):=rfl
    obtain ⟨bi',bc',di',mi',ix',sb',idl',row',res',e1,e2⟩:=outer_loop (cap:=cap) (p3:=p3) (p4:=p4) (σ:=σ) hy hx ax ay (List.range y.length) (row0 x.length) 0 r7 r8 r9 r10 r11 r12 r13 (fun i hi=>List.mem_range.mp hi) (by simp [row0])
    have s4:=fFor_of (rng_var1 hy) e1
    refine ⟨ρD (.str x) (.str y) (.int cap) p3 p4 (.loc σ.length) (.int res') bi' bc' di' mi' ix' sb' idl', [.list (row'.map .int)],zf ((yC c1).trans rfl) (zf s2 (zf s3 ?_))⟩
    by_cases hb:(outP x y cap (List.range y.length) (row0 x.length) 0).1=true
    · rw [if_pos hb] at s4
      exact ZF s4
    · rw [if_neg hb] at s4
      have hb':(outP x y cap (List.range y.length) (row0 x.length) 0).1=false:=by simpa using hb
      refine rl (e2 hb') ?_
      exact zf s4 (ZA rfl)
noncomputable abbrev lev2:SF:=(fSeq (fIfS (fOr (fNot (yr (fVar 0))) (fOr (fNot (yr (fVar 1))) fFalse)) (fSeq (fRet (fBin (opOf .Mult) (za (.int 2)) (fBin (opOf .Add) (zj (zc (fVar 0) fNil) pLen) (zj (zc (fVar 1) fNil) pLen)))) zh) zh)
  (fSeq (fIfS (fOr (fCmp .Gt (zj (zc (fVar 0) fNil) pLen) (za (.int 40))) (fOr (fCmp .Gt (zj (zc (fVar 1) fNil) pLen) (za (.int 40))) fFalse)) (fSeq (fRet (fBin (opOf .Add) (fVar 2) (za (.int 1)))) zh) zh)
  (fSeq (fIfS (fCmp .Lt (zj (zc (fVar 1) fNil) pLen) (zj (zc (fVar 0) fNil) pLen)) (fSeq (fSwap 0 1 (fTup (zc (fVar 1) (zc (fVar 0) fNil)))) zh) zh)
  lev3)))
theorem lev2_eval{a b:List Nat}{cap:Int}{p3 p4 r5 r6 r7 r8 r9 r10 r11 r12 r13:V}{σ:List AObj}(hx:a.length≤3)(hy:b.length≤3)(ax:∀c∈a,c∈y6)(ay:∀c∈b,c∈y6) :
    ∃ρ' τ,lev2 (ρS a b (.int cap) p3 p4 r5 r6 r7 r8 r9 r10 r11 r12 r13) σ=some (.ret (.int (if a.isEmpty||b.isEmpty then 2*((a.length:Int)+b.length) else if b.length<a.length then dpP b a cap else dpP a b cap)),ρ',σ++τ):=by
  have la:=len_var (i:=0) (w:=a) (ρ:=ρS a b (.int cap) p3 p4 r5 r6 r7 r8 r9 r10 r11 r12 r13) (σ:=σ) rfl
  have lb:=len_var (i:=1) (w:=b) (ρ:=ρS a b (.int cap) p3 p4 r5 r6 r7 r8 r9 r10 r11 r12 r13) (σ:=σ) rfl
  have t1:=fNot_of (ZG (f:=fVar 0) (u:=a) (ρ:=ρS a b (.int cap) p3 p4 r5 r6 r7 r8 r9 r10 r11 r12 r13) (σ:=σ) rfl)
  have t2:=fNot_of (ZG (f:=fVar 1) (u:=b) (ρ:=ρS a b (.int cap) p3 p4 r5 r6 r7 r8 r9 r10 r11 r12 r13) (σ:=σ) rfl)
  have rt:fSeq (fRet (fBin (opOf .Mult) (za (.int 2)) (fBin (opOf .Add) (zj (zc (fVar 0) fNil) pLen) (zj (zc (fVar 1) fNil) pLen)))) zh (ρS a b (.int cap) p3 p4 r5 r6 r7 r8 r9 r10 r11 r12 r13) σ=some (.ret (.int (2*((a.length:Int)+b.length))),ρS a b (.int cap) p3 p4 r5 r6 r7 r8 r9 r10 r11 r12 r13,σ):=
    ZA (zJ rfl (zJ la lb y8) (opMul_int (by decide)))
  rw [Bool.not_not] at t1 t2
  cases ha:a.isEmpty with
  | true=>
    rw [ha] at t1
    refine ⟨ρS a b (.int cap) p3 p4 r5 r6 r7 r8 r9 r10 r11 r12 r13, [],ZF ?_⟩
    rw [List.append_nil]
    exact (Zu (fOr_yes t1)).trans rt
  | false=>
    rw [ha] at t1
    cases hb:b.isEmpty with
    | true=>
      rw [hb] at t2
      refine ⟨ρS a b (.int cap) p3 p4 r5 r6 r7 r8 r9 r10 r11 r12 r13, [],ZF ?_⟩
      rw [List.append_nil]
      exact (Zu (fOr_no t1 (fOr_yes t2))).trans rt
    | false=>
      rw [hb] at t2
      have g1:=fCmp_gt (g:=za (.int 40)) la rfl
      have g2:=fCmp_gt (g:=za (.int 40)) lb rfl
      rw [decide_eq_false (by lia)] at g1 g2
      have s1:fIfS (fOr (fNot (yr (fVar 0))) (fOr (fNot (yr (fVar 1))) fFalse)) (fSeq (fRet (fBin (opOf .Mult) (za (.int 2)) (fBin (opOf .Add) (zj (zc (fVar 0) fNil) pLen) (zj (zc (fVar 1) fNil) pLen)))) zh) zh (ρS a b (.int cap) p3 p4 r5 r6 r7 r8 r9 r10 r11 r12 r13) σ=some (.next,ρS a b (.int cap) p3 p4 r5 r6 r7 r8 r9 r10 r11 r12 r13,σ):=(yC (fOr_no t1 (fOr_no t2 rfl))).trans rfl
      have s2:fIfS (fOr (fCmp .Gt (zj (zc (fVar 0) fNil) pLen) (za (.int 40))) (fOr (fCmp .Gt (zj (zc (fVar 1) fNil) pLen) (za (.int 40))) fFalse)) (fSeq (fRet (fBin (opOf .Add) (fVar 2) (za (.int 1)))) zh) zh (ρS a b (.int cap) p3 p4 r5 r6 r7 r8 r9 r10 r11 r12 r13) σ=some (.next,ρS a b (.int cap) p3 p4 r5 r6 r7 r8 r9 r10 r11 r12 r13,σ):=(yC (fOr_no g1 (fOr_no g2 rfl))).trans rfl
      have c:=fCmp_lt lb la
      by_cases h:b.length<a.length
      · have h':(b.length:Int)<a.length:=by omega
        rw [decide_eq_true h'] at c
        refine xe21 (lev3_eval (x:=b) (y:=a) (cap:=cap) (p3:=p3) (p4:=p4) (r5:=r5) (r6:=r6) (r7:=r7) (r8:=r8) (r9:=r9) (r10:=r10) (r11:=r11) (r12:=r12) (r13:=r13) (σ:=σ) hy hx ay ax) fun ρ' τ e=>?_
        have s3:fSeq (fSwap 0 1 (fTup (zc (fVar 1) (zc (fVar 0) fNil)))) zh (ρS a b (.int cap) p3 p4 r5 r6 r7 r8 r9 r10 r11 r12 r13) σ=some (.next,ρS b a (.int cap) p3 p4 r5 r6 r7 r8 r9 r10 r11 r12 r13,σ):=rfl
        refine ⟨ρ',τ,zf s1 (zf s2 (zf ((Zu c).trans s3) ?_))⟩
        simp only [Bool.or_self,Bool.false_eq_true,if_false,if_pos h]
        exact e
      · have h':¬(b.length:Int)<a.length:=by omega
        rw [decide_eq_false h'] at c
        refine xe21 (lev3_eval (x:=a) (y:=b) (cap:=cap) (p3:=p3) (p4:=p4) (r5:=r5) (r6:=r6) (r7:=r7) (r8:=r8) (r9:=r9) (r10:=r10) (r11:=r11) (r12:=r12) (r13:=r13) (σ:=σ) hx hy ax ay) fun ρ' τ e=>?_
        refine ⟨ρ',τ,zf s1 (zf s2 (zf ((yC c).trans rfl) ?_))⟩
        simp only [Bool.or_self,Bool.false_eq_true,if_false,if_neg h]
        exact e
theorem lev_form:yb=(fSeq (fIfS (fCmp .Eq (fVar 0) (fVar 1)) (fSeq (fRet (za (.int 0))) zh) zh)
  (fSeq (fAsg (za (.int 0)) (tVar 3))
  (fSeq (yA preC preB)
  (fSeq (fAsg (zx (fVar 0) (fVar 3) (za .none) (za .none)) (tVar 0))
  (fSeq (fAsg (zx (fVar 1) (fVar 3) (za .none) (za .none)) (tVar 1))
  (fSeq (fAsg (za (.int 0)) (tVar 4))
  (fSeq (yA postC postB)
  (fSeq (fAsg (zx (fVar 0) (za .none) postE (za .none)) (tVar 0))
  (fSeq (fAsg (zx (fVar 1) (za .none) postE (za .none)) (tVar 1))
  lev2))))))))):=rfl
theorem cpl_le:∀u v:List Nat,cpl u v≤u.length∧cpl u v≤v.length
  | [],_=>by simp [cpl]
  | _::_, []=>by simp [cpl]
  | x::u,y::v=>by
    have:=cpl_le u v
    unfold cpl
    split
    · simp; omega
    · simp
theorem lev_eval{u v:List Nat}{cap:Int}{σ:List AObj}(hu:u.length≤3)(hv:v.length≤3)(au:∀c∈u,c∈y6)(av:∀c∈v,c∈y6):zm [.str u, .str v, .int cap] σ=some (.int (levP u v cap),σ):=by
  have key:∃ρ' τ,yb (ρS u v (.int cap) .undef .undef .undef .undef .undef .undef .undef .undef .undef .undef .undef) σ=some (.ret (.int (levP u v cap)),ρ',σ++τ):=by
    have c:=fCmpEq_str (f:=fVar 0) (g:=fVar 1) (x:=u) (y:=v) (ρ:=ρS u v (.int cap) .undef .undef .undef .undef .undef .undef .undef .undef .undef .undef .undef) (σ:=σ) rfl rfl
    simp only [lev_form]
    unfold levP
    by_cases h:u=v
    · rw [decide_eq_true h] at c
      refine rg (if_pos h) ?_
      refine ⟨ρS u v (.int cap) .undef .undef .undef .undef .undef .undef .undef .undef .undef .undef .undef, [],ZF ?_⟩
      rw [List.append_nil]
      exact (Zu c).trans (ZA rfl)
    · rw [decide_eq_false h] at c
      refine rg (if_neg h) ?_
      have l1:=cpl_le u v
      have w1:=pre_loop (u:=u) (v:=v) (cap:= .int cap) (post:= .undef) (r5:= .undef) (r6:= .undef) (r7:= .undef) (r8:= .undef) (r9:= .undef) (r10:= .undef) (r11:= .undef) (r12:= .undef) (r13:= .undef) (σ:=σ) u.length 0 (by exact Nat.sub_le _ _) (Nat.zero_le _) (Nat.zero_le _)
      simp only [List.drop_zero,Nat.zero_add] at w1
      have a1:=sl_from (i:=0) (k:=cpl u v) (f1:=fVar 3) (u:=u) (ρ:=ρS u v (.int cap) (.int (cpl u v)) .undef .undef .undef .undef .undef .undef .undef .undef .undef .undef) (σ:=σ) rfl rfl l1.1
      have a2:=sl_from (i:=1) (k:=cpl u v) (f1:=fVar 3) (u:=v) (ρ:=ρS (u.drop (cpl u v)) v (.int cap) (.int (cpl u v)) .undef .undef .undef .undef .undef .undef .undef .undef .undef .undef) (σ:=σ) rfl rfl l1.2
      have ha1:(u.drop (cpl u v)).length≤3:=by refine rg List.length_drop ?_; grind
      have hb1:(v.drop (cpl u v)).length≤3:=by refine rg List.length_drop ?_; grind
      have aa1:∀c∈u.drop (cpl u v),c∈y6:=fun c hc=>au c (List.mem_of_mem_drop hc)
      have ab1:∀c∈v.drop (cpl u v),c∈y6:=fun c hc=>av c (List.mem_of_mem_drop hc)
      generalize hpu:cpl u v=p at *
      generalize u.drop p=a at *
      generalize v.drop p=b at *
      have l2:=cpl_le a.reverse b.reverse
      rw [List.length_reverse,List.length_reverse] at l2
      have w2:=post_loop (u:=a) (v:=b) (cap:= .int cap) (pre:= .int p) (r5:= .undef) (r6:= .undef) (r7:= .undef) (r8:= .undef) (r9:= .undef) (r10:= .undef) (r11:= .undef) (r12:= .undef) (r13:= .undef) (σ:=σ) a.length 0 (by exact Nat.sub_le _ _) (Nat.zero_le _) (Nat.zero_le _)
      simp only [List.drop_zero,Nat.zero_add] at w2
      generalize hq:cpl a.reverse b.reverse=q at *
      have b1:=sl_to (i:=0) (k:=q) (w:=a) (ρ:=ρS a b (.int cap) (.int p) (.int (-(q:Int))) .undef .undef .undef .undef .undef .undef .undef .undef .undef) (σ:=σ) rfl rfl l2.1
      have b2:=sl_to (i:=1) (k:=q) (w:=b) (ρ:=ρS (a.take (a.length-q)) b (.int cap) (.int p) (.int (-(q:Int))) .undef .undef .undef .undef .undef .undef .undef .undef .undef) (σ:=σ) rfl rfl l2.2
      refine xe21 (lev2_eval (a:=a.take (a.length-q)) (b:=b.take (b.length-q)) (cap:=cap) (p3:= .int p) (p4:= .int (-(q:Int))) (r5:= .undef) (r6:= .undef) (r7:= .undef) (r8:= .undef) (r9:= .undef) (r10:= .undef) (r11:= .undef) (r12:= .undef) (r13:= .undef) (σ:=σ) (by refine rg List.length_take ?_; omega) (by refine rg List.length_take ?_; omega) (fun c hc=>aa1 c (List.mem_of_mem_take hc)) (fun c hc=>ab1 c (List.mem_of_mem_take hc))) fun ρ' τ e=>?_
      refine ⟨ρ',τ,zf ((yC c).trans rfl) (zf (zw rfl rfl) (zf w1 (zf (zw a1 rfl) (zf (zw a2 rfl) (zf (zw rfl rfl) (zf w2 (zf (zw b1 rfl) (zf (zw b2 rfl) ?_))))))))⟩
      simp only [hq]
      exact e
  refine xe21 key fun ρ' τ e=>?_
  exact fnG_ret (vs:= [.str u, .str v, .int cap]) e rfl
end Mi
namespace Mi
theorem cLoop_gen{g:TF}{c:BF}{el:EF}{p:V→Bool}{w:V→V}{R:V→List V}{S:List V→Prop}{σ:List AObj}:∀(vs:List V) (ρ:List V) (acc:List V),S ρ→acc.length+vs.length≤LIM→
    (∀v∈vs,∀ρ,S ρ→g v ρ=some (R v)∧S (R v))→
    (∀v∈vs,∀acc,c (R v) (σ++ [.list acc])=some (p v,σ++ [.list acc])∧(p v=true→el (R v) (σ++ [.list acc])=some (w v,σ++ [.list acc])))→
    ∃ρ',S ρ'∧y5 g c (zY el σ.length) vs ρ (σ++ [.list acc])=some (ρ',σ++ [.list (acc++(vs.filter p).map w)])
  | [],ρ,acc,hS,_,_,_=>⟨ρ,hS,by simp [y5]⟩
  | v::vs,ρ,acc,hS,hl,hg,H=>by
    obtain ⟨h1,h2⟩:=H v List.mem_cons_self acc
    obtain ⟨h3,h4⟩:=hg v List.mem_cons_self ρ hS
    rw [y5,h3]
    simp only [h1]
    cases hp:p v with
    | false=>
      simp only
      refine xe12 (cLoop_gen vs (R v) acc h4 (by simp at hl; exact Nat.le_of_lt ‹_›) (fun v hv=>hg v (List.mem_cons_of_mem _ hv)) (fun v hv=>H v (List.mem_cons_of_mem _ hv))) fun ρ' s e=>?_
      exact ⟨ρ',s,by rw [e,List.filter_cons,if_neg (by simp [hp])]⟩
    | true=>
      simp only
      have e3:zY el σ.length (R v) (σ++ [.list acc])=some (R v,σ++ [.list (acc++ [w v])]):=by
        unfold zY
        refine rg (h2 hp) ?_
        have hg:(σ++ [AObj.list acc])[σ.length]?=some (.list acc):=by simp
        simp only [hg]
        refine rg (if_pos (by simp at hl; lia)) ?_
        simp
      refine rg e3 ?_
      simp only
      refine xe12 (cLoop_gen vs (R v) (acc++ [w v]) h4 (by simp at hl ⊢; lia) (fun v hv=>hg v (List.mem_cons_of_mem _ hv)) (fun v hv=>H v (List.mem_cons_of_mem _ hv))) fun ρ' s e=>?_
      exact ⟨ρ',s,by refine rg e ?_; refine rg List.filter_cons ?_; refine rg (if_pos hp) ?_; simp⟩
theorem fComp_gen{f:EsF}{js:List (Option Nat)}{g:TF}{c:BF}{el:EF}{p:V→Bool}{w:V→V}{R:V→List V}{S:List V→Prop}{ρ vs:List V}{σ:List AObj}(hf:f ρ σ=some (vs,σ))(hS:S (ρin js ρ))(hl:vs.length≤LIM)
    (hg:∀v∈vs,∀ρ,S ρ→g v ρ=some (R v)∧S (R v))
    (H:∀v∈vs,∀acc,c (R v) (σ++ [.list acc])=some (p v,σ++ [.list acc])∧(p v=true→el (R v) (σ++ [.list acc])=some (w v,σ++ [.list acc]))) (hn:∀v∈vs,p v=true→V.nl (w v)=true) :
    yh .frz f js g c (zY el) ρ σ=some (.lst ((vs.filter p).map w),σ):=by
  unfold yh fCompR
  refine rg hf ?_
  simp only
  refine xe12 (cLoop_gen vs (ρin js ρ) [] hS (by simpa using hl) hg H) fun ρ' _ e=>?_
  refine rg e ?_
  simp only [Option.bind_some,List.nil_append]
  refine freezeTo_app (V.blws_nl (V.nls_iff.mpr fun v hv=>?_))
  obtain ⟨x,hx,rfl⟩:=List.mem_map.mp hv
  exact hn x (List.mem_filter.mp hx).1 (List.mem_filter.mp hx).2
theorem cLoop_two{f2:EsF}{el:EF}{w:V→V→V}{caps:List V}{us vs:List V}{σ:List AObj}(hf2:∀x∈us,∀u acc,f2 (x::u::caps) (σ++ [.list acc])=some (vs,σ++ [.list acc]))
    (H:∀x∈us,∀y∈vs,∀acc,el (x::y::caps) (σ++ [.list acc])=some (w x y,σ++ [.list acc])):∀(l:List V) (a b:V) (acc:List V),(∀x∈l,x∈us)→acc.length+l.length*vs.length≤LIM→
    ∃a' b',y5 (tVar 0) zU (fNest f2 (tVar 1) zU (zY el) σ.length) l (a::b::caps) (σ++ [.list acc])=some (a'::b'::caps,σ++ [.list (acc++l.flatMap fun x=>vs.map (w x))])
  | [],a,b,acc,_,_=>⟨a,b,by simp [y5]⟩
  | x::l,a,b,acc,hm,hl=>by
    have hx:=hm x List.mem_cons_self
    have hl':acc.length+vs.length+l.length*vs.length≤LIM:=by
      simp only [List.length_cons,Nat.succ_mul] at hl; grind
    have t:tVar 0 x (a::b::caps)=some (x::b::caps):=rfl
    obtain ⟨ρ',⟨y',rfl⟩,e⟩:=cLoop_gen (g:=tVar 1) (c:=zU) (el:=el) (p:=fun _=>true) (w:=w x) (R:=fun y=>x::y::caps) (S:=fun ρ=> ∃y,ρ=x::y::caps) (σ:=σ) vs (x::b::caps) acc ⟨b,rfl⟩ (by lia)
      (fun y hy ρ hρ=>by obtain ⟨z,rfl⟩:=hρ; exact ⟨rfl,_,rfl⟩) (fun y hy acc=>⟨rfl,fun _=>H x hx y hy acc⟩)
    have hft:vs.filter (fun _=>true)=vs:=List.filter_eq_self.mpr fun _ _=>rfl
    rw [hft] at e
    refine xe21 (cLoop_two hf2 H l x y' (acc++vs.map (w x)) (fun z hz=>hm z (List.mem_cons_of_mem _ hz)) (by simp; omega)) fun a' b' e2=>?_
    refine ⟨a',b',?_⟩
    have hn:fNest f2 (tVar 1) zU (zY el) σ.length (x::b::caps) (σ++ [.list acc])=some (x::y'::caps,σ++ [.list (acc++vs.map (w x))]):=by
      unfold fNest
      refine rg (hf2 x hx b acc) ?_
      exact e
    rw [y5,t]
    have hnoif:zU (x::b::caps) (σ++ [.list acc])=some (true,σ++ [.list acc]):=rfl
    simp only [hnoif,hn]
    refine rg e2 ?_
    simp
theorem fComp_two{f f2:EsF}{js:List (Option Nat)}{el:EF}{w:V→V→V}{ρ caps us vs:List V}{σ:List AObj}{a b:V}(hf:f ρ σ=some (us,σ))(hρ:ρin js ρ=a::b::caps)(hl:us.length*vs.length≤LIM)
    (hf2:∀x∈us,∀u acc,f2 (x::u::caps) (σ++ [.list acc])=some (vs,σ++ [.list acc]))
    (H:∀x∈us,∀y∈vs,∀acc,el (x::y::caps) (σ++ [.list acc])=some (w x y,σ++ [.list acc])) (hn:∀x∈us,∀y∈vs,V.nl (w x y)=true) :
    yh .frz f js (tVar 0) zU (fNest f2 (tVar 1) zU (zY el)) ρ σ=some (.lst (us.flatMap fun x=>vs.map (w x)),σ):=by
  unfold yh fCompR
  refine rg hf ?_
  simp only [hρ]
  refine xe21 (cLoop_two hf2 H us a b [] (fun _ h=>h) (by simpa using hl)) fun a' b' e=>?_
  refine rg e ?_
  simp only [Option.bind_some,List.nil_append]
  refine freezeTo_app (V.blws_nl (V.nls_iff.mpr fun v hv=>?_))
  refine xe12 (List.mem_flatMap.mp hv) fun x hx hv=>?_
  obtain ⟨y,hy,rfl⟩:=List.mem_map.mp hv
  exact hn x hx y hy
noncomputable def psub(x y:Nat):Int:=if x=y then 0 else if ([x,y]:List Nat)= [97,65]∨([x,y]:List Nat)= [65,97] then 1 else 2
theorem psub_eval{σ:List AObj}{x y:Nat}:z0 [.str [x], .str [y]] σ=some (.int (psub x y),σ):=by
  refine fnG_ret0 (ρ':= [.str [x], .str [y]]) ?_ rfl
  show f__law_sub [.str [x], .str [y]] σ=_
  unfold psub
  by_cases h1:x=y
  · simp [f__law_sub,fSeq,za,fVar,fRet,fCmp,fIf,ev_c1,ev_v3,Zd,eqvS,V.pd,h1]
  · by_cases h2:([x,y]:List Nat)= [97,65]∨([x,y]:List Nat)= [65,97]
    · rcases h2 with h | h
      · simp at h
        obtain ⟨rfl,rfl⟩:=h
        rfl
      · simp at h
        obtain ⟨rfl,rfl⟩:=h
        rfl
    · have h3:¬(x=97∧y=65):=fun q=>h2 (.inl (by simp [q.1,q.2]))
      have h4:¬(x=65∧y=97):=fun q=>h2 (.inr (by simp [q.1,q.2]))
      have h5:¬(97=x∧65=y):=fun q=>h3 ⟨q.1.symm,q.2.symm⟩
      have h6:¬(65=x∧97=y):=fun q=>h4 ⟨q.1.symm,q.2.symm⟩
      simp [f__law_sub,fSeq,za,fVar,fBin,fRet,fCmp,fIf,fNil,zc,fTup,ev_o0,ev_a2,ev_c1,ev_c7,ev_v3,ev_i2,Zd,eqvS,V.pd,V.pdAll,zv,h1,h3,h4,h5,h6]
noncomputable def Zf(u v:List Nat):Int:=
  let both:=2*((u.length:Int)+v.length)
  zW (fun a b=>decide (a<b)) both ((u.flatMap fun x=>v.map fun y=>both-4+psub x y)++(if u.length=2∧v.length=2 then [psub (u.getD 0 0) (v.getD 0 0)+psub (u.getD 1 0) (v.getD 1 0)] else []))
end Mi
namespace Mi
theorem fCmp_eqI{f g:EF}{x y:Int}{ρ:List V}{σ:List AObj}(hf:f ρ σ=some (.int x,σ))(hg:g ρ σ=some (.int y,σ)):fCmp .Eq f g ρ σ=some (decide (x=y),σ):=by
  unfold fCmp
  refine rg hf ?_
  simp only [hg,ev_c1,Zd,ev_v2,V.pd,and_self,if_true,eqvI,Option.map_some]
theorem zZ{g:EsF}{F:List V→List AObj→Option (V × List AObj)}{vs:List V}{ρ:List V}{σ σ1:List AObj}{r:Option (V × List AObj)}(hg:g ρ σ=some (vs,σ1))(hF:F vs σ1=r):zy g F ρ σ=r:=by
  unfold zy
  refine rg hg ?_
  exact hF
theorem zk{f:EF}{g:EsF}{ρ vs:List V}{v:V}{σ σ1 σ2:List AObj}(hf:f ρ σ=some (v,σ1))(hg:g ρ σ1=some (vs,σ2)):zc f g ρ σ=some (v::vs,σ2):=by
  unfold zc
  refine rg hf ?_
  simp only [hg]
theorem zP{g:EsF}{F:List AObj→List V→Option V}{vs:List V}{v:V}{ρ:List V}{σ σ1:List AObj}(hg:g ρ σ=some (vs,σ1))(hF:F σ1 vs=some v):zj g F ρ σ=some (v,σ1):=by
  unfold zj
  refine rg hg ?_
  simp only [hF,Option.map_some]
theorem yo{f:EF}{ρ:List V}{σ σ1:List AObj}(h:f ρ σ=some (.none,σ1)):zX f ρ σ=some (.next,ρ,σ1):=by
  unfold zX
  refine rg h ?_; rfl
theorem slot_last{σ:List AObj}{o:AObj}:(σ++ [o])[σ.length]?=some o:=by simp
theorem look_last{σ:List AObj}{X:List V}:yx (σ++ [.list X]) (.loc σ.length)=some (.lst X):=by simp [ev_v8]
theorem app_last{σ:List AObj}{X:List V}{x:V}(h:X.length<LIM):zB (σ++ [.list X]) (.loc σ.length) [x]=some (.none,σ++ [.list (X++ [x])]):=by simp [zB,h]
theorem yK{f:EF}{g:EsF}{F:PF}{ρ vs X:List V}{v:V}{σ σ1 σ2:List AObj}{r:Option (V × List AObj)}(hf:f ρ σ=some (v,σ1))(hv:yx σ1 v=some (.lst X))(hg:g ρ σ1=some (vs,σ2))(hF:F σ2 v vs=r):zF f g F ρ σ=r:=by
  unfold zF
  refine rg hf ?_
  simp only [hv,hg,hF]
theorem price_eval{u v:List Nat}{σ:List AObj}(hu:u.length≤3)(hv:v.length≤3):y3 [.str u, .str v] σ=some (.int (Zf u v),σ):=by
  have lu:=len_var (i:=0) (w:=u) (ρ:= [.str u, .str v, .undef, .undef]) (σ:=σ) rfl
  have lv:=len_var (i:=1) (w:=v) (ρ:= [.str u, .str v, .undef, .undef]) (σ:=σ) rfl
  have s1:fAsg (fBin (opOf .Mult) (za (.int 2)) (fBin (opOf .Add) (zj (zc (fVar 0) fNil) pLen) (zj (zc (fVar 1) fNil) pLen))) (tVar 2) [.str u, .str v, .undef, .undef] σ=some (.next, [.str u, .str v, .int (2*((u.length:Int)+v.length)), .undef],σ):=
    zw (zJ rfl (zJ lu lv y8) (opMul_int (by decide))) rfl
  generalize hb:2*((u.length:Int)+v.length)=both at s1
  have cm:=fComp_two (f:=zI (fVar 0)) (f2:=zI (fVar 3)) (js:= [none,none,some 2,some 1]) (el:=fBin (opOf .Add) (fBin (opOf .Sub) (fVar 2) (za (.int 4))) (zy (zc (fVar 0) (zc (fVar 1) fNil)) z0))
    (w:=fun x y=>match x,y with | .str [a], .str [b]=> .int (both-4+psub a b) | _,_=> .none) (ρ:= [.str u, .str v, .int both, .undef]) (caps:= [.int both, .str v]) (us:=u.map fun c=> .str [c]) (vs:=v.map fun c=> .str [c]) (σ:=σ) (a:= .undef) (b:= .undef)
    rfl rfl (by
      rw [List.length_map,List.length_map,zv]
      exact Nat.le_trans (Nat.mul_le_mul hu hv) (by decide)) (fun x _ u acc=>rfl) (fun x hx y hy acc=>by
      obtain ⟨c,_,rfl⟩:=List.mem_map.mp hx
      obtain ⟨d,_,rfl⟩:=List.mem_map.mp hy
      exact zJ (zJ rfl rfl yS) (zZ (vs:= [.str [c], .str [d]]) rfl psub_eval) y8) (fun x hx y hy=>by
      obtain ⟨c,_,rfl⟩:=List.mem_map.mp hx
      obtain ⟨d,_,rfl⟩:=List.mem_map.mp hy
      rfl)
  have hlist:((u.map fun c=>V.str [c]).flatMap fun x=>(v.map fun c=>V.str [c]).map fun y=>match x,y with | .str [a], .str [b]=>V.int (both-4+psub a b) | _,_=> .none)=(u.flatMap fun x=>v.map fun y=>both-4+psub x y).map .int:=by
    rw [List.flatMap_map,List.map_flatMap]
    congr 1
    funext c
    refine rg List.map_map ?_; refine rg List.map_map ?_
    rfl
  rw [hlist] at cm
  have hlen:(u.flatMap fun x=>v.map fun y=>both-4+psub x y).length≤9:=by
    have:(u.flatMap fun x=>v.map fun y=>both-4+psub x y).length=u.length*v.length:=by
      clear cm hlist s1 lu lv hu hb
      induction u with
      | nil=>simp
      | cons c u ih=>refine rg List.flatMap_cons ?_; refine rg List.length_append ?_; refine rg ih ?_; simp [Nat.succ_mul,Nat.add_comm]
    refine rg this ?_
    exact Nat.mul_le_mul hu hv
  generalize hlq:(u.flatMap fun x=>v.map fun y=>both-4+psub x y)=l at *
  have s2:fAsg (fCat true (fLst (zc (fVar 2) fNil)) (yh .frz (zI (fVar 0)) [none,none,some 2,some 1] (tVar 0) zU (fNest (zI (fVar 3)) (tVar 1) zU (zY (fBin (opOf .Add) (fBin (opOf .Sub) (fVar 2) (za (.int 4))) (zy (zc (fVar 0) (zc (fVar 1) fNil)) z0)))))) (tVar 3) [.str u, .str v, .int both, .undef] σ=some (.next, [.str u, .str v, .int both, .loc σ.length],σ++ [.list ((both::l).map .int)]):=by
    refine zw (v:= .loc σ.length) ?_ rfl
    have h1:fLst (zc (fVar 2) fNil) [.str u, .str v, .int both, .undef] σ=some (.lst [.int both],σ):=by
      rfl
    unfold fCat
    refine rg h1 ?_
    have hlt: [V.int both].length+(l.map V.int).length≤LIM:=by
      rw [List.length_map,zv]
      simp only [List.length_cons,List.length_nil]
      omega
    simp only [cm]
    exact if_pos hlt
  have rest:∃ρ' τ,(fSeq (fIfS (fAnd (fCmp .Eq (zj (zc (fVar 0) fNil) pLen) (za (.int 2))) (fAnd (fCmp .Eq (zj (zc (fVar 1) fNil) pLen) (za (.int 2))) Zz)) (fSeq (zX (zF (fVar 3) (zc (fBin (opOf .Add) (zy (zc (fIdx (fVar 0) (za (.int 0))) (zc (fIdx (fVar 1) (za (.int 0))) fNil)) z0) (zy (zc (fIdx (fVar 0) (za (.int 1))) (zc (fIdx (fVar 1) (za (.int 1))) fNil)) z0)) fNil) zB)) zh) zh)
    (fSeq (fRet (zj (zc (fVar 3) fNil) pMin1)) zh)) [.str u, .str v, .int both, .loc σ.length] (σ++ [.list ((both::l).map .int)])=some (.ret (.int (Zf u v)),ρ',σ++τ):=by
    have mn:∀m:List Int,(fSeq (fRet (zj (zc (fVar 3) fNil) pMin1)) zh) [.str u, .str v, .int both, .loc σ.length] (σ++ [.list ((both::m).map .int)])=some (.ret (.int (zW (fun a b=>decide (a<b)) both m)), [.str u, .str v, .int both, .loc σ.length],σ++ [.list ((both::m).map .int)]):=fun m=>by
      refine ZA (zP (vs:= [.loc σ.length]) rfl ?_)
      have hi:Zy (σ++ [.list ((both::m).map .int)]) (.loc σ.length)=some (both::m):=by
        unfold Zy
        simp only [isLst,if_true,ev_w3,slot_last,Option.bind_some,ZH]
      simp only [pMin1,hi]
    have c1:=fCmp_eqI (g:=za (.int 2)) (len_var (i:=0) (w:=u) (ρ:= [.str u, .str v, .int both, .loc σ.length]) (σ:=σ++ [.list ((both::l).map .int)]) rfl) rfl
    have c2:=fCmp_eqI (g:=za (.int 2)) (len_var (i:=1) (w:=v) (ρ:= [.str u, .str v, .int both, .loc σ.length]) (σ:=σ++ [.list ((both::l).map .int)]) rfl) rfl
    have hp:Zf u v=zW (fun a b=>decide (a<b)) both (l++(if u.length=2∧v.length=2 then [psub (u.getD 0 0) (v.getD 0 0)+psub (u.getD 1 0) (v.getD 1 0)] else [])):=by
      unfold Zf
      simp only [hb,hlq]
    by_cases h1:u.length=2
    · by_cases h2:v.length=2
      · rw [decide_eq_true (by solve_by_elim [Nat.le_of_lt,Nat.lt_of_lt_of_le,Nat.lt_of_le_of_lt])] at c1 c2
        rw [if_pos ⟨h1,h2⟩] at hp
        have ht:fAnd (fCmp .Eq (zj (zc (fVar 0) fNil) pLen) (za (.int 2))) (fAnd (fCmp .Eq (zj (zc (fVar 1) fNil) pLen) (za (.int 2))) Zz) [.str u, .str v, .int both, .loc σ.length] (σ++ [.list ((both::l).map .int)])=some (true,σ++ [.list ((both::l).map .int)]):=zH c1 (zH c2 rfl)
        have i1:=fIdx_str (i:=0) (k:=0) (f1:=za (.int 0)) (u:=u) (ρ:= [.str u, .str v, .int both, .loc σ.length]) (σ:=σ++ [.list ((both::l).map .int)]) rfl rfl (by omega)
        have i2:=fIdx_str (i:=1) (k:=0) (f1:=za (.int 0)) (u:=v) (ρ:= [.str u, .str v, .int both, .loc σ.length]) (σ:=σ++ [.list ((both::l).map .int)]) rfl rfl (by omega)
        have i3:=fIdx_str (i:=0) (k:=1) (f1:=za (.int 1)) (u:=u) (ρ:= [.str u, .str v, .int both, .loc σ.length]) (σ:=σ++ [.list ((both::l).map .int)]) rfl rfl (by omega)
        have i4:=fIdx_str (i:=1) (k:=1) (f1:=za (.int 1)) (u:=v) (ρ:= [.str u, .str v, .int both, .loc σ.length]) (σ:=σ++ [.list ((both::l).map .int)]) rfl rfl (by omega)
        have sm:=zJ (op:=opOf .Add) (zZ (F:=z0) (zk i1 (zk (g:=fNil) i2 rfl)) psub_eval) (zZ (F:=z0) (zk i3 (zk (g:=fNil) i4 rfl)) psub_eval) y8
        have ap:zX (zF (fVar 3) (zc (fBin (opOf .Add) (zy (zc (fIdx (fVar 0) (za (.int 0))) (zc (fIdx (fVar 1) (za (.int 0))) fNil)) z0) (zy (zc (fIdx (fVar 0) (za (.int 1))) (zc (fIdx (fVar 1) (za (.int 1))) fNil)) z0)) fNil) zB) [.str u, .str v, .int both, .loc σ.length] (σ++ [.list ((both::l).map .int)])=some (.next, [.str u, .str v, .int both, .loc σ.length],σ++ [.list ((both::(l++ [psub (u.getD 0 0) (v.getD 0 0)+psub (u.getD 1 0) (v.getD 1 0)])).map .int)]):=by
          have hlt:((both::l).map V.int).length<LIM:=by rw [List.length_map,zv]; simp only [List.length_cons]; omega
          have hX:((both::l).map V.int)++ [V.int (psub (u.getD 0 0) (v.getD 0 0)+psub (u.getD 1 0) (v.getD 1 0))]=(both::(l++ [psub (u.getD 0 0) (v.getD 0 0)+psub (u.getD 1 0) (v.getD 1 0)])).map V.int:=by simp
          refine yo (yK (v:= .loc σ.length) (X:=(both::l).map V.int) rfl look_last (zk (g:=fNil) sm rfl) ?_)
          refine rg (app_last hlt) ?_; refine rg hX ?_; rfl
        refine rg hp ?_
        refine ⟨_, [.list ((both::(l++ [psub (u.getD 0 0) (v.getD 0 0)+psub (u.getD 1 0) (v.getD 1 0)])).map .int)],zf ((Zu ht).trans (zf ap rfl)) (mn _)⟩
      · rw [decide_eq_true (by omega)] at c1
        rw [decide_eq_false (by omega)] at c2
        rw [if_neg (fun q=>h2 q.2),List.append_nil] at hp
        refine rg hp ?_
        exact ⟨_, [.list ((both::l).map .int)],zf ((yC (zH c1 (yq c2))).trans rfl) (mn _)⟩
    · rw [decide_eq_false (by omega)] at c1
      rw [if_neg (fun q=>h1 q.1),List.append_nil] at hp
      refine rg hp ?_
      exact ⟨_, [.list ((both::l).map .int)],zf ((yC (yq c1)).trans rfl) (mn _)⟩
  refine xe21 rest fun ρ' τ e=>?_
  have key:f__law_price [.str u, .str v, .undef, .undef] σ=some (.ret (.int (Zf u v)),ρ',σ++τ):=by
    skip
    exact zf s1 (zf s2 e)
  exact fnG_ret (vs:= [.str u, .str v]) key rfl
noncomputable def WL:List (List Nat):=(List.range 42).map wd
theorem wd_WL(d:Nat):wd d∈WL:=by
  have:wd d=wd (d%42):=by
    unfold wd
    have h1:d%42%6=d%6:=by simp
    have h2:d%42/6%7=d/6%7:=(congrArg (· % 7) (Nat.mod_mul_right_div_self d 6 7)).trans (Nat.mod_mod _ _)
    refine rg h1 ?_; refine rg h2 ?_; rfl
  refine rg this ?_
  exact List.mem_map.mpr ⟨d%42,List.mem_range.mpr (Nat.mod_lt _ (by decide)),rfl⟩
noncomputable def okPair(u v:List Nat):Bool:=decide (0≤Zf u v)&&decide (Zf u v≤4)&&decide (levP u v 4=Zf u v)&&(List.range 5).all fun c=>decide (levP u v c≤c)==decide (Zf u v≤c)
noncomputable def rowOk(k:Nat):Bool:=(List.range' (6*k) 6).all fun d=>WL.all fun v=>okPair (wd d) v
theorem row0k:rowOk 0=true:=by decide +kernel
theorem row1k:rowOk 1=true:=by decide +kernel
theorem row2k:rowOk 2=true:=by decide +kernel
theorem row3k:rowOk 3=true:=by decide +kernel
theorem row4k:rowOk 4=true:=by decide +kernel
theorem row5k:rowOk 5=true:=by decide +kernel
theorem row6k:rowOk 6=true:=by decide +kernel
theorem row_of:∀k:Nat,k<7→rowOk k=true
  | 0,_=>row0k
  | 1,_=>row1k
  | 2,_=>row2k
  | 3,_=>row3k
  | 4,_=>row4k
  | 5,_=>row5k
  | 6,_=>row6k
  | k+7,h=>absurd h (Nat.not_lt.mpr (Nat.le_add_left 7 k))
theorem row_mem:∀d:Nat,d<42→d/6<7∧d∈List.range' (6*(d/6)) 6:=by decide
theorem pairs_ok:(WL.all fun u=>WL.all fun v=>okPair u v)=true:=List.all_eq_true.mpr fun u hu=>by
  obtain ⟨d,hd,rfl⟩:=List.mem_map.mp hu
  have h:=row_mem d (List.mem_range.mp hd)
  exact List.all_eq_true.mp (row_of (d/6) h.1) d h.2
theorem WL_shape:(WL.all fun u=>decide (u.length≤3)&&u.all fun c=>y6.contains c)=true:=by decide +kernel
end Mi
namespace Mi
noncomputable abbrev T3:=Int × Int × Int
noncomputable def tV(t:T3):V:= .tup [.int t.1, .int t.2.1, .int t.2.2]
noncomputable def tle(a b:T3):Prop:=a.1<b.1∨(a.1=b.1∧(a.2.1<b.2.1∨(a.2.1=b.2.1∧a.2.2≤b.2.2)))
noncomputable def tlt(a b:T3):Bool:=Zs [a.1,a.2.1,a.2.2] [b.1,b.2.1,b.2.2]
theorem tlt_iff{a b:T3}:tlt a b=true↔¬tle b a:=by
  obtain ⟨a1,a2,a3⟩:=a
  obtain ⟨b1,b2,b3⟩:=b
  unfold tlt tle Zs Zs Zs Zs
  simp only
  split
  · split
    · split
      · simp; lia
      · simp; grind
    · simp; lia
  · simp; lia
theorem tlt_false{a b:T3}:tlt a b=false↔tle b a:=by
  have:=tlt_iff (a:=a) (b:=b)
  cases h:tlt a b with
  | true=>
    rw [h] at this
    simp at this ⊢
    exact this
  | false=>
    rw [h] at this
    simp at this ⊢
    exact this
theorem tle_refl(a:T3):tle a a:=by unfold tle; simp
theorem lexT{x y z:Int}{P Q R:Prop}(h:P→Q→R)(h1:x<y∨(x=y∧P))(h2:y<z∨(y=z∧Q)):x<z∨(x=z∧R):=
  h1.elim (fun a=> .inl (h2.elim (fun b=>Int.lt_trans a b) fun b=>b.1▸a)) fun a=>h2.elim (fun b=> .inl (a.1.symm▸b)) fun b=> .inr ⟨a.1.trans b.1,h a.2 b.2⟩
theorem lexC{x y:Int}{P Q:Prop}(h:P∨Q):(x<y∨(x=y∧P))∨(y<x∨(y=x∧Q)):=
  (Int.lt_trichotomy x y).elim (fun a=> .inl (.inl a)) fun a=>a.elim (fun e=>h.elim (fun p=> .inl (.inr ⟨e,p⟩)) fun q=> .inr (.inr ⟨e.symm,q⟩)) fun a=> .inr (.inl a)
theorem tle_trans{a b c:T3}(h1:tle a b)(h2:tle b c):tle a c:=lexT (lexT Int.le_trans) h1 h2
theorem tle_total(a b:T3):tle a b∨tle b a:=lexC (lexC (Int.le_total _ _))
theorem tle_of_lt{a b:T3}(h:tlt a b=true):tle a b:=by
  rcases tle_total a b with q | q
  · exact q
  · exact absurd q (tlt_iff.mp h)
theorem tVs_nl(l:List T3):V.nls (l.map tV)=true:=V.nls_iff.mpr fun v hv=>by
  obtain ⟨x,_,rfl⟩:=List.mem_map.mp hv
  rfl
theorem cmp_tV{f g:EF}{x y:T3}{ρ:List V}{σ σ1 σ2:List AObj}(hf:f ρ σ=some (tV x,σ1))(hg:g ρ σ1=some (tV y,σ2)):fCmp .Lt f g ρ σ=some (tlt x y,σ2):=by
  unfold fCmp
  refine rg hf ?_
  simp only [hg]
  rfl
noncomputable abbrev SL(σ:List AObj)(l:Nat)(H:List T3):List AObj:=σ.set l (.list (H.map tV))
noncomputable abbrev t0:T3:=(0,0,0)
section
variable {σ:List AObj}{l:Nat}{H:List T3}(hl:l<σ.length)
include hl
theorem SL_get:(SL σ l H)[l]?=some (.list (H.map tV)):=by simp [SL,hl]
theorem SL_set{H':List T3}:(SL σ l H).set l (.list (H'.map tV))=SL σ l H':=by simp [SL]
theorem SL_idx{i:Nat}(hi:i<H.length):ZR (SL σ l H) (.loc l) (.int i)=some (tV (H.getD i t0)):=by
  show ((yM (SL σ l H) (.loc l)).bind fun vs=>(nth vs.length (i:Int)).bind fun j=>vs[j]?)=_
  simp only [ev_w3,SL_get hl,Option.bind_some,List.length_map,nth_nat hi,List.getElem?_map,List.getElem?_eq_getElem hi,Option.map_some,List.getD_eq_getElem?_getD,Option.getD_some]
theorem SL_setOf{i:Nat}{x:T3}(hi:i<H.length):setOf (SL σ l H) (.loc l) (.int i) (tV x)=some (SL σ l (H.set i x)):=by
  have hc:0≤(i:Int)∧(i:Int)<((H.map tV).length:Nat):=by rw [List.length_map]; lia
  simp only [setOf,SL_get hl,if_pos hc,Int.toNat_natCast]
  refine rl List.map_set ?_; refine rg (SL_set hl) ?_; rfl
theorem SL_kept{H':List T3}:ZZ (SL σ l H) (SL σ l H'):=fun j o hj e=>by
  by_cases hjl:j=l
  · subst hjl
    rw [SL_get hl] at e
    cases e
    right
    exact V.blws_nl (tVs_nl H')
  · left
    simp only [SL,List.getElem?_set,if_neg (Ne.symm hjl)] at e ⊢
    exact e
theorem SL_finF{H':List T3}{v:V}(hv:V.nl v=true):finF (SL σ l H) (SL σ l H') v=some (v,SL σ l H'):=by
  rw [finF_nl (SL_kept hl) hv,List.take_of_length_le (by simp [SL])]
end
noncomputable def par(i:Nat):Nat:=(i-1)/2
noncomputable def Ah(K:List T3)(pos:Nat):Prop:=(∀i,0<i→i<K.length→i≠pos→tle (K.getD (par i) t0) (K.getD i t0))∧(0<pos→∀i,0<i→i<K.length→par i=pos→tle (K.getD (par pos) t0) (K.getD i t0))
noncomputable def Zb(K:List T3):Prop:= ∀i,0<i→i<K.length→tle (K.getD (par i) t0) (K.getD i t0)
theorem Zl{K:List T3}{i j:Nat}{x:T3}(hi:i<K.length):(K.set i x).getD j t0=if i=j then x else K.getD j t0:=by
  refine rg List.getD_eq_getElem?_getD ?_; refine rg List.getElem?_set ?_
  by_cases h:i=j
  · subst h; simp [hi]
  · simp [h]
theorem par_lt{i:Nat}(h:0<i):par i<i:=by unfold par; omega
theorem Ah.up{H:List T3}{pos:Nat}{x:T3}(hp:pos<H.length)(h0:0<pos)(a:Ah (H.set pos x) pos)(hx:tlt x (H.getD (par pos) t0)=true):Ah ((H.set pos (H.getD (par pos) t0)).set (par pos) x) (par pos):=by
  obtain ⟨a1,a2⟩:=a
  have hpp:=par_lt h0
  have hle:=tle_of_lt hx
  simp only [List.length_set] at a1 a2
  have g1:∀j,(H.set pos x).getD j t0=if pos=j then x else H.getD j t0:=fun j=>Zl hp
  have g2:∀j,((H.set pos (H.getD (par pos) t0)).set (par pos) x).getD j t0=if par pos=j then x else if pos=j then H.getD (par pos) t0 else H.getD j t0:=fun j=>by
    rw [Zl (by simp; solve_by_elim [Nat.le_of_lt,Nat.lt_of_lt_of_le,Nat.lt_of_le_of_lt])]
    by_cases h:par pos=j
    · simp [h]
    · simp only [if_neg h]
      exact Zl hp
  refine ⟨fun i hi0 hil hip=>?_,fun hq i hi0 hil hip=>?_⟩
  · simp only [List.length_set] at hil
    rw [g2,g2,if_neg (show ¬par pos=i from fun q=>hip q.symm)]
    by_cases e1:par pos=par i
    · refine rg (if_pos e1) ?_
      by_cases e2:pos=i
      · subst e2
        refine rg (if_pos rfl) ?_; exact hle
      · refine rg (if_neg e2) ?_
        have:=a1 i hi0 hil (Ne.symm e2)
        rw [g1,g1,if_neg e2,←e1,if_neg (by exact Nat.ne_of_gt ‹_›)] at this
        exact tle_trans hle this
    · refine rg (if_neg e1) ?_
      by_cases e2:pos=i
      · subst e2; exact absurd rfl e1
      · refine rg (if_neg e2) ?_
        by_cases e3:pos=par i
        · refine rg (if_pos e3) ?_
          have:=a2 h0 i hi0 hil e3.symm
          rw [g1,g1,if_neg (by exact Nat.ne_of_gt ‹_›),if_neg e2] at this
          exact this
        · refine rg (if_neg e3) ?_
          have:=a1 i hi0 hil (Ne.symm e2)
          rw [g1,g1,if_neg e2,if_neg e3] at this
          exact this
  · simp only [List.length_set] at hil
    have hpar:=par_lt hq
    have hpi:=par_lt hi0
    rw [g2,g2,if_neg (by exact Nat.ne_of_gt ‹_›),if_neg (by lia)]
    have base:tle (H.getD (par (par pos)) t0) (H.getD (par pos) t0):=by
      have:=a1 (par pos) hq (by solve_by_elim [Nat.le_of_lt,Nat.lt_of_lt_of_le,Nat.lt_of_le_of_lt]) (by exact Nat.ne_of_lt ‹_›)
      rw [g1,g1,if_neg (by lia),if_neg (by exact Nat.ne_of_gt ‹_›)] at this
      exact this
    refine rg (if_neg (by lia)) ?_
    by_cases e2:pos=i
    · refine rg (if_pos e2) ?_; exact base
    · refine rg (if_neg e2) ?_
      have:=a1 i hi0 hil (Ne.symm e2)
      rw [g1,g1,if_neg e2,if_neg (by lia),hip] at this
      exact tle_trans base this
theorem Ah.done{K:List T3}{pos:Nat}(a:Ah K pos)(h:0<pos→tle (K.getD (par pos) t0) (K.getD pos t0)):Zb K:=fun i hi0 hil=>by
  by_cases e:i=pos
  · subst e; exact h hi0
  · exact a.1 i hi0 hil e
theorem getD_eq{K:List T3}{i:Nat}(h:i<K.length):K.getD i t0=K[i]:=by
  refine rg List.getD_eq_getElem?_getD ?_; refine rg (List.getElem?_eq_getElem h) ?_; rfl
end Mi
namespace Mi
theorem swap_perm{H:List T3}{i j:Nat}{x:T3}(hi:i<H.length)(hj:j<H.length)(hij:i≠j):((H.set i (H.getD j t0)).set j x).Perm (H.set i x):=by
  have h:=List.set_set_perm (as:=H.set i x) (i:=i) (j:=j) (by simpa using hi) (by simpa using hj)
  have e1:(H.set i x)[j]'(by simpa using hj)=H.getD j t0:=by
    rw [List.getElem_set_ne hij,getD_eq hj]
  have e2:(H.set i x)[i]'(by simpa using hi)=x:=by simp
  rw [e1,e2,List.set_set] at h
  exact h
noncomputable abbrev sdC:BF:=fCmp .Gt (fVar 2) (fVar 1)
noncomputable abbrev sdB:SF:=(fSeq (fAsg (fBin (opOf .RShift) (fBin (opOf .Sub) (fVar 2) (za (.int 1))) (za (.int 1))) (tVar 4))
  (fSeq (fAsg (fIdx (fVar 0) (fVar 4)) (tVar 5))
  (fSeq (fIfS (fCmp .Lt (fVar 3) (fVar 5)) (fSeq (fSet (fVar 5) (fVar 0) (fVar 2)) (fSeq (fAsg (fVar 4) (tVar 2)) (fSeq fCont zh))) zh)
  (fSeq fBrk zh))))
theorem fSeq_cont{f g:SF}{ρ ρ1:List V}{σ σ1:List AObj}(h:f ρ σ=some (.cont,ρ1,σ1)):fSeq f g ρ σ=some (.cont,ρ1,σ1):=by
  unfold fSeq
  refine rg h ?_; rfl
theorem yj{f g:EF}{ρ:List V}{a b v:V}{σ σ1 σ2:List AObj}(hf:f ρ σ=some (a,σ1))(hg:g ρ σ1=some (b,σ2))(hi:ZR σ2 a b=some v):fIdx f g ρ σ=some (v,σ2):=by
  unfold fIdx
  refine rg hf ?_
  simp only [hg,hi,Option.map_some]
theorem fSet_of{f g h:EF}{ρ:List V}{v o k:V}{σ σ1 σ2 σ3 σ4:List AObj}(hf:f ρ σ=some (v,σ1))(hg:g ρ σ1=some (o,σ2))(hh:h ρ σ2=some (k,σ3))(hs:setOf σ3 o k v=some σ4):fSet f g h ρ σ=some (.next,ρ,σ4):=by
  unfold fSet
  refine rg hf ?_
  simp only [hg,hh,hs,Option.map_some]
theorem opShr_int{a:Int}:opOf .RShift (.int a) (.int 1)=some (.int (a/2)):=rfl
section
variable {σ:List AObj}{l:Nat}(hl:l<σ.length)
include hl
theorem sd_loop{x:T3}:∀(n pos:Nat) (H:List T3) (p4 p5:V),pos≤n→pos<H.length→Ah (H.set pos x) pos→
    ∃H2 pos2 p4' p5',yA sdC sdB [.loc l, .int 0, .int (pos:Nat),tV x,p4,p5] (SL σ l H)=some (.next, [.loc l, .int 0, .int (pos2:Nat),tV x,p4',p5'],SL σ l H2)∧pos2<H2.length∧(H2.set pos2 x).Perm (H.set pos x)∧Zb (H2.set pos2 x)
  | n,pos,H,p4,p5,hn,hp,a=>by
    have c:sdC [.loc l, .int 0, .int (pos:Nat),tV x,p4,p5] (SL σ l H)=some (decide ((0:Int)<(pos:Nat)),SL σ l H):=fCmp_gt rfl rfl
    by_cases h0:0<pos
    · rw [decide_eq_true (by lia)] at c
      have hpp:=par_lt h0
      have hpl:par pos<H.length:=by solve_by_elim [Nat.le_of_lt,Nat.lt_of_lt_of_le,Nat.lt_of_le_of_lt]
      have e1:((pos:Int)-1)/2=((par pos:Nat):Int):=by unfold par; grind
      have b1:fAsg (fBin (opOf .RShift) (fBin (opOf .Sub) (fVar 2) (za (.int 1))) (za (.int 1))) (tVar 4) [.loc l, .int 0, .int (pos:Nat),tV x,p4,p5] (SL σ l H)=some (.next, [.loc l, .int 0, .int (pos:Nat),tV x, .int (par pos:Nat),p5],SL σ l H):=by
        refine zw (zJ (zJ rfl rfl yS) rfl opShr_int) ?_
        refine rg e1 ?_; rfl
      have b2:fAsg (fIdx (fVar 0) (fVar 4)) (tVar 5) [.loc l, .int 0, .int (pos:Nat),tV x, .int (par pos:Nat),p5] (SL σ l H)=some (.next, [.loc l, .int 0, .int (pos:Nat),tV x, .int (par pos:Nat),tV (H.getD (par pos) t0)],SL σ l H):=
        zw (yj rfl rfl (SL_idx hl hpl)) rfl
      have b3:fCmp .Lt (fVar 3) (fVar 5) [.loc l, .int 0, .int (pos:Nat),tV x, .int (par pos:Nat),tV (H.getD (par pos) t0)] (SL σ l H)=some (tlt x (H.getD (par pos) t0),SL σ l H):=cmp_tV rfl rfl
      cases ht:tlt x (H.getD (par pos) t0) with
      | true=>
        rw [ht] at b3
        have b4:fSet (fVar 5) (fVar 0) (fVar 2) [.loc l, .int 0, .int (pos:Nat),tV x, .int (par pos:Nat),tV (H.getD (par pos) t0)] (SL σ l H)=some (.next, [.loc l, .int 0, .int (pos:Nat),tV x, .int (par pos:Nat),tV (H.getD (par pos) t0)],SL σ l (H.set pos (H.getD (par pos) t0))):=fSet_of rfl rfl rfl (SL_setOf hl hp)
        have hb:sdB [.loc l, .int 0, .int (pos:Nat),tV x,p4,p5] (SL σ l H)=some (.cont, [.loc l, .int 0, .int (par pos:Nat),tV x, .int (par pos:Nat),tV (H.getD (par pos) t0)],SL σ l (H.set pos (H.getD (par pos) t0))):=
          zf b1 (zf b2 (fSeq_cont ((Zu b3).trans (zf b4 (zf (zw rfl rfl) (fSeq_cont rfl))))))
        match n,hn with
        | 0,hn=>exact absurd ‹_› (Nat.not_le.mpr ‹_›)
        | n+1,hn=>
          refine xe44 (sd_loop (x:=x) n (par pos) (H.set pos (H.getD (par pos) t0)) (.int (par pos:Nat)) (tV (H.getD (par pos) t0)) (by grind) (by simp; omega) (a.up hp h0 ht)) fun H2 pos2 p4' p5' e q1 q2 q3=>?_
          exact ⟨H2,pos2,p4',p5',z5 c (.inr hb) e,q1,q2.trans (swap_perm hp hpl (by exact Nat.ne_of_gt ‹_›)),q3⟩
      | false=>
        rw [ht] at b3
        have hb:sdB [.loc l, .int 0, .int (pos:Nat),tV x,p4,p5] (SL σ l H)=some (.brk, [.loc l, .int 0, .int (pos:Nat),tV x, .int (par pos:Nat),tV (H.getD (par pos) t0)],SL σ l H):=
          zf b1 (zf b2 (zf ((yC b3).trans rfl) (fSeq_brk rfl)))
        refine ⟨H,pos,_,_,fWhile_brk c hb,hp,List.Perm.refl _,a.done fun _=>?_⟩
        rw [Zl hp,Zl hp,if_neg (by exact Nat.ne_of_gt ‹_›),if_pos rfl]
        exact tlt_false.mp ht
    · rw [decide_eq_false (by lia)] at c
      exact ⟨H,pos,p4,p5,zO c,hp,List.Perm.refl _,a.done fun q=>absurd q h0⟩
theorem siftdown_eval{H:List T3}{pos:Nat}(hp:pos<H.length)(a:Ah H pos):∃H',yJ [.loc l, .int 0, .int (pos:Nat)] (SL σ l H)=some (.none,SL σ l H')∧H'.Perm H∧Zb H':=by
  have hs:H.set pos (H.getD pos t0)=H:=by refine rg (getD_eq hp) ?_; exact List.set_getElem_self hp
  refine xe44 (sd_loop hl (x:=H.getD pos t0) pos pos H .undef .undef (Nat.le_refl _) hp (by refine rg hs ?_; exact a)) fun H2 pos2 p4' p5' e q1 q2 q3=>?_
  rw [hs] at q2
  refine ⟨H2.set pos2 (H.getD pos t0),?_,q2,q3⟩
  have s1:fAsg (fIdx (fVar 0) (fVar 2)) (tVar 3) [.loc l, .int 0, .int (pos:Nat), .undef, .undef, .undef] (SL σ l H)=some (.next, [.loc l, .int 0, .int (pos:Nat),tV (H.getD pos t0), .undef, .undef],SL σ l H):=zw (yj rfl rfl (SL_idx hl hp)) rfl
  have s2:fSet (fVar 3) (fVar 0) (fVar 2) [.loc l, .int 0, .int (pos2:Nat),tV (H.getD pos t0),p4',p5'] (SL σ l H2)=some (.next, [.loc l, .int 0, .int (pos2:Nat),tV (H.getD pos t0),p4',p5'],SL σ l (H2.set pos2 (H.getD pos t0))):=fSet_of rfl rfl rfl (SL_setOf hl q1)
  have key:ZO [.loc l, .int 0, .int (pos:Nat), .undef, .undef, .undef] (SL σ l H)=some (.next, [.loc l, .int 0, .int (pos2:Nat),tV (H.getD pos t0),p4',p5'],SL σ l (H2.set pos2 (H.getD pos t0))):=by
    skip
    exact zf s1 (zf e (zf s2 rfl))
  show fnG 6 3 ZO _ _=_
  unfold fnG fnF
  have hlen:([V.loc l, .int 0, .int (pos:Nat)]:List V).length=3:=rfl
  refine rg (if_pos hlen) ?_
  have key':ZO ([V.loc l, .int 0, .int (pos:Nat)]++List.replicate (6-([V.loc l, .int 0, .int (pos:Nat)]:List V).length) .undef) (SL σ l H)=_:=key
  refine rg key' ?_
  exact SL_finF hl rfl
theorem heappush_eval{H:List T3}{x:T3}(hH:Zb H)(hlen:H.length<1000):∃H',yL [.loc l,tV x] (SL σ l H)=some (.none,SL σ l H')∧H'.Perm (x::H)∧Zb H':=by
  have a:Ah (H++ [x]) H.length:=by
    refine ⟨fun i hi0 hil hip=>?_,fun h0 i hi0 hil hip=>?_⟩
    · have hi:i<H.length:=by simp at hil; lia
      have hpi:=par_lt hi0
      have:=hH i hi0 hi
      rw [getD_eq (by solve_by_elim [Nat.le_of_lt,Nat.lt_of_lt_of_le,Nat.lt_of_le_of_lt]),getD_eq hi] at this
      rw [getD_eq (by simp; solve_by_elim [Nat.le_of_lt,Nat.lt_of_lt_of_le,Nat.lt_of_le_of_lt]),getD_eq (by simp; exact Nat.lt_succ_of_lt ‹_›),List.getElem_append_left (by solve_by_elim [Nat.le_of_lt,Nat.lt_of_lt_of_le,Nat.lt_of_le_of_lt]),List.getElem_append_left hi]
      exact this
    · have hpi:=par_lt hi0
      simp at hil
      unfold par at *
      lia
  refine xe13 (siftdown_eval hl (H:=H++ [x]) (pos:=H.length) (by simp) a) fun H' e q1 q2=>?_
  refine ⟨H',?_,q1.trans (List.perm_append_comm.trans (List.Perm.refl _)),q2⟩
  have s1:zX (zF (fVar 0) (zc (fVar 1) fNil) zB) [.loc l,tV x] (SL σ l H)=some (.next, [.loc l,tV x],SL σ l (H++ [x])):=by
    refine yo (yK (v:= .loc l) (X:=H.map tV) rfl (by simp only [ev_v8,SL_get hl]) (zk (g:=fNil) rfl rfl) ?_)
    have hlt:(H.map tV).length<LIM:=by rw [List.length_map,zv]; lia
    have hm:H.map tV++ [tV x]=(H++ [x]).map tV:=by simp
    simp only [zB,SL_get hl,if_pos hlt,hm,SL_set hl]
  have s2:zX (zy (zc (fVar 0) (zc (za (.int 0)) (zc (fBin (opOf .Sub) (zj (zc (fVar 0) fNil) pLen) (za (.int 1))) fNil))) yJ) [.loc l,tV x] (SL σ l (H++ [x]))=some (.next, [.loc l,tV x],SL σ l H'):=by
    refine yo (zZ (vs:= [.loc l, .int 0, .int (H.length:Nat)]) ?_ e)
    have hl2:zj (zc (fVar 0) fNil) pLen [.loc l,tV x] (SL σ l (H++ [x]))=some (.int ((H.length+1:Nat):Int),SL σ l (H++ [x])):=by
      refine zP (vs:= [.loc l]) rfl ?_
      simp only [pLen,ev_w3,SL_get hl,Option.map_some,List.length_map,List.length_append,List.length_cons,List.length_nil]
    have hb:=zJ (op:=opOf .Sub) (g:=za (.int 1)) hl2 rfl yS
    have e2:((H.length+1:Nat):Int)-1=((H.length:Nat):Int):=by simp
    rw [e2] at hb
    exact zk rfl (zk rfl (zk (g:=fNil) hb rfl))
  have key:f_heappush [.loc l,tV x] (SL σ l H)=some (.next, [.loc l,tV x],SL σ l H'):=by
    skip
    exact zf s1 (zf s2 rfl)
  show fnG 2 2 f_heappush _ _=_
  unfold fnG fnF
  have hlen:([V.loc l,tV x]:List V).length=2:=rfl
  refine rg (if_pos hlen) ?_
  have key':f_heappush ([V.loc l,tV x]++List.replicate (2-([V.loc l,tV x]:List V).length) .undef) (SL σ l H)=_:=key
  refine rg key' ?_
  exact SL_finF hl rfl
end
end Mi
namespace Mi
noncomputable def Ad(K:List T3)(pos:Nat):Prop:=(∀i,0<i→i<K.length→i≠pos→par i≠pos→tle (K.getD (par i) t0) (K.getD i t0))∧(0<pos→∀i,0<i→i<K.length→par i=pos→tle (K.getD (par pos) t0) (K.getD i t0))
theorem Ad.down{H:List T3}{pos c:Nat}{x:T3}(hc:c<H.length)(hc0:0<c)(hpc:par c=pos)(a:Ad (H.set pos x) pos)(hm:∀i,0<i→i<H.length→par i=pos→tle (H.getD c t0) (H.getD i t0)):Ad ((H.set pos (H.getD c t0)).set c x) c:=by
  obtain ⟨a1,a2⟩:=a
  have hlt:=par_lt hc0
  have hp:pos<H.length:=by lia
  simp only [List.length_set] at a1 a2
  have g1:∀j,(H.set pos x).getD j t0=if pos=j then x else H.getD j t0:=fun j=>Zl hp
  have g2:∀j,((H.set pos (H.getD c t0)).set c x).getD j t0=if c=j then x else if pos=j then H.getD c t0 else H.getD j t0:=fun j=>by
    refine rg (Zl (by simp; omega)) ?_
    by_cases h:c=j
    · simp [h]
    · simp only [if_neg h]
      exact Zl hp
  have f1:∀j,j≠pos→(H.set pos x).getD j t0=H.getD j t0:=fun j hj=>by rw [g1,if_neg (Ne.symm hj)]
  have k1:∀j,j≠c→j≠pos→((H.set pos (H.getD c t0)).set c x).getD j t0=H.getD j t0:=fun j h1 h2=>by rw [g2,if_neg (Ne.symm h1),if_neg (Ne.symm h2)]
  have k2:((H.set pos (H.getD c t0)).set c x).getD pos t0=H.getD c t0:=by rw [g2,if_neg (by lia),if_pos rfl]
  refine ⟨fun i hi0 hil hi1 hi2=>?_,fun hq i hi0 hil hip=>?_⟩
  · simp only [List.length_set] at hil
    have hpi:=par_lt hi0
    by_cases e1:par i=pos
    · refine rg e1 ?_; refine rg k2 ?_; refine rg (k1 i hi1 (by lia)) ?_
      exact hm i hi0 hil e1
    · by_cases e2:i=pos
      · subst e2
        refine rg k2 ?_; refine rg (k1 _ hi2 (by omega)) ?_
        have:=a2 (by omega) c hc0 hc hpc
        rw [f1 _ (by omega),f1 _ (by solve_by_elim [Nat.le_of_lt,Nat.lt_of_lt_of_le,Nat.lt_of_le_of_lt])] at this
        exact this
      · refine rg (k1 _ hi2 e1) ?_; refine rg (k1 i hi1 e2) ?_
        have:=a1 i hi0 hil e2 e1
        rw [f1 _ e1,f1 _ e2] at this
        exact this
  · simp only [List.length_set] at hil
    have hpi:=par_lt hi0
    refine rg hpc ?_; refine rg k2 ?_; refine rg (k1 i (by lia) (by lia)) ?_
    have:=a1 i hi0 hil (by lia) (by lia)
    rw [f1 _ (by lia),f1 _ (by lia),hip] at this
    exact this
theorem Ad.stop{K:List T3}{pos:Nat}(a:Ad K pos)(h:K.length≤2*pos+1):Ah K pos:=by
  have nc:∀i,0<i→i<K.length→par i≠pos:=fun i h0 hi q=>by unfold par at q; lia
  exact ⟨fun i h0 hi hp=>a.1 i h0 hi hp (nc i h0 hi),fun _ i h0 hi hp=>absurd hp (nc i h0 hi)⟩
noncomputable abbrev suC:BF:=fCmp .Lt (fVar 5) (fVar 2)
noncomputable abbrev suB:SF:=(fSeq (fAsg (fBin (opOf .Add) (fVar 5) (za (.int 1))) (tVar 6))
  (fSeq (fIfS (fAnd (fCmp .Lt (fVar 6) (fVar 2)) (fAnd (fNot (fCmp .Lt (fIdx (fVar 0) (fVar 5)) (fIdx (fVar 0) (fVar 6)))) Zz)) (fSeq (fAsg (fVar 6) (tVar 5)) zh) zh)
  (fSeq (fSet (fIdx (fVar 0) (fVar 5)) (fVar 0) (fVar 1))
  (fSeq (fAsg (fVar 5) (tVar 1))
  (fSeq (fAsg (fBin (opOf .Add) (fBin (opOf .Mult) (za (.int 2)) (fVar 1)) (za (.int 1))) (tVar 5))
  zh)))))
noncomputable abbrev ρU(l pos n:Nat)(sp:V)(x:T3)(ch:Nat)(r:V):List V:= [.loc l, .int pos, .int n,sp,tV x, .int ch,r]
section
variable {σ:List AObj}{l:Nat}(hl:l<σ.length)
include hl
theorem su_step{x:T3}{sp r:V}{pos:Nat}{H:List T3}(hc:2*pos+1<H.length):∃c r',c<H.length∧0<c∧par c=pos∧(∀i,0<i→i<H.length→par i=pos→tle (H.getD c t0) (H.getD i t0)) ∧
    suB (ρU l pos H.length sp x (2*pos+1) r) (SL σ l H)=some (.next,ρU l c H.length sp x (2*c+1) r',SL σ l (H.set pos (H.getD c t0))):=by
  have hp:pos<H.length:=by lia
  have b1:fAsg (fBin (opOf .Add) (fVar 5) (za (.int 1))) (tVar 6) (ρU l pos H.length sp x (2*pos+1) r) (SL σ l H)=some (.next,ρU l pos H.length sp x (2*pos+1) (.int (2*pos+2:Nat)),SL σ l H):=by
    refine zw (zJ rfl rfl y8) ?_
    have e:((2*pos+1:Nat):Int)+1=((2*pos+2:Nat):Int):=by solve_by_elim [Nat.le_of_lt,Nat.lt_of_lt_of_le,Nat.lt_of_le_of_lt]
    refine rg e ?_; rfl
  have fin:∀c,c<H.length→0<c→fSeq (fSet (fIdx (fVar 0) (fVar 5)) (fVar 0) (fVar 1)) (fSeq (fAsg (fVar 5) (tVar 1)) (fSeq (fAsg (fBin (opOf .Add) (fBin (opOf .Mult) (za (.int 2)) (fVar 1)) (za (.int 1))) (tVar 5)) zh)) (ρU l pos H.length sp x c (.int (2*pos+2:Nat))) (SL σ l H)=some (.next,ρU l c H.length sp x (2*c+1) (.int (2*pos+2:Nat)),SL σ l (H.set pos (H.getD c t0))):=fun c hcl hc0=>by
    have s1:fSet (fIdx (fVar 0) (fVar 5)) (fVar 0) (fVar 1) (ρU l pos H.length sp x c (.int (2*pos+2:Nat))) (SL σ l H)=some (.next,ρU l pos H.length sp x c (.int (2*pos+2:Nat)),SL σ l (H.set pos (H.getD c t0))):=
      fSet_of (yj rfl rfl (SL_idx hl hcl)) rfl rfl (SL_setOf hl hp)
    have s3:fAsg (fBin (opOf .Add) (fBin (opOf .Mult) (za (.int 2)) (fVar 1)) (za (.int 1))) (tVar 5) (ρU l c H.length sp x c (.int (2*pos+2:Nat))) (SL σ l (H.set pos (H.getD c t0)))=some (.next,ρU l c H.length sp x (2*c+1) (.int (2*pos+2:Nat)),SL σ l (H.set pos (H.getD c t0))):=by
      refine zw (zJ (zJ rfl rfl (opMul_int (by decide))) rfl y8) ?_
      have e:(2:Int)*(c:Nat)+1=((2*c+1:Nat):Int):=by solve_by_elim [Nat.le_of_lt,Nat.lt_of_lt_of_le,Nat.lt_of_le_of_lt]
      refine rg e ?_; rfl
    exact zf s1 (zf (zw rfl rfl) (zf s3 rfl))
  have c1:fCmp .Lt (fVar 6) (fVar 2) (ρU l pos H.length sp x (2*pos+1) (.int (2*pos+2:Nat))) (SL σ l H)=some (decide (((2*pos+2:Nat):Int)<(H.length:Nat)),SL σ l H):=fCmp_lt rfl rfl
  by_cases h2:2*pos+2<H.length
  · rw [decide_eq_true (by omega)] at c1
    have c2:fCmp .Lt (fIdx (fVar 0) (fVar 5)) (fIdx (fVar 0) (fVar 6)) (ρU l pos H.length sp x (2*pos+1) (.int (2*pos+2:Nat))) (SL σ l H)=some (tlt (H.getD (2*pos+1) t0) (H.getD (2*pos+2) t0),SL σ l H):=
      cmp_tV (yj rfl rfl (SL_idx hl hc)) (yj rfl rfl (SL_idx hl h2))
    have ch:∀i,0<i→i<H.length→par i=pos→i=2*pos+1∨i=2*pos+2:=fun i h0 hi q=>by unfold par at q; grind
    cases ht:tlt (H.getD (2*pos+1) t0) (H.getD (2*pos+2) t0) with
    | true=>
      rw [ht] at c2
      refine ⟨2*pos+1, .int (2*pos+2:Nat),hc,by exact Nat.succ_pos _,by unfold par; simp,fun i h0 hi q=>?_,zf b1 (zf ((yC (zH c1 (yq (fNot_of c2)))).trans rfl) (fin _ hc (by exact Nat.succ_pos _)))⟩
      rcases ch i h0 hi q with rfl | rfl
      · exact tle_refl _
      · exact tle_of_lt ht
    | false=>
      rw [ht] at c2
      have b2:fIfS (fAnd (fCmp .Lt (fVar 6) (fVar 2)) (fAnd (fNot (fCmp .Lt (fIdx (fVar 0) (fVar 5)) (fIdx (fVar 0) (fVar 6)))) Zz)) (fSeq (fAsg (fVar 6) (tVar 5)) zh) zh (ρU l pos H.length sp x (2*pos+1) (.int (2*pos+2:Nat))) (SL σ l H)=some (.next,ρU l pos H.length sp x (2*pos+2) (.int (2*pos+2:Nat)),SL σ l H):=
        (Zu (zH c1 (zH (fNot_of c2) rfl))).trans (zf (zw rfl rfl) rfl)
      refine ⟨2*pos+2, .int (2*pos+2:Nat),h2,by exact Nat.succ_pos _,by unfold par; lia,fun i h0 hi q=>?_,zf b1 (zf b2 (fin _ h2 (by exact Nat.succ_pos _)))⟩
      rcases ch i h0 hi q with rfl | rfl
      · exact tlt_false.mp ht
      · exact tle_refl _
  · rw [decide_eq_false (by omega)] at c1
    refine ⟨2*pos+1, .int (2*pos+2:Nat),hc,by exact Nat.succ_pos _,by unfold par; simp,fun i h0 hi q=>?_,zf b1 (zf ((yC (yq c1)).trans rfl) (fin _ hc (by exact Nat.succ_pos _)))⟩
    have:i=2*pos+1:=by unfold par at q; grind
    subst this
    exact tle_refl _
theorem su_loop{x:T3}{sp:V}:∀(n pos:Nat) (H:List T3) (r:V),H.length-pos≤n→pos<H.length→Ad (H.set pos x) pos→
    ∃H2 pos2 r',yA suC suB (ρU l pos H.length sp x (2*pos+1) r) (SL σ l H)=some (.next,ρU l pos2 H.length sp x (2*pos2+1) r',SL σ l H2)∧pos2<H2.length∧(H2.set pos2 x).Perm (H.set pos x)∧Ah (H2.set pos2 x) pos2
  | n,pos,H,r,hn,hp,a=>by
    have c:suC (ρU l pos H.length sp x (2*pos+1) r) (SL σ l H)=some (decide (((2*pos+1:Nat):Int)<(H.length:Nat)),SL σ l H):=fCmp_lt rfl rfl
    by_cases h:2*pos+1<H.length
    · rw [decide_eq_true (by omega)] at c
      refine xe25 (su_step hl (x:=x) (sp:=sp) (r:=r) h) fun ch r' q1 q2 q3 q4 e=>?_
      have hlt:=par_lt q2
      match n,hn with
      | 0,hn=>omega
      | n+1,hn=>
        have hlen:(H.set pos (H.getD ch t0)).length=H.length:=List.length_set
        refine xe34 (su_loop (x:=x) (sp:=sp) n ch (H.set pos (H.getD ch t0)) r' (by refine rg hlen ?_; grind) (by refine rg hlen ?_; omega) (a.down q1 q2 q3 q4)) fun H2 pos2 r2 e2 p1 p2 p3=>?_
        rw [hlen] at e2
        exact ⟨H2,pos2,r2,z5 c (.inl e) e2,p1,p2.trans (swap_perm hp q1 (by lia)),p3⟩
    · rw [decide_eq_false (by omega)] at c
      exact ⟨H,pos,r,zO c,hp,List.Perm.refl _,a.stop (by simp; lia)⟩
theorem siftup_eval{H:List T3}(h0:0<H.length)(a:∀i,0<i→i<H.length→par i≠0→tle (H.getD (par i) t0) (H.getD i t0)):∃H',F__siftup [.loc l, .int 0] (SL σ l H)=some (.none,SL σ l H')∧H'.Perm H∧Zb H':=by
  have hs:H.set 0 (H.getD 0 t0)=H:=by refine rg (getD_eq h0) ?_; exact List.set_getElem_self h0
  refine xe34 (su_loop hl (x:=H.getD 0 t0) (sp:= .int 0) H.length 0 H .undef (by exact Nat.sub_le _ _) h0 (by refine rg hs ?_; exact ⟨fun i hi0 hil _ hp=>a i hi0 hil hp,fun q=>absurd q (by exact (Nat.lt_irrefl _ ‹_›).elim)⟩)) fun H2 pos2 r' e q1 q2 q3=>?_
  rw [hs] at q2
  refine xe13 (siftdown_eval hl (H:=H2.set pos2 (H.getD 0 t0)) (pos:=pos2) (by simp; omega) q3) fun H' e2 p1 p2=>?_
  refine ⟨H',?_,p1.trans q2,p2⟩
  have s1:fAsg (zj (zc (fVar 0) fNil) pLen) (tVar 2) [.loc l, .int 0, .undef, .undef, .undef, .undef, .undef] (SL σ l H)=some (.next, [.loc l, .int 0, .int (H.length:Nat), .undef, .undef, .undef, .undef],SL σ l H):=by
    refine zw (zP (vs:= [.loc l]) (v:= .int (H.length:Nat)) rfl ?_) rfl
    simp only [pLen,ev_w3,SL_get hl,Option.map_some,List.length_map]
  have s3:fAsg (fIdx (fVar 0) (fVar 1)) (tVar 4) [.loc l, .int 0, .int (H.length:Nat), .int 0, .undef, .undef, .undef] (SL σ l H)=some (.next, [.loc l, .int 0, .int (H.length:Nat), .int 0,tV (H.getD 0 t0), .undef, .undef],SL σ l H):=zw (yj rfl rfl (SL_idx hl (i:=0) h0)) rfl
  have s6:fSet (fVar 4) (fVar 0) (fVar 1) (ρU l pos2 H.length (.int 0) (H.getD 0 t0) (2*pos2+1) r') (SL σ l H2)=some (.next,ρU l pos2 H.length (.int 0) (H.getD 0 t0) (2*pos2+1) r',SL σ l (H2.set pos2 (H.getD 0 t0))):=fSet_of rfl rfl rfl (SL_setOf hl q1)
  have s7:zX (zy (zc (fVar 0) (zc (fVar 3) (zc (fVar 1) fNil))) yJ) (ρU l pos2 H.length (.int 0) (H.getD 0 t0) (2*pos2+1) r') (SL σ l (H2.set pos2 (H.getD 0 t0)))=some (.next,ρU l pos2 H.length (.int 0) (H.getD 0 t0) (2*pos2+1) r',SL σ l H'):=
    yo (zZ (vs:= [.loc l, .int 0, .int (pos2:Nat)]) rfl e2)
  have key:f__siftup [.loc l, .int 0, .undef, .undef, .undef, .undef, .undef] (SL σ l H)=some (.next,ρU l pos2 H.length (.int 0) (H.getD 0 t0) (2*pos2+1) r',SL σ l H'):=by
    skip
    exact zf s1 (zf (zw rfl rfl) (zf s3 (zf (zw (zJ (zJ rfl rfl (opMul_int (by decide))) rfl y8) rfl) (zf e (zf s6 (zf s7 rfl))))))
  show fnG 7 2 f__siftup _ _=_
  unfold fnG fnF
  have hlen:([V.loc l, .int 0]:List V).length=2:=rfl
  refine rg (if_pos hlen) ?_
  have key':f__siftup ([V.loc l, .int 0]++List.replicate (7-([V.loc l, .int 0]:List V).length) .undef) (SL σ l H)=_:=key
  refine rg key' ?_
  exact SL_finF hl rfl
theorem heap_min{H:List T3}(hH:Zb H):∀i,i<H.length→tle (H.getD 0 t0) (H.getD i t0):=by
  intro i
  induction i using Nat.strongRecOn with
  | ind i ih=>
    intro hi
    by_cases h0:i=0
    · subst h0; exact tle_refl _
    · have hp:=par_lt (i:=i) (by exact Nat.pos_of_ne_zero ‹_›)
      exact tle_trans (ih _ hp (by solve_by_elim [Nat.le_of_lt,Nat.lt_of_lt_of_le,Nat.lt_of_le_of_lt])) (hH i (by exact Nat.pos_of_ne_zero ‹_›) hi)
theorem heappop_eval{H:List T3}(h0:0<H.length)(hH:Zb H):∃x H',ZP [.loc l] (SL σ l H)=some (tV x,SL σ l H')∧(x::H').Perm H∧Zb H'∧∀y∈H,tle x y:=by
  have hmin:∀y∈H,tle (H.getD 0 t0) y:=fun y hy=>by
    obtain ⟨i,hi,rfl⟩:=List.getElem_of_mem hy
    have:=heap_min hl hH i hi
    rwa [getD_eq hi] at this
  obtain ⟨last,hlast⟩:∃y,H.getLast?=some y:=by
    cases H with
    | nil=>simp at h0
    | cons a t=>exact ⟨_,List.getLast?_cons⟩
  have hsplit:H=H.dropLast++ [last]:=by
    have hne:H≠ []:=by intro q; rw [q] at h0; simp at h0
    have h1:=List.dropLast_concat_getLast hne
    have h2:=List.getLast?_eq_some_getLast hne
    rw [h2] at hlast
    cases hlast
    exact h1.symm
  have s1:fAsg (zF (fVar 0) fNil pPop) (tVar 1) [.loc l, .undef, .undef] (SL σ l H)=some (.next, [.loc l,tV last, .undef],SL σ l H.dropLast):=by
    refine zw (yK (v:= .loc l) (X:=H.map tV) rfl (by simp only [ev_v8,SL_get hl]) rfl ?_) rfl
    have e1:(H.map tV).getLast?=some (tV last):=by refine rg List.getLast?_map ?_; refine rg hlast ?_; rfl
    have e2:(H.map tV).dropLast=H.dropLast.map tV:=by simp [List.map_dropLast]
    show popLast _ _=_
    simp only [popLast,SL_get hl,e1,e2,Option.map_some,SL_set hl]
  have ht:yr (fVar 0) [.loc l,tV last, .undef] (SL σ l H.dropLast)=some (!(H.dropLast.map tV).isEmpty,SL σ l H.dropLast):=by
    unfold yr
    have:fVar 0 [.loc l,tV last, .undef] (SL σ l H.dropLast)=some (.loc l,SL σ l H.dropLast):=rfl
    refine rg this ?_
    simp only [ev_t7,SL_get hl,Option.map_some]
  show ∃x H',fnG 3 1 f_heappop _ _=_∧_
  have fin:∀{x:T3} {H':List T3} {ρ':List V},f_heappop [.loc l, .undef, .undef] (SL σ l H)=some (.ret (tV x),ρ',SL σ l H')→fnG 3 1 f_heappop [.loc l] (SL σ l H)=some (tV x,SL σ l H'):=fun key=>by
    unfold fnG fnF
    have hlen:([V.loc l]:List V).length=1:=rfl
    refine rg (if_pos hlen) ?_
    have key':f_heappop ([V.loc l]++List.replicate (3-([V.loc l]:List V).length) .undef) (SL σ l H)=_:=key
    refine rg key' ?_
    exact SL_finF hl rfl
  by_cases hd:H.dropLast= []
  · rw [hd] at ht s1 hsplit
    refine ⟨last, [],fin (ρ':= [.loc l,tV last, .undef]) ?_,by refine rg hsplit ?_; exact List.Perm.refl _,fun i h1 h2=>by simp at h2,fun y hy=>?_⟩
    · skip
      exact zf s1 (zf ((yC ht).trans rfl) (ZA rfl))
    · have:=hmin y hy
      rw [hsplit] at this
      exact this
  · have hd0:0<H.dropLast.length:=by
      cases h:H.dropLast with
      | nil=>exact absurd h hd
      | cons a t=>simp
    have hne:(H.dropLast.map tV).isEmpty=false:=by
      cases h:H.dropLast with
      | nil=>exact absurd h hd
      | cons a t=>rfl
    rw [hne] at ht
    have hdl:∀i,i<H.dropLast.length→H.dropLast.getD i t0=H.getD i t0:=fun i hi=>by
      have hi2:i<H.length:=by simp at hi; omega
      simp only [getD_eq hi,getD_eq hi2,List.getElem_dropLast]
    have a:∀i,0<i→i<(H.dropLast.set 0 last).length→par i≠0→tle ((H.dropLast.set 0 last).getD (par i) t0) ((H.dropLast.set 0 last).getD i t0):=fun i hi0 hil hp=>by
      rw [List.length_set] at hil
      have hpi:=par_lt hi0
      rw [Zl hd0,Zl hd0,if_neg (Ne.symm hp),if_neg (by exact Nat.ne_of_lt ‹_›),hdl _ hil,hdl _ (by solve_by_elim [Nat.le_of_lt,Nat.lt_of_lt_of_le,Nat.lt_of_le_of_lt])]
      exact hH i hi0 (by simp at hil; omega)
    refine xe13 (siftup_eval hl (H:=H.dropLast.set 0 last) (by simp; simpa using hd0) a) fun H' e q1 q2=>?_
    have s2:fAsg (fIdx (fVar 0) (za (.int 0))) (tVar 2) [.loc l,tV last, .undef] (SL σ l H.dropLast)=some (.next, [.loc l,tV last,tV (H.dropLast.getD 0 t0)],SL σ l H.dropLast):=zw (yj rfl rfl (SL_idx hl (i:=0) hd0)) rfl
    have s3:fSet (fVar 1) (fVar 0) (za (.int 0)) [.loc l,tV last,tV (H.dropLast.getD 0 t0)] (SL σ l H.dropLast)=some (.next, [.loc l,tV last,tV (H.dropLast.getD 0 t0)],SL σ l (H.dropLast.set 0 last)):=fSet_of rfl rfl rfl (SL_setOf hl (i:=0) hd0)
    have s4:zX (zy (zc (fVar 0) (zc (za (.int 0)) fNil)) F__siftup) [.loc l,tV last,tV (H.dropLast.getD 0 t0)] (SL σ l (H.dropLast.set 0 last))=some (.next, [.loc l,tV last,tV (H.dropLast.getD 0 t0)],SL σ l H'):=yo (zZ (vs:= [.loc l, .int 0]) rfl e)
    refine ⟨H.dropLast.getD 0 t0,H',fin (ρ':= [.loc l,tV last,tV (H.dropLast.getD 0 t0)]) ?_,?_,q2,fun y hy=>?_⟩
    · skip
      exact zf s1 (ZF ((Zu ht).trans (zf s2 (zf s3 (zf s4 (ZA rfl))))))
    · cases hq:H.dropLast with
      | nil=>exact absurd hq hd
      | cons b t=>
        rw [hq] at q1
        have h1:(b::H').Perm (b::(last::t)):=List.Perm.cons b q1
        refine rg hsplit ?_; refine rg hq ?_
        refine h1.trans (List.Perm.cons b ?_)
        exact (List.perm_append_comm (l₁:= [last]) (l₂:=t))
    · refine rg (hdl 0 hd0) ?_
      exact hmin y hy
end
end Mi
namespace Mi
noncomputable abbrev C2:=Nat × Nat
noncomputable def yV(c:C2):List C2:= [(c.1+1,c.2),(c.1,c.2+1),(c.1+1,c.2+1)]
noncomputable def inb(R Cn:Nat)(c:C2):Prop:=c.1<R∧c.2<Cn
noncomputable def z8(x:Int)(c:C2):T3:=(x,(c.1:Int),(c.2:Int))
theorem entOf_inj{x y:Int}{c d:C2}(h:z8 x c=z8 y d):x=y∧c=d:=by
  unfold z8 at h
  obtain ⟨c1,c2⟩:=c
  obtain ⟨d1,d2⟩:=d
  simp only [Prod.mk.injEq] at h
  exact ⟨h.1,by simp only [Prod.mk.injEq]; lia⟩
theorem nodup_len{α:Type} [BEq α] [LawfulBEq α]:∀(S G:List α),S.Nodup→(∀c∈S,c∈G)→S.length≤G.length
  | [],G,_,_=>Nat.zero_le _
  | c::S,G,hn,hm=>by
    have hc:=hm c List.mem_cons_self
    have h1:=List.length_erase_of_mem hc
    have hn':=List.nodup_cons.mp hn
    have:=nodup_len S (G.erase c) hn'.2 fun d hd=>(List.mem_erase_of_ne (fun q:d=c=>hn'.1 (q▸hd))).mpr (hm d (List.mem_cons_of_mem _ hd))
    have hpos:0<G.length:=List.length_pos_of_mem hc
    simp only [List.length_cons]
    omega
structure ValOk(R Cn:Nat)(p val:C2→Int):Prop where
  v0:val (0,0)=p (0,0)
  v1:∀s,inb R Cn s→s≠(0,0)→∃q,inb R Cn q∧s∈yV q∧val s=max (p s) (val q)∧∀q',inb R Cn q'→s∈yV q'→val q≤val q'
theorem succ_sum{q s:C2}(h:s∈yV q):q.1+q.2<s.1+s.2:=by
  unfold yV at h
  simp at h
  rcases h with rfl | rfl | rfl <;> simp <;> lia
structure DInv(R Cn:Nat)(val:C2→Int)(H:List T3)(S:List C2)(D:List T3):Prop where
  heap:Zb H
  nd:S.Nodup
  inb:∀c∈S,inb R Cn c
  perm:(D++H).Perm (S.map fun c=>z8 (val c) c)
  le:∀d∈D,∀h∈H,d.1≤h.1
  rise:D.Pairwise fun a b=>a.1≤b.1
  clo:∀c,z8 (val c) c∈D→∀s∈yV c,Mi.inb R Cn s→s∈S
  start:(0,0)∈S
section
variable {R Cn:Nat}{p val:C2→Int}{H:List T3}{S:List C2}{D:List T3}
theorem DInv.mem(I:DInv R Cn val H S D){t:T3}(h:t∈D++H):∃c∈S,t=z8 (val c) c:=by
  have:=I.perm.mem_iff.mp h
  refine xe12 (List.mem_map.mp this) fun c hc e=>?_
  exact ⟨c,hc,e.symm⟩
theorem DInv.bound(V:ValOk R Cn p val)(I:DInv R Cn val H S D){x:T3}(hx:∀y∈H,tle x y):∀(n:Nat) (q:C2),q.1+q.2≤n→Mi.inb R Cn q→z8 (val q) q∉D→x.1≤val q:=by
  intro n
  induction n with
  | zero=>
    intro q hq hb hd
    have:q=(0,0):=by
      obtain ⟨a,b⟩:=q
      simp at hq
      simp only [Prod.mk.injEq]; omega
    subst this
    have hm:z8 (val (0,0)) (0,0)∈D++H:=I.perm.mem_iff.mpr (List.mem_map.mpr ⟨_,I.start,rfl⟩)
    rcases List.mem_append.mp hm with h | h
    · exact absurd h hd
    · have:=hx _ h
      unfold tle z8 at this
      simp only at this
      omega
  | succ n ih=>
    intro q hq hb hd
    by_cases hs:q∈S
    · have hm:z8 (val q) q∈D++H:=I.perm.mem_iff.mpr (List.mem_map.mpr ⟨_,hs,rfl⟩)
      rcases List.mem_append.mp hm with h | h
      · exact absurd h hd
      · have:=hx _ h
        unfold tle z8 at this
        simp only at this
        omega
    · have h0:q≠(0,0):=fun e=>hs (e▸I.start)
      refine xe14 (V.v1 q hb h0) fun r r1 r2 r3 r4=>?_
      have hr:z8 (val r) r∉D:=fun h=>hs (I.clo r h q r2 hb)
      have:=ih r (by have:=succ_sum r2; lia) r1 hr
      omega
theorem DInv.step(V:ValOk R Cn p val)(I:DInv R Cn val H S D){x:T3}{H1 H':List T3}{N:List C2}{c:C2}(hp:(x::H1).Perm H)(hx:∀y∈H,tle x y)(hc:x=z8 (val c) c)
    (hH:Zb H') (hN:H'.Perm (H1++N.map fun s=>z8 (max x.1 (p s)) s)) (n1:∀s∈N,Mi.inb R Cn s∧s∉S∧s∈yV c) (n2:∀s∈yV c,Mi.inb R Cn s→s∈S++N) (n3:N.Nodup) :
    DInv R Cn val H' (S++N) (D++ [x]):=by
  have hxH:x∈H:=hp.mem_iff.mp List.mem_cons_self
  have hmN:∀s∈N,max x.1 (p s)=val s:=fun s hs=>by
    refine xe03 (n1 s hs) fun b1 b2 b3=>?_
    have h0:s≠(0,0):=fun e=>b2 (e▸I.start)
    refine xe14 (V.v1 s b1 h0) fun q q1 q2 q3 q4=>?_
    have hq:z8 (val q) q∉D:=fun h=>b2 (I.clo q h s q2 b1)
    have l1:=I.bound V hx _ q (Nat.le_refl _) q1 hq
    have hcS:c∈S:=by
      refine xe12 (I.mem (List.mem_append_right _ hxH)) fun c' hc' e=>?_
      rw [hc] at e
      refine rg ((entOf_inj e).2) ?_; exact hc'
    have l2:=q4 c (I.inb c hcS) b3
    have hx1:x.1=val c:=by refine rg hc ?_; rfl
    refine rg q3 ?_
    grind
  have hNe:(N.map fun s=>z8 (max x.1 (p s)) s)=N.map fun s=>z8 (val s) s:=List.map_congr_left fun s hs=>by refine rg (hmN s hs) ?_; rfl
  rw [hNe] at hN
  refine ⟨hH,?_,?_,?_,?_,?_,?_,List.mem_append_left _ I.start⟩
  · rw [List.nodup_append]
    exact ⟨I.nd,n3,fun a ha b hb e=>(n1 b hb).2.1 (e▸ha)⟩
  · intro s hs
    rcases List.mem_append.mp hs with hs | hs
    · exact I.inb s hs
    · exact (n1 s hs).1
  · refine rg List.map_append ?_
    have h1:((D++ [x])++H').Perm ((D++ [x])++(H1++N.map fun s=>z8 (val s) s)):=List.Perm.append_left _ hN
    have h2:((D++ [x])++(H1++N.map fun s=>z8 (val s) s))=(D++(x::H1))++N.map fun s=>z8 (val s) s:=by simp
    rw [h2] at h1
    exact h1.trans (List.Perm.append_right _ ((List.Perm.append_left D hp).trans I.perm))
  · intro d hd h hh
    have hx':∀y∈H',x.1≤y.1:=fun y hy=>by
      rcases List.mem_append.mp (hN.mem_iff.mp hy) with q | q
      · have:=hx y (hp.mem_iff.mp (List.mem_cons_of_mem _ q))
        unfold tle at this
        omega
      · refine xe12 (List.mem_map.mp q) fun s hs e=>?_
        refine rl e ?_
        show x.1≤val s
        refine rl (hmN s hs) ?_
        omega
    rcases List.mem_append.mp hd with hd | hd
    · have l1:=I.le d hd x hxH
      have:=hx' h hh
      lia
    · simp at hd
      subst hd
      exact hx' h hh
  · rw [List.pairwise_append]
    refine ⟨I.rise,List.pairwise_singleton _ _,fun a ha b hb=>?_⟩
    simp at hb
    subst hb
    exact I.le a ha _ hxH
  · intro d hd s hs hb
    rcases List.mem_append.mp hd with hd | hd
    · exact List.mem_append_left _ (I.clo d hd s hs hb)
    · simp at hd
      rw [hc] at hd
      have:=(entOf_inj hd).2
      subst this
      exact n2 s hs hb
theorem DInv.all(V:ValOk R Cn p val)(I:DInv R Cn val [] S D):∀(n:Nat) (q:C2),q.1+q.2≤n→Mi.inb R Cn q→q∈S:=by
  have hD:∀q∈S,z8 (val q) q∈D:=fun q hq=>by
    have:=I.perm.mem_iff.mpr (List.mem_map.mpr ⟨q,hq,rfl⟩)
    simpa using this
  intro n
  induction n with
  | zero=>
    intro q hq hb
    have:q=(0,0):=by
      obtain ⟨a,b⟩:=q
      simp at hq
      simp only [Prod.mk.injEq]; omega
    subst this
    exact I.start
  | succ n ih=>
    intro q hq hb
    by_cases h0:q=(0,0)
    · subst h0; exact I.start
    · refine xe14 (V.v1 q hb h0) fun r r1 r2 _ _=>?_
      have:=ih r (by have:=succ_sum r2; lia) r1
      exact I.clo r (hD r this) q r2 hb
end
end Mi
namespace Mi
noncomputable def cV(c:C2):V:= .tup [.int (c.1:Int), .int (c.2:Int)]
theorem cV_eqv(c d:C2):V.eqv (cV c) (cV d)=decide (c=d):=by
  obtain ⟨a,b⟩:=c
  obtain ⟨a',b'⟩:=d
  have:V.eqv (cV (a,b)) (cV (a',b'))=(((a:Int)==a')&&(((b:Int)==b')&&true)):=rfl
  refine rg this ?_
  by_cases h1:a=a'
  · by_cases h2:b=b'
    · subst h1; subst h2; simp
    · have:((b:Int)==b')=false:=by simpa using (by lia:(b:Int)≠b')
      simp [this,h2]
  · have:((a:Int)==a')=false:=by simpa using (by lia:(a:Int)≠a')
    simp [this,h1]
theorem ZM{α:Type}(f:α→V)(n:Nat)(h:∀x,V.pd n (f x)=true):∀l:List α,V.pdAll n (l.map f)=true
  | []=>rfl
  | x::l=>by
    simp only [List.map_cons,V.pdAll,h x,ZM f n h l]; rfl
theorem any_cV(S:List C2)(c:C2):((S.map cV).any fun y=>V.eqv y (cV c))=decide (c∈S):=by
  induction S with
  | nil=>rfl
  | cons d S ih=>
    simp only [List.map_cons,List.any_cons,ih,cV_eqv]
    by_cases h:d=c
    · subst h; simp
    · have:c≠d:=Ne.symm h
      simp [h,this]
section
variable {σ0:List AObj}{us vs:List (List Nat)}
noncomputable abbrev LL(σ0:List AObj)(H:List T3)(S:List C2)(D:List T3):List AObj:=σ0++ [.list (H.map tV), .list (S.map cV), .list (D.map tV)]
theorem LL_len{H:List T3}{S:List C2}{D:List T3}:σ0.length<(LL σ0 H S D).length:=by simp
theorem LL_SL{H H':List T3}{S:List C2}{D:List T3}:SL (LL σ0 H S D) σ0.length H'=LL σ0 H' S D:=by simp [SL,LL]
theorem LL_0{H:List T3}{S:List C2}{D:List T3}:(LL σ0 H S D)[σ0.length]?=some (.list (H.map tV)):=by simp [LL]
theorem LL_1{H:List T3}{S:List C2}{D:List T3}:(LL σ0 H S D)[σ0.length+1]?=some (.list (S.map cV)):=by simp [LL]
theorem LL_2{H:List T3}{S:List C2}{D:List T3}:(LL σ0 H S D)[σ0.length+2]?=some (.list (D.map tV)):=by simp [LL]
theorem LL_set1{H:List T3}{S S':List C2}{D:List T3}:(LL σ0 H S D).set (σ0.length+1) (.list (S'.map cV))=LL σ0 H S' D:=by simp [LL]
theorem LL_set2{H:List T3}{S:List C2}{D D':List T3}:(LL σ0 H S D).set (σ0.length+2) (.list (D'.map tV))=LL σ0 H S D':=by simp [LL]
theorem LL_in{H:List T3}{S:List C2}{D:List T3}{c:C2}{f:EF}{ρ:List V}(hf:f ρ (LL σ0 H S D)=some (cV c,LL σ0 H S D))(h3:ρ[3]?=some (.loc (σ0.length+1))):fCmp .NotIn f (fVar 3) ρ (LL σ0 H S D)=some (!decide (c∈S),LL σ0 H S D):=by
  unfold fCmp
  refine rg hf ?_
  have hv:fVar 3 ρ (LL σ0 H S D)=some (.loc (σ0.length+1),LL σ0 H S D):=by unfold fVar; refine rg h3 ?_; rfl
  have hk:yx (LL σ0 H S D) (.loc (σ0.length+1))=some (.lst (S.map cV)):=by simp only [ev_v8,LL_1]
  have hp:V.pd 8 (cV c)=true∧V.pdAll 8 (S.map cV)=true:=⟨rfl,ZM cV 8 (fun _=>rfl) S⟩
  have hc:cmpIn (LL σ0 H S D) (cV c) (.loc (σ0.length+1))=some (decide (c∈S)):=by
    show (match yx (LL σ0 H S D) (.loc (σ0.length+1)) with | some (V.lst vs)=>if V.pd 8 (cV c)=true∧V.pdAll 8 vs=true then some (vs.any fun y=>V.eqv y (cV c)) else none | _=>none)=_
    refine rg hk ?_
    simp only [if_pos hp,any_cV]
  simp only [hv,ev_c8,hc,Option.map_some]
structure WsOk(us:List (List Nat)):Prop where
  l:∀u∈us,u.length≤3
  a:∀u∈us,∀c∈u,c∈y6
theorem WsOk.get(h:WsOk us){i:Nat}(hi:i<us.length):(us.getD i []).length≤3∧∀c∈us.getD i [],c∈y6:=by
  have:us.getD i []∈us:=by
    refine rg List.getD_eq_getElem?_getD ?_; refine rg (List.getElem?_eq_getElem hi) ?_
    exact List.getElem_mem hi
  exact ⟨h.l _ this,h.a _ this⟩
noncomputable def pOf(us vs:List (List Nat))(cap:Int)(c:C2):Int:=levP (us.getD c.1 []) (vs.getD c.2 []) cap
theorem lev_call{ρ:List V}{σ:List AObj}{i j:Nat}{f1 f2 f3:EF}{cap:Int}(hu:WsOk us)(hv:WsOk vs)(hi:i<us.length)(hj:j<vs.length)(h0:ρ[0]?=some (.lst (us.map .str)))(h1:ρ[1]?=some (.lst (vs.map .str)))
    (e1:f1 ρ σ=some (.int i,σ)) (e2:f2 ρ σ=some (.int j,σ)) (e3:f3 ρ σ=some (.int cap,σ)) :
    zy (zc (fIdx (fVar 0) f1) (zc (fIdx (fVar 1) f2) (zc f3 fNil))) zm ρ σ=some (.int (pOf us vs cap (i,j)),σ):=by
  have v0:fVar 0 ρ σ=some (.lst (us.map .str),σ):=by unfold fVar; refine rg h0 ?_; rfl
  have v1:fVar 1 ρ σ=some (.lst (vs.map .str),σ):=by unfold fVar; refine rg h1 ?_; rfl
  have i0:=yj v0 e1 (idx_map (σ:=σ) V.str us i [] hi)
  have i1:=yj v1 e2 (idx_map (σ:=σ) V.str vs j [] hj)
  exact zZ (zk i0 (zk i1 (zk (g:=fNil) e3 rfl))) (lev_eval (hu.get hi).1 (hv.get hj).1 (hu.get hi).2 (hv.get hj).2)
theorem len_lst{i:Nat}{ρ:List V}{σ:List AObj}{l:List (List Nat)}(h:ρ[i]?=some (.lst (l.map .str))):zj (zc (fVar i) fNil) pLen ρ σ=some (.int (l.length:Nat),σ):=by
  have v0:fVar i ρ σ=some (.lst (l.map .str),σ):=by unfold fVar; refine rg h ?_; rfl
  refine zP (zk (g:=fNil) v0 rfl) ?_
  simp only [pLen,ev_w1,Option.map_some,List.length_map]
theorem push_LL{H:List T3}{S:List C2}{D:List T3}{x:T3}(hH:Zb H)(hlen:H.length<1000):∃H',yL [.loc σ0.length,tV x] (LL σ0 H S D)=some (.none,LL σ0 H' S D)∧H'.Perm (x::H)∧Zb H':=by
  obtain ⟨H',e,q⟩:=heappush_eval (σ:=LL σ0 H S D) (l:=σ0.length) LL_len hH hlen
  rw [LL_SL,LL_SL] at e
  exact ⟨H',e,q⟩
theorem pop_LL{H:List T3}{S:List C2}{D:List T3}(h0:0<H.length)(hH:Zb H):∃x H',ZP [.loc σ0.length] (LL σ0 H S D)=some (tV x,LL σ0 H' S D)∧(x::H').Perm H∧Zb H'∧∀y∈H,tle x y:=by
  refine xe22 (heappop_eval (σ:=LL σ0 H S D) (l:=σ0.length) LL_len h0 hH) fun x H' e q=>?_
  rw [LL_SL,LL_SL] at e
  exact ⟨x,H',e,q⟩
noncomputable abbrev lshB:SF:=(fSeq (fIfS (fAnd (fCmp .Lt (fVar 8) (zj (zc (fVar 0) fNil) pLen)) (fAnd (fCmp .Lt (fVar 9) (zj (zc (fVar 1) fNil) pLen)) (fAnd (fCmp .NotIn (fTup (zc (fVar 8) (zc (fVar 9) fNil))) (fVar 3)) Zz))) (fSeq (zX (zF (fVar 3) (zc (fTup (zc (fVar 8) (zc (fVar 9) fNil))) fNil) zB))
  (fSeq (zX (zy (zc (fVar 2) (zc (fTup (zc (zj (zc (fVar 5) (zc (zy (zc (fIdx (fVar 0) (fVar 8)) (zc (fIdx (fVar 1) (fVar 9)) (zc (za (.int 4)) fNil))) zm) fNil)) pMax2) (zc (fVar 8) (zc (fVar 9) fNil)))) fNil)) yL))
  zh)) zh)
  zh)
noncomputable abbrev ρH(σ0:List AObj)(us vs:List (List Nat))(x i j a b:V):List V:= [.lst (us.map .str), .lst (vs.map .str), .loc σ0.length, .loc (σ0.length+1), .loc (σ0.length+2),x,i,j,a,b]
theorem tup2{ρ:List V}{σ:List AObj}{c:C2}(h8:fVar 8 ρ σ=some (.int (c.1:Nat),σ))(h9:fVar 9 ρ σ=some (.int (c.2:Nat),σ)):fTup (zc (fVar 8) (zc (fVar 9) fNil)) ρ σ=some (cV c,σ):=by
  unfold fTup
  refine rg (zk h8 (zk (g:=fNil) h9 rfl)) ?_
  rfl
theorem imax_eq(a b:Int):(if b>a then b else a)=max a b:=by
  simp only [Int.max_def]
  by_cases h:b>a
  · refine rg (if_pos h) ?_; refine rg (if_pos (by lia)) ?_; rfl
  · refine rg (if_neg h) ?_
    by_cases h2:a≤b
    · refine rg (if_pos h2) ?_; lia
    · refine rg (if_neg h2) ?_; rfl
theorem lsh_one{H:List T3}{S:List C2}{D:List T3}{x:Int}{i j:V}{c:C2}(hu:WsOk us)(hv:WsOk vs)(hH:Zb H)(hlen:H.length<900)(hS:S.length<900) :
    ∃H' N,lshB (ρH σ0 us vs (.int x) i j (.int (c.1:Nat)) (.int (c.2:Nat))) (LL σ0 H S D)=some (.next,ρH σ0 us vs (.int x) i j (.int (c.1:Nat)) (.int (c.2:Nat)),LL σ0 H' (S++N) D)∧H'.Perm (H++N.map fun s=>z8 (max x (pOf us vs 4 s)) s)∧Zb H' ∧
      (∀s∈N,inb us.length vs.length s∧s∉S∧s=c)∧(inb us.length vs.length c→c∈S++N)∧N.Nodup∧N.length≤1:=by
  have c1:=fCmp_lt (f:=fVar 8) (x:=(c.1:Nat)) (ρ:=ρH σ0 us vs (.int x) i j (.int (c.1:Nat)) (.int (c.2:Nat))) (σ:=LL σ0 H S D) rfl (len_lst (i:=0) rfl)
  have c2:=fCmp_lt (f:=fVar 9) (x:=(c.2:Nat)) (ρ:=ρH σ0 us vs (.int x) i j (.int (c.1:Nat)) (.int (c.2:Nat))) (σ:=LL σ0 H S D) rfl (len_lst (i:=1) rfl)
  have t2:=tup2 (ρ:=ρH σ0 us vs (.int x) i j (.int (c.1:Nat)) (.int (c.2:Nat))) (σ:=LL σ0 H S D) (c:=c) rfl rfl
  have c3:=LL_in t2 rfl
  by_cases h1:c.1<us.length
  · rw [decide_eq_true (by omega)] at c1
    by_cases h2:c.2<vs.length
    · rw [decide_eq_true (by lia)] at c2
      by_cases h3:c∈S
      · rw [decide_eq_true h3] at c3
        refine ⟨H, [],?_,by simp,hH,by simp,fun _=>by simpa using h3,List.nodup_nil,by simp⟩
        rw [List.append_nil]
        exact zf ((yC (zH c1 (zH c2 (yq c3)))).trans rfl) rfl
      · rw [decide_eq_false h3] at c3
        refine xe13 (push_LL (σ0:=σ0) (H:=H) (S:=S++ [c]) (D:=D) (x:=z8 (max x (pOf us vs 4 c)) c) hH (by lia)) fun H' e q1 q2=>?_
        have s1:zX (zF (fVar 3) (zc (fTup (zc (fVar 8) (zc (fVar 9) fNil))) fNil) zB) (ρH σ0 us vs (.int x) i j (.int (c.1:Nat)) (.int (c.2:Nat))) (LL σ0 H S D)=some (.next,ρH σ0 us vs (.int x) i j (.int (c.1:Nat)) (.int (c.2:Nat)),LL σ0 H (S++ [c]) D):=by
          refine yo (yK (v:= .loc (σ0.length+1)) (X:=S.map cV) rfl (by simp only [ev_v8,LL_1]) (zk (g:=fNil) t2 rfl) ?_)
          have hlt:(S.map cV).length<LIM:=by rw [List.length_map,zv]; lia
          have hm:S.map cV++ [cV c]=(S++ [c]).map cV:=by simp
          simp only [zB,LL_1,if_pos hlt,hm,LL_set1]
        have lv:=lev_call (ρ:=ρH σ0 us vs (.int x) i j (.int (c.1:Nat)) (.int (c.2:Nat))) (σ:=LL σ0 H (S++ [c]) D) (f1:=fVar 8) (f2:=fVar 9) (f3:=za (.int 4)) (cap:=4) hu hv h1 h2 rfl rfl rfl rfl rfl
        have mx:zj (zc (fVar 5) (zc (zy (zc (fIdx (fVar 0) (fVar 8)) (zc (fIdx (fVar 1) (fVar 9)) (zc (za (.int 4)) fNil))) zm) fNil)) pMax2 (ρH σ0 us vs (.int x) i j (.int (c.1:Nat)) (.int (c.2:Nat))) (LL σ0 H (S++ [c]) D)=some (.int (max x (pOf us vs 4 c)),LL σ0 H (S++ [c]) D):=by
          refine zP (zk (v:= .int x) rfl (zk (g:=fNil) lv rfl)) ?_
          show some (V.int (if pOf us vs 4 (c.1,c.2)>x then pOf us vs 4 (c.1,c.2) else x))=_
          rw [imax_eq]
        have tp:fTup (zc (zj (zc (fVar 5) (zc (zy (zc (fIdx (fVar 0) (fVar 8)) (zc (fIdx (fVar 1) (fVar 9)) (zc (za (.int 4)) fNil))) zm) fNil)) pMax2) (zc (fVar 8) (zc (fVar 9) fNil))) (ρH σ0 us vs (.int x) i j (.int (c.1:Nat)) (.int (c.2:Nat))) (LL σ0 H (S++ [c]) D)=some (tV (z8 (max x (pOf us vs 4 c)) c),LL σ0 H (S++ [c]) D):=by
          unfold fTup
          refine rg (zk mx (zk (v:= .int (c.1:Nat)) rfl (zk (g:=fNil) (v:= .int (c.2:Nat)) rfl rfl))) ?_
          rfl
        have s2:zX (zy (zc (fVar 2) (zc (fTup (zc (zj (zc (fVar 5) (zc (zy (zc (fIdx (fVar 0) (fVar 8)) (zc (fIdx (fVar 1) (fVar 9)) (zc (za (.int 4)) fNil))) zm) fNil)) pMax2) (zc (fVar 8) (zc (fVar 9) fNil)))) fNil)) yL) (ρH σ0 us vs (.int x) i j (.int (c.1:Nat)) (.int (c.2:Nat))) (LL σ0 H (S++ [c]) D)=some (.next,ρH σ0 us vs (.int x) i j (.int (c.1:Nat)) (.int (c.2:Nat)),LL σ0 H' (S++ [c]) D):=
          yo (zZ (zk (v:= .loc σ0.length) rfl (zk (g:=fNil) tp rfl)) e)
        refine ⟨H', [c],zf ((Zu (zH c1 (zH c2 (zH c3 rfl)))).trans (zf s1 (zf s2 rfl))) rfl,q1.trans (List.perm_append_comm (l₁:= [_]) (l₂:=H)),q2,?_,fun _=>by simp,by simp,by simp⟩
        intro s hs
        simp at hs
        subst hs
        exact ⟨⟨h1,h2⟩,h3,rfl⟩
    · rw [decide_eq_false (by omega)] at c2
      refine ⟨H, [],?_,by simp,hH,by simp,fun q=>absurd q.2 h2,List.nodup_nil,by simp⟩
      rw [List.append_nil]
      exact zf ((yC (zH c1 (yq c2))).trans rfl) rfl
  · rw [decide_eq_false (by omega)] at c1
    refine ⟨H, [],?_,by simp,hH,by simp,fun q=>absurd q.1 h1,List.nodup_nil,by simp⟩
    rw [List.append_nil]
    exact zf ((yC (yq c1)).trans rfl) rfl
theorem lsh_for{x:Int}{i j:V}{D:List T3}(hu:WsOk us)(hv:WsOk vs):∀(cs:List C2) (H:List T3) (S:List C2) (a b:V),Zb H→H.length+cs.length<800→S.length+cs.length<800→
    ∃H' N a' b',forL (tTup (zL (tVar 8) (zL (tVar 9) tNil))) lshB (cs.map cV) (ρH σ0 us vs (.int x) i j a b) (LL σ0 H S D)=some (.next,ρH σ0 us vs (.int x) i j a' b',LL σ0 H' (S++N) D)∧H'.Perm (H++N.map fun s=>z8 (max x (pOf us vs 4 s)) s)∧Zb H' ∧
      (∀s∈N,inb us.length vs.length s∧s∉S∧s∈cs)∧(∀s∈cs,inb us.length vs.length s→s∈S++N)∧N.Nodup
  | [],H,S,a,b,hH,_,_=>⟨H, [],a,b,by rw [List.append_nil]; rfl,by simp,hH,by simp,by simp,List.nodup_nil⟩
  | c::cs,H,S,a,b,hH,h1,h2=>by
    simp only [List.length_cons] at h1 h2
    refine xe27 (lsh_one (σ0:=σ0) (x:=x) (i:=i) (j:=j) (D:=D) (c:=c) (S:=S) hu hv hH (by lia) (by lia)) fun H1 N1 e1 p1 q1 r1 r2 r3 r4=>?_
    have hl1:H1.length=H.length+N1.length:=by have:=p1.length_eq; simpa using this
    refine xe46 (lsh_for (x:=x) (i:=i) (j:=j) (D:=D) hu hv cs H1 (S++N1) (.int (c.1:Nat)) (.int (c.2:Nat)) q1 (by lia) (by simp; lia)) fun H2 N2 a' b' e2 p2 q2 s1 s2 s3=>?_
    refine ⟨H2,N1++N2,a',b',?_,?_,q2,?_,?_,?_⟩
    · have t:tTup (zL (tVar 8) (zL (tVar 9) tNil)) (cV c) (ρH σ0 us vs (.int x) i j a b)=some (ρH σ0 us vs (.int x) i j (.int (c.1:Nat)) (.int (c.2:Nat))):=rfl
      rw [List.map_cons,forL,t]
      simp only [e1,e2,List.append_assoc]
    · rw [List.map_append,←List.append_assoc]
      exact p2.trans (List.Perm.append_right _ p1)
    · intro s hs
      rcases List.mem_append.mp hs with hs | hs
      · refine xe03 (r1 s hs) fun b1 b2 b3=>?_
        exact ⟨b1,b2,b3▸List.mem_cons_self⟩
      · refine xe03 (s1 s hs) fun b1 b2 b3=>?_
        exact ⟨b1,fun q=>b2 (List.mem_append_left _ q),List.mem_cons_of_mem _ b3⟩
    · intro s hs hb
      rw [←List.append_assoc]
      rcases List.mem_cons.mp hs with rfl | hs
      · exact List.mem_append_left _ (r2 hb)
      · exact s2 s hs hb
    · rw [List.nodup_append]
      exact ⟨r3,s3,fun a ha b hb e=>(s1 b hb).2.1 (List.mem_append_right _ (e▸ha))⟩
end
end Mi
namespace Mi
theorem grid_nodup(R Cn:Nat):((List.range R).flatMap fun a=>(List.range Cn).map fun b=>(a,b)).Nodup:=by
  refine List.pairwise_flatMap.mpr ⟨fun a _=>List.pairwise_map.mpr (List.nodup_range.imp fun h e=>h (by simpa using e)),List.nodup_range.imp fun hne x hx y hy e=>?_⟩
  obtain ⟨b,_,rfl⟩:=List.mem_map.mp hx
  obtain ⟨d,_,rfl⟩:=List.mem_map.mp hy
  exact hne (by simpa using congrArg Prod.fst e)
section
variable {σ0:List AObj}{us vs:List (List Nat)}{val:C2→Int}
noncomputable abbrev lsC:BF:=fCmp .NotEq (fVar 2) (fLst fNil)
noncomputable abbrev lsB:SF:=(fSeq (fAsg (zy (zc (fVar 2) fNil) ZP) (tTup (zL (tVar 5) (zL (tVar 6) (zL (tVar 7) tNil)))))
  (fSeq (zX (zF (fVar 4) (zc (fTup (zc (fVar 5) (zc (fVar 6) (zc (fVar 7) fNil)))) fNil) zB))
  (fSeq (fFor (zI (fLst (zc (fTup (zc (fBin (opOf .Add) (fVar 6) (za (.int 1))) (zc (fVar 7) fNil))) (zc (fTup (zc (fVar 6) (zc (fBin (opOf .Add) (fVar 7) (za (.int 1))) fNil))) (zc (fTup (zc (fBin (opOf .Add) (fVar 6) (za (.int 1))) (zc (fBin (opOf .Add) (fVar 7) (za (.int 1))) fNil))) fNil))))) (tTup (zL (tVar 8) (zL (tVar 9) tNil))) lshB)
  zh)))
theorem lsC_eval{H:List T3}{S:List C2}{D:List T3}{x i j a b:V}:lsC (ρH σ0 us vs x i j a b) (LL σ0 H S D)=some (!H.isEmpty,LL σ0 H S D):=by
  unfold lsC fCmp
  have hv:fVar 2 (ρH σ0 us vs x i j a b) (LL σ0 H S D)=some (.loc σ0.length,LL σ0 H S D):=rfl
  have hn:fLst fNil (ρH σ0 us vs x i j a b) (LL σ0 H S D)=some (.lst [],LL σ0 H S D):=rfl
  refine rg hv ?_
  have hp:V.pd 8 (.lst (H.map tV))=true∧V.pd 8 (.lst [])=true:=⟨ZM tV 7 (fun _=>rfl) H,rfl⟩
  have he:V.eqv (.lst (H.map tV)) (.lst [])=H.isEmpty:=by cases H <;> rfl
  simp only [hn,ev_c2,Zd,ev_v5,ev_v8,LL_0,if_pos hp,he,Option.map_some]
theorem succs_items{x:V}{c:C2}{a b:V}{σ:List AObj}:zI (fLst (zc (fTup (zc (fBin (opOf .Add) (fVar 6) (za (.int 1))) (zc (fVar 7) fNil))) (zc (fTup (zc (fVar 6) (zc (fBin (opOf .Add) (fVar 7) (za (.int 1))) fNil))) (zc (fTup (zc (fBin (opOf .Add) (fVar 6) (za (.int 1))) (zc (fBin (opOf .Add) (fVar 7) (za (.int 1))) fNil))) fNil)))) (ρH σ0 us vs x (.int (c.1:Nat)) (.int (c.2:Nat)) a b) σ=some ((yV c).map cV,σ):=rfl
theorem ls_loop(V0:ValOk us.length vs.length (pOf us vs 4) val)(hu:WsOk us)(hv:WsOk vs)(hR:us.length≤10)(hC:vs.length≤10):∀(n:Nat) (H:List T3) (S:List C2) (D:List T3) (x i j a b:V),100-D.length≤n→DInv us.length vs.length val H S D→
    ∃S' D' x' i' j' a' b',yA lsC lsB (ρH σ0 us vs x i j a b) (LL σ0 H S D)=some (.next,ρH σ0 us vs x' i' j' a' b',LL σ0 [] S' D')∧DInv us.length vs.length val [] S' D':=by
  intro n
  have hcount:∀{H:List T3} {S:List C2} {D:List T3},DInv us.length vs.length val H S D→D.length+H.length=S.length∧S.length≤100:=fun {H S D} I=>by
    have h1:=I.perm.length_eq
    simp at h1
    have h2:=nodup_len S ((List.range us.length).flatMap fun a=>(List.range vs.length).map fun b=>(a,b)) I.nd fun c hc=>by
      have:=I.inb c hc
      exact List.mem_flatMap.mpr ⟨c.1,List.mem_range.mpr this.1,List.mem_map.mpr ⟨c.2,List.mem_range.mpr this.2,rfl⟩⟩
    have h3:((List.range us.length).flatMap fun a=>(List.range vs.length).map fun b=>(a,b)).length=us.length*vs.length:=by
      have:∀(l:List Nat),(l.flatMap fun a=>(List.range vs.length).map fun b=>(a,b)).length=l.length*vs.length:=fun l=>by
        induction l with
        | nil=>simp
        | cons a l ih=>refine rg List.flatMap_cons ?_; refine rg List.length_append ?_; refine rg ih ?_; simp [Nat.succ_mul,Nat.add_comm]
      rw [this,List.length_range]
    rw [h3] at h2
    have h4:us.length*vs.length≤10*10:=Nat.mul_le_mul hR hC
    exact ⟨h1,by exact Nat.le_trans ‹_› ‹_›⟩
  induction n with
  | zero=>
    intro H S D x i j a b hn I
    have hk:=hcount I
    have hH:H= []:=List.eq_nil_of_length_eq_zero (by omega)
    subst hH
    exact ⟨S,D,x,i,j,a,b,zO lsC_eval,I⟩
  | succ n ih=>
    intro H S D x i j a b hn I
    have hk:=hcount I
    have hc:=lsC_eval (σ0:=σ0) (us:=us) (vs:=vs) (H:=H) (S:=S) (D:=D) (x:=x) (i:=i) (j:=j) (a:=a) (b:=b)
    cases hH:H with
    | nil=>
      subst hH
      exact ⟨S,D,x,i,j,a,b,zO hc,I⟩
    | cons h0 ht=>
      have hpos:0<H.length:=by refine rg hH ?_; simp
      have hne:H.isEmpty=false:=by refine rg hH ?_; rfl
      rw [hne] at hc
      refine rl hH ?_
      refine xe24 (pop_LL (σ0:=σ0) (S:=S) (D:=D) hpos I.heap) fun y H1 e1 p1 q1 m1=>?_
      refine xe12 (I.mem (List.mem_append_right _ (p1.mem_iff.mp List.mem_cons_self))) fun c hcS ey=>?_
      have hl1:H1.length+1=H.length:=by have:=p1.length_eq; simpa using this
      refine xe46 (lsh_for (σ0:=σ0) (x:=y.1) (i:= .int (c.1:Nat)) (j:= .int (c.2:Nat)) (D:=D++ [y]) hu hv (yV c) H1 S a b q1 (by dsimp [yV]; lia) (by dsimp [yV]; omega)) fun H2 N a' b' e3 p2 q2 s1 s2 s3=>?_
      have I2:=I.step V0 p1 m1 ey q2 p2 s1 s2 s3
      have t5:tTup (zL (tVar 5) (zL (tVar 6) (zL (tVar 7) tNil))) (tV y) (ρH σ0 us vs x i j a b)=some (ρH σ0 us vs (.int y.1) (.int (c.1:Nat)) (.int (c.2:Nat)) a b):=by refine rg ey ?_; rfl
      have b1:fAsg (zy (zc (fVar 2) fNil) ZP) (tTup (zL (tVar 5) (zL (tVar 6) (zL (tVar 7) tNil)))) (ρH σ0 us vs x i j a b) (LL σ0 H S D)=some (.next,ρH σ0 us vs (.int y.1) (.int (c.1:Nat)) (.int (c.2:Nat)) a b,LL σ0 H1 S D):=
        zw (zZ (zk (g:=fNil) (v:= .loc σ0.length) rfl rfl) e1) t5
      have tp:fTup (zc (fVar 5) (zc (fVar 6) (zc (fVar 7) fNil))) (ρH σ0 us vs (.int y.1) (.int (c.1:Nat)) (.int (c.2:Nat)) a b) (LL σ0 H1 S D)=some (tV y,LL σ0 H1 S D):=by refine rg ey ?_; rfl
      have b2:zX (zF (fVar 4) (zc (fTup (zc (fVar 5) (zc (fVar 6) (zc (fVar 7) fNil)))) fNil) zB) (ρH σ0 us vs (.int y.1) (.int (c.1:Nat)) (.int (c.2:Nat)) a b) (LL σ0 H1 S D)=some (.next,ρH σ0 us vs (.int y.1) (.int (c.1:Nat)) (.int (c.2:Nat)) a b,LL σ0 H1 S (D++ [y])):=by
        refine yo (yK (v:= .loc (σ0.length+2)) (X:=D.map tV) rfl (by simp only [ev_v8,LL_2]) (zk (g:=fNil) tp rfl) ?_)
        have hlt:(D.map tV).length<LIM:=by rw [List.length_map,zv]; lia
        have hm:D.map tV++ [tV y]=(D++ [y]).map tV:=by simp
        simp only [zB,LL_2,if_pos hlt,hm,LL_set2]
      have hb:lsB (ρH σ0 us vs x i j a b) (LL σ0 H S D)=some (.next,ρH σ0 us vs (.int y.1) (.int (c.1:Nat)) (.int (c.2:Nat)) a' b',LL σ0 H2 (S++N) (D++ [y])):=
        zf b1 (zf b2 (zf (fFor_of succs_items e3) rfl))
      obtain ⟨S',D',x',i',j',a2,b2',e4,I4⟩:=ih H2 (S++N) (D++ [y]) (.int y.1) (.int (c.1:Nat)) (.int (c.2:Nat)) a' b' (by simp; lia) I2
      exact ⟨S',D',x',i',j',a2,b2',z5 hc (.inl hb) e4,I4⟩
theorem leashes_eval(V0:ValOk us.length vs.length (pOf us vs 4) val)(hu:WsOk us)(hv:WsOk vs)(hR:us.length≤10)(hC:vs.length≤10)(hR0:0<us.length)(hC0:0<vs.length) :
    ∃D:List T3,Zn [.lst (us.map .str), .lst (vs.map .str)] σ0=some (.lst (D.map tV),σ0)∧D.Perm (((List.range us.length).flatMap fun a=>(List.range vs.length).map fun b=>(a,b)).map fun c=>z8 (val c) c)∧D.Pairwise fun a b=>a.1≤b.1:=by
  have s1:fAsg (fNew fNil) (tVar 2) [.lst (us.map .str), .lst (vs.map .str), .undef, .undef, .undef, .undef, .undef, .undef, .undef, .undef] σ0=some (.next, [.lst (us.map .str), .lst (vs.map .str), .loc σ0.length, .undef, .undef, .undef, .undef, .undef, .undef, .undef],σ0++ [.list []]):=rfl
  have h1:SL (σ0++ [.list []]) σ0.length []=σ0++ [.list []]:=by simp [SL]
  refine xe13 (heappush_eval (σ:=σ0++ [.list []]) (l:=σ0.length) (H:= []) (x:=z8 (pOf us vs 4 (0,0)) (0,0)) (by simp) (fun i h1 h2=>by simp at h2) (by simp)) fun H1 e1 p1 q1=>?_
  rw [h1] at e1
  have hH1:H1= [z8 (pOf us vs 4 (0,0)) (0,0)]:=List.perm_singleton.mp p1
  subst hH1
  have h2:SL (σ0++ [.list []]) σ0.length [z8 (pOf us vs 4 (0,0)) (0,0)]=σ0++ [.list [tV (z8 (pOf us vs 4 (0,0)) (0,0))]]:=by simp [SL]
  rw [h2] at e1
  have lv:=lev_call (ρ:= [.lst (us.map .str), .lst (vs.map .str), .loc σ0.length, .undef, .undef, .undef, .undef, .undef, .undef, .undef]) (σ:=σ0++ [.list []]) (f1:=za (.int 0)) (f2:=za (.int 0)) (f3:=za (.int 4)) (i:=0) (j:=0) (cap:=4) hu hv hR0 hC0 rfl rfl rfl rfl rfl
  have tp:fTup (zc (zy (zc (fIdx (fVar 0) (za (.int 0))) (zc (fIdx (fVar 1) (za (.int 0))) (zc (za (.int 4)) fNil))) zm) (zc (za (.int 0)) (zc (za (.int 0)) fNil))) [.lst (us.map .str), .lst (vs.map .str), .loc σ0.length, .undef, .undef, .undef, .undef, .undef, .undef, .undef] (σ0++ [.list []])=some (tV (z8 (pOf us vs 4 (0,0)) (0,0)),σ0++ [.list []]):=by
    unfold fTup
    refine rg (zk lv (zk (v:= .int 0) rfl (zk (g:=fNil) (v:= .int 0) rfl rfl))) ?_
    rfl
  have s2:zX (zy (zc (fVar 2) (zc (fTup (zc (zy (zc (fIdx (fVar 0) (za (.int 0))) (zc (fIdx (fVar 1) (za (.int 0))) (zc (za (.int 4)) fNil))) zm) (zc (za (.int 0)) (zc (za (.int 0)) fNil)))) fNil)) yL) [.lst (us.map .str), .lst (vs.map .str), .loc σ0.length, .undef, .undef, .undef, .undef, .undef, .undef, .undef] (σ0++ [.list []])=some (.next, [.lst (us.map .str), .lst (vs.map .str), .loc σ0.length, .undef, .undef, .undef, .undef, .undef, .undef, .undef],σ0++ [.list [tV (z8 (pOf us vs 4 (0,0)) (0,0))]]):=
    yo (zZ (zk (v:= .loc σ0.length) rfl (zk (g:=fNil) tp rfl)) e1)
  have s3:fAsg (fNew (zc (fTup (zc (za (.int 0)) (zc (za (.int 0)) fNil))) fNil)) (tVar 3) [.lst (us.map .str), .lst (vs.map .str), .loc σ0.length, .undef, .undef, .undef, .undef, .undef, .undef, .undef] (σ0++ [.list [tV (z8 (pOf us vs 4 (0,0)) (0,0))]])=some (.next, [.lst (us.map .str), .lst (vs.map .str), .loc σ0.length, .loc (σ0.length+1), .undef, .undef, .undef, .undef, .undef, .undef],σ0++ [.list [tV (z8 (pOf us vs 4 (0,0)) (0,0))], .list [cV (0,0)]]):=by
    refine zw (v:= .loc (σ0.length+1)) ?_ rfl
    have ht:zc (fTup (zc (za (.int 0)) (zc (za (.int 0)) fNil))) fNil [.lst (us.map .str), .lst (vs.map .str), .loc σ0.length, .undef, .undef, .undef, .undef, .undef, .undef, .undef] (σ0++ [.list [tV (z8 (pOf us vs 4 (0,0)) (0,0))]])=some ([cV (0,0)],σ0++ [.list [tV (z8 (pOf us vs 4 (0,0)) (0,0))]]):=rfl
    unfold fNew
    refine rg ht ?_
    have hl1:([cV (0,0)]:List V).length≤LIM:=by simp only [zv]; trivial
    simp only [List.length_append,List.length_cons,List.length_nil,List.append_assoc]
    rfl
  have s4:fAsg (fNew fNil) (tVar 4) [.lst (us.map .str), .lst (vs.map .str), .loc σ0.length, .loc (σ0.length+1), .undef, .undef, .undef, .undef, .undef, .undef] (σ0++ [.list [tV (z8 (pOf us vs 4 (0,0)) (0,0))], .list [cV (0,0)]])=some (.next,ρH σ0 us vs .undef .undef .undef .undef .undef,LL σ0 [z8 (pOf us vs 4 (0,0)) (0,0)] [(0,0)] []):=by
    refine zw (v:= .loc (σ0.length+2)) ?_ rfl
    unfold fNew
    have hn:fNil [.lst (us.map .str), .lst (vs.map .str), .loc σ0.length, .loc (σ0.length+1), .undef, .undef, .undef, .undef, .undef, .undef] (σ0++ [.list [tV (z8 (pOf us vs 4 (0,0)) (0,0))], .list [cV (0,0)]])=some ([],σ0++ [.list [tV (z8 (pOf us vs 4 (0,0)) (0,0))], .list [cV (0,0)]]):=rfl
    refine rg hn ?_
    have hl1:([]:List V).length≤LIM:=by simp only [zv]; simp
    simp only [List.length_append,List.length_cons,List.length_nil,List.append_assoc]
    rfl
  have I0:DInv us.length vs.length val [z8 (pOf us vs 4 (0,0)) (0,0)] [(0,0)] []:=by
    refine ⟨q1,by simp,fun c hc=>?_,?_,by simp,List.Pairwise.nil,by simp,by simp⟩
    · simp at hc
      subst hc
      exact ⟨hR0,hC0⟩
    · simp [V0.v0]
  obtain ⟨S',D',x',i',j',a',b',e5,I5⟩:=ls_loop (σ0:=σ0) V0 hu hv hR hC 100 _ _ _ .undef .undef .undef .undef .undef (by simp) I0
  refine ⟨D',?_,?_,I5.rise⟩
  · show fnG 10 2 yT _ _=_
    unfold fnG fnF
    have hlen:([V.lst (us.map .str), .lst (vs.map .str)]:List V).length=2:=rfl
    refine rg (if_pos hlen) ?_
    have key:yT [.lst (us.map .str), .lst (vs.map .str), .undef, .undef, .undef, .undef, .undef, .undef, .undef, .undef] σ0=some (.ret (.loc (σ0.length+2)),ρH σ0 us vs x' i' j' a' b',LL σ0 [] S' D'):=by
      skip
      exact zf s1 (zf s2 (zf s3 (zf s4 (zf e5 (ZA rfl)))))
    have key':yT ([V.lst (us.map .str), .lst (vs.map .str)]++List.replicate (10-([V.lst (us.map .str), .lst (vs.map .str)]:List V).length) .undef) σ0=_:=key
    refine rg key' ?_
    simp only
    have hf:V.frz σ0.length (LL σ0 [] S' D') 6 (.loc (σ0.length+2)) = .lst (D'.map tV):=by
      show (if σ0.length+2<σ0.length then V.loc (σ0.length+2) else match (LL σ0 [] S' D')[σ0.length+2]? with | some (.list ws)=> .lst (ws.map (V.frz σ0.length (LL σ0 [] S' D') 5)) | _=> .loc (σ0.length+2))=_
      refine rg (if_neg (by simp)) ?_; refine rg LL_2 ?_
      simp only
      congr 1
      refine rg List.map_map ?_
      exact List.map_congr_left fun t _=>V.frz_nl 5 (v:=tV t) rfl
    unfold finF
    refine rg hf ?_; refine rg (if_pos ⟨ZZ.app,V.blw_nl (show V.nls (D'.map tV)=true from tVs_nl D')⟩) ?_; refine rg List.take_left ?_; rfl
  · have hS:S'.Perm ((List.range us.length).flatMap fun a=>(List.range vs.length).map fun b=>(a,b)):=by
      have hin:∀c,c∈((List.range us.length).flatMap fun a=>(List.range vs.length).map fun b=>(a,b))↔inb us.length vs.length c:=fun c=>by
        constructor
        · intro h
          refine xe12 (List.mem_flatMap.mp h) fun a ha h=>?_
          obtain ⟨b,hb,rfl⟩:=List.mem_map.mp h
          exact ⟨List.mem_range.mp ha,List.mem_range.mp hb⟩
        · intro h
          exact List.mem_flatMap.mpr ⟨c.1,List.mem_range.mpr h.1,List.mem_map.mpr ⟨c.2,List.mem_range.mpr h.2,rfl⟩⟩
      refine (List.perm_ext_iff_of_nodup I5.nd ?_).mpr fun c=>⟨fun h=>(hin c).mpr (I5.inb c h),fun h=>I5.all V0 _ c (Nat.le_refl _) ((hin c).mp h)⟩
      exact grid_nodup _ _
    have:=I5.perm
    simp only [List.append_nil] at this
    exact this.trans (hS.map _)
end
end Mi
namespace Mi
noncomputable abbrev Way:=List C2
noncomputable def wayV(w:Way):V:= .lst (w.map cV)
theorem wayV_nl(w:Way):V.nl (wayV w)=true:=V.nls_iff.mpr fun v hv=>by
  obtain ⟨x,_,rfl⟩:=List.mem_map.mp hv
  rfl
theorem wayVs_nl(l:List Way):V.nls (l.map wayV)=true:=V.nls_iff.mpr fun v hv=>by
  obtain ⟨x,_,rfl⟩:=List.mem_map.mp hv
  exact wayV_nl x
noncomputable def pV(R Cn:Nat)(P:C2→Int):V:= .lst ((List.range R).map fun i=> .lst ((List.range Cn).map fun j=> .int (P (i,j))))
noncomputable def rowO(Cn:Nat)(L:C2→Int)(i:Nat):AObj:= .list ((List.range Cn).map fun j=> .int (L (i,j)))
noncomputable abbrev WS(σ0:List AObj)(R Cn:Nat)(L:C2→Int)(W B:List Way):List AObj:=
  σ0++(.list ((List.range R).map fun k=> .loc (σ0.length+1+k))::((List.range R).map (rowO Cn L)++ [.list (W.map wayV), .list (B.map wayV)]))
section
variable {σ0:List AObj}{R Cn:Nat}{L P:C2→Int}{W B:List Way}
theorem WS_0:(WS σ0 R Cn L W B)[σ0.length]?=some (.list ((List.range R).map fun k=> .loc (σ0.length+1+k))):=by simp [WS]
theorem WS_row{i:Nat}(hi:i<R):(WS σ0 R Cn L W B)[σ0.length+1+i]?=some (rowO Cn L i):=by
  have e:σ0.length+1+i=σ0.length+(i+1):=by lia
  rw [e,List.getElem?_append_right (by exact Nat.le_add_right _ _),Nat.add_sub_cancel_left,List.getElem?_cons_succ,List.getElem?_append_left (by simp; omega)]
  simp [hi]
theorem WS_W:(WS σ0 R Cn L W B)[σ0.length+1+R]?=some (.list (W.map wayV)):=by
  have e:σ0.length+1+R=σ0.length+(R+1):=by lia
  rw [e,List.getElem?_append_right (by exact Nat.le_add_right _ _),Nat.add_sub_cancel_left,List.getElem?_cons_succ,List.getElem?_append_right (by simp)]
  simp
theorem WS_B:(WS σ0 R Cn L W B)[σ0.length+2+R]?=some (.list (B.map wayV)):=by
  have e:σ0.length+2+R=σ0.length+((R+1)+1):=by lia
  rw [e,List.getElem?_append_right (by exact Nat.le_add_right _ _),Nat.add_sub_cancel_left,List.getElem?_cons_succ,List.getElem?_append_right (by simp)]
  simp
theorem WS_setW{W':List Way}:(WS σ0 R Cn L W B).set (σ0.length+1+R) (.list (W'.map wayV))=WS σ0 R Cn L W' B:=by
  have e:σ0.length+1+R=σ0.length+(R+1):=by lia
  rw [e,List.set_append_right _ _ (by exact Nat.le_add_right _ _),Nat.add_sub_cancel_left,List.set_cons_succ,List.set_append_right _ _ (by simp)]
  simp
theorem WS_setB{B':List Way}:(WS σ0 R Cn L W B).set (σ0.length+2+R) (.list (B'.map wayV))=WS σ0 R Cn L W B':=by
  have e:σ0.length+2+R=σ0.length+((R+1)+1):=by lia
  rw [e,List.set_append_right _ _ (by exact Nat.le_add_right _ _),Nat.add_sub_cancel_left,List.set_cons_succ,List.set_append_right _ _ (by simp)]
  simp
noncomputable def updL(L:C2→Int)(c:C2)(x:Int):C2→Int:=fun d=>if d=c then x else L d
theorem range_set{α:Type}{n i:Nat}{f:Nat→α}{x:α}:((List.range n).map f).set i x=(List.range n).map fun k=>if k=i then x else f k:=by
  refine List.ext_getElem (by simp) fun k h1 h2=>?_
  simp only [List.getElem_set,List.getElem_map,List.getElem_range]
  by_cases h:i=k
  · subst h; rfl
  · refine rg (if_neg h) ?_; refine rg (if_neg (Ne.symm h)) ?_; rfl
theorem WS_setRow{c:C2}{x:Int}(hi:c.1<R):(WS σ0 R Cn L W B).set (σ0.length+1+c.1) (.list (((List.range Cn).map fun j=>V.int (L (c.1,j))).set c.2 (.int x)))=WS σ0 R Cn (updL L c x) W B:=by
  have e:σ0.length+1+c.1=σ0.length+(c.1+1):=by lia
  rw [e,List.set_append_right _ _ (by exact Nat.le_add_right _ _),Nat.add_sub_cancel_left,List.set_cons_succ,List.set_append_left _ _ (by simp; omega),range_set,range_set]
  have:(fun k=>if k=c.1 then AObj.list ((List.range Cn).map fun k=>if k=c.2 then V.int x else V.int (L (c.1,k))) else rowO Cn L k)=rowO Cn (updL L c x):=by
    funext k
    unfold rowO updL
    by_cases h:k=c.1
    · subst h
      simp only [if_true]
      congr 2
      funext j
      by_cases hj:j=c.2
      · subst hj; simp
      · refine rg (if_neg hj) ?_; refine rg (if_neg (fun q=>hj (congrArg Prod.snd q))) ?_; rfl
    · refine rg (if_neg h) ?_
      congr 2
      funext j
      refine rg (if_neg (fun q=>h (congrArg Prod.fst q))) ?_; rfl
  refine rg this ?_; rfl
theorem pV_idx{σ:List AObj}{f g h:EF}{ρ:List V}{c:C2}(hf:f ρ σ=some (pV R Cn P,σ))(hg:g ρ σ=some (.int (c.1:Nat),σ))(hh:h ρ σ=some (.int (c.2:Nat),σ))(hi:c.1<R)(hj:c.2<Cn):fIdx (fIdx f g) h ρ σ=some (.int (P c),σ):=by
  have e1:ZR σ (pV R Cn P) (.int (c.1:Nat))=some (.lst ((List.range Cn).map fun j=> .int (P (c.1,j)))):=by
    have:=idx_map (σ:=σ) (fun i=>V.lst ((List.range Cn).map fun j=> .int (P (i,j)))) (List.range R) c.1 0 (by simpa using hi)
    rw [List.getD_eq_getElem?_getD,List.getElem?_range hi] at this
    exact this
  have e2:ZR σ (.lst ((List.range Cn).map fun j=> .int (P (c.1,j)))) (.int (c.2:Nat))=some (.int (P c)):=by
    have:=idx_map (σ:=σ) (fun j=>V.int (P (c.1,j))) (List.range Cn) c.2 0 (by simpa using hj)
    rw [List.getD_eq_getElem?_getD,List.getElem?_range hj] at this
    exact this
  exact yj (yj hf hg e1) hh e2
theorem WS_least{f g h:EF}{ρ:List V}{c:C2}(hf:f ρ (WS σ0 R Cn L W B)=some (.loc σ0.length,WS σ0 R Cn L W B))(hg:g ρ (WS σ0 R Cn L W B)=some (.int (c.1:Nat),WS σ0 R Cn L W B))(hh:h ρ (WS σ0 R Cn L W B)=some (.int (c.2:Nat),WS σ0 R Cn L W B))(hi:c.1<R)(hj:c.2<Cn) :
    fIdx f g ρ (WS σ0 R Cn L W B)=some (.loc (σ0.length+1+c.1),WS σ0 R Cn L W B)∧fIdx (fIdx f g) h ρ (WS σ0 R Cn L W B)=some (.int (L c),WS σ0 R Cn L W B):=by
  have e1:ZR (WS σ0 R Cn L W B) (.loc σ0.length) (.int (c.1:Nat))=some (.loc (σ0.length+1+c.1)):=by
    show ((yM (WS σ0 R Cn L W B) (.loc σ0.length)).bind fun vs=>(nth vs.length (c.1:Int)).bind fun j=>vs[j]?)=_
    simp only [ev_w3,WS_0,Option.bind_some,List.length_map,List.length_range,nth_nat hi,List.getElem?_map,List.getElem?_range hi,Option.map_some]
  have e2:ZR (WS σ0 R Cn L W B) (.loc (σ0.length+1+c.1)) (.int (c.2:Nat))=some (.int (L c)):=by
    show ((yM (WS σ0 R Cn L W B) (.loc (σ0.length+1+c.1))).bind fun vs=>(nth vs.length (c.2:Int)).bind fun j=>vs[j]?)=_
    simp only [ev_w3,WS_row hi,rowO,Option.bind_some,List.length_map,List.length_range,nth_nat hj,List.getElem?_map,List.getElem?_range hj,Option.map_some]
  exact ⟨yj hf hg e1,yj (yj hf hg e1) hh e2⟩
noncomputable def mxW(P:C2→Int):Way→Int
  | []=>0
  | c::w=>zW (fun a b=>decide (b<a)) (P c) (w.map P)
noncomputable abbrev ρW(σ0:List AObj)(R Cn:Nat)(P:C2→Int)(way i j:V):List V:= [pV R Cn P, .int (R:Nat), .int (Cn:Nat), .loc σ0.length, .loc (σ0.length+1+R), .loc (σ0.length+2+R),way,i,j]
theorem max_comp{w:Way}{i j:V}{σ:List AObj}(hw:w≠ [])(hb:∀d∈w,inb R Cn d)(hl:w.length≤100):zj (zc (yh .frz (zI (fVar 6)) [none,none,some 0] (tTup (zL (tVar 0) (zL (tVar 1) tNil))) zU (zY (fIdx (fIdx (fVar 2) (fVar 0)) (fVar 1)))) fNil) pMax1 (ρW σ0 R Cn P (wayV w) i j) σ=some (.int (mxW P w),σ):=by
  have hc:=fComp_gen (f:=zI (fVar 6)) (js:= [none,none,some 0]) (g:=tTup (zL (tVar 0) (zL (tVar 1) tNil))) (c:=zU) (el:=fIdx (fIdx (fVar 2) (fVar 0)) (fVar 1)) (p:=fun _=>true)
    (w:=fun v=>match v with | .tup [.int a, .int b]=> .int (P (a.toNat,b.toNat)) | v=>v) (R:=fun v=>match v with | .tup [a,b]=> [a,b,pV R Cn P] | _=> []) (S:=fun ρ=> ∃a b,ρ= [a,b,pV R Cn P]) (ρ:=ρW σ0 R Cn P (wayV w) i j) (vs:=w.map cV) (σ:=σ) rfl ⟨.undef, .undef,rfl⟩ (by rw [List.length_map,zv]; lia)
    (fun v hv ρ hρ=>by
      obtain ⟨d,_,rfl⟩:=List.mem_map.mp hv
      obtain ⟨a,b,rfl⟩:=hρ
      exact ⟨rfl,_,_,rfl⟩)
    (fun v hv acc=>by
      obtain ⟨d,hd,rfl⟩:=List.mem_map.mp hv
      exact ⟨rfl,fun _=>pV_idx (f:=fVar 2) (g:=fVar 0) (h:=fVar 1) (c:=d) rfl rfl rfl (hb d hd).1 (hb d hd).2⟩)
    (fun v hv _=>by
      obtain ⟨d,_,rfl⟩:=List.mem_map.mp hv
      rfl)
  have hf:(w.map cV).filter (fun _=>true)=w.map cV:=List.filter_eq_self.mpr fun _ _=>rfl
  rw [hf,List.map_map] at hc
  have he:w.map ((fun v=>match v with | .tup [.int a, .int b]=>V.int (P (a.toNat,b.toNat)) | v=>v)∘cV)=(w.map P).map .int:=by
    refine rg List.map_map ?_
    rfl
  rw [he] at hc
  refine zP (zk (g:=fNil) hc rfl) ?_
  cases w with
  | nil=>exact absurd rfl hw
  | cons c w=>
    have hi:=intList_lst σ ((c::w).map P)
    show (match Zy σ (.lst (((c::w).map P).map .int)) with | some (x::xs)=>some (V.int (zW (fun a b=>decide (b<a)) x xs)) | _=>none)=_
    refine rg hi ?_
    rfl
end
end Mi
namespace Mi
noncomputable def zz(w:Way):C2:=w.getLast?.getD (0,0)
noncomputable def inbB(R Cn:Nat)(s:C2):Bool:=decide (s.1<R)&&decide (s.2<Cn)
noncomputable def exts(R Cn:Nat)(w:Way):List Way:=((yV (zz w)).filter (inbB R Cn)).map fun s=>w++ [s]
noncomputable def procW(R Cn:Nat):Nat→List Way→List Way × List Way
  | 0,st=>([],st)
  | n+1,st=>match st.getLast? with
    | none=>([], [])
    | some w=>(w::(procW R Cn n (st.dropLast++exts R Cn w)).1,(procW R Cn n (st.dropLast++exts R Cn w)).2)
structure Vw(R Cn:Nat)(w:Way):Prop where
  ne:w≠ []
  inb:∀d∈w,inb R Cn d
  len:w.length≤(zz w).1+(zz w).2+1
theorem lastc_mem{w:Way}(h:w≠ []):zz w∈w:=by
  unfold zz
  refine rg (List.getLast?_eq_some_getLast h) ?_
  exact List.getLast_mem h
theorem lastc_app{w:Way}{s:C2}:zz (w++ [s])=s:=by simp [zz]
theorem Vw.ext{R Cn:Nat}{w w':Way}(h:Vw R Cn w)(hm:w'∈exts R Cn w):Vw R Cn w':=by
  obtain ⟨s,hs,rfl⟩:=List.mem_map.mp hm
  obtain ⟨h1,h2⟩:=List.mem_filter.mp hs
  have hs2:Mi.inb R Cn s:=by simpa [inbB,Mi.inb] using h2
  have:=succ_sum h1
  have hl:=h.len
  refine ⟨by simp,fun d hd=>?_,?_⟩
  · rcases List.mem_append.mp hd with hd | hd
    · exact h.inb d hd
    · simp at hd
      subst hd; exact hs2
  · refine rg lastc_app ?_
    simp
    exact Nat.le_trans ‹_› ‹_›
section
variable {σ0:List AObj}{R Cn:Nat}{L P:C2→Int}{W B:List Way}
noncomputable abbrev awC:BF:=fCmp .NotEq (fVar 5) (fLst fNil)
noncomputable abbrev awSet:SF:=fSet (zj (zc (fIdx (fIdx (fVar 3) (fVar 7)) (fVar 8)) (zc (zj (zc (yh .frz (zI (fVar 6)) [none,none,some 0] (tTup (zL (tVar 0) (zL (tVar 1) tNil))) zU (zY (fIdx (fIdx (fVar 2) (fVar 0)) (fVar 1)))) fNil) pMax1) fNil)) pMin2) (fIdx (fVar 3) (fVar 7)) (fVar 8)
noncomputable abbrev awIf:SF:=fIfS (fAnd (fCmp .Eq (fVar 7) (fBin (opOf .Sub) (fVar 1) (za (.int 1)))) (fAnd (fCmp .Eq (fVar 8) (fBin (opOf .Sub) (fVar 2) (za (.int 1)))) Zz)) (fSeq (zX (zF (fVar 4) (zc (fVar 6) fNil) zB)) zh) zh
noncomputable abbrev awExt:EF:=yh .frz (zI (fLst (zc (fTup (zc (fBin (opOf .Add) (fVar 7) (za (.int 1))) (zc (fVar 8) fNil))) (zc (fTup (zc (fVar 7) (zc (fBin (opOf .Add) (fVar 8) (za (.int 1))) fNil))) (zc (fTup (zc (fBin (opOf .Add) (fVar 7) (za (.int 1))) (zc (fBin (opOf .Add) (fVar 8) (za (.int 1))) fNil))) fNil))))) [none,none,some 2,some 1,some 6] (tTup (zL (tVar 0) (zL (tVar 1) tNil))) (fIf1 (fAnd (fCmp .Lt (fVar 0) (fVar 3)) (fAnd (fCmp .Lt (fVar 1) (fVar 2)) Zz)) zU) (zY (fBin (opOf .Add) (fVar 4) (fLst (zc (fTup (zc (fVar 0) (zc (fVar 1) fNil))) fNil))))
noncomputable abbrev awB:SF:=(fSeq (fAsg (zF (fVar 5) fNil pPop) (tVar 6))
  (fSeq (fAsg (fIdx (fVar 6) (fNeg (za (.int 1)))) (tTup (zL (tVar 7) (zL (tVar 8) tNil))))
  (fSeq awSet
  (fSeq awIf
  (fSeq (zX (zF (fVar 5) (zc awExt fNil) pExtend))
  zh)))))
noncomputable def isEnd(R Cn:Nat)(w:Way):Bool:=decide ((zz w).1+1=R)&&decide ((zz w).2+1=Cn)
noncomputable def updW(P:C2→Int)(L:C2→Int)(w:Way):C2→Int:=updL L (zz w) (imin (L (zz w)) (mxW P w))
theorem awC_eval{way i j:V}:awC (ρW σ0 R Cn P way i j) (WS σ0 R Cn L W B)=some (!B.isEmpty,WS σ0 R Cn L W B):=by
  unfold awC fCmp
  have hv:fVar 5 (ρW σ0 R Cn P way i j) (WS σ0 R Cn L W B)=some (.loc (σ0.length+2+R),WS σ0 R Cn L W B):=rfl
  have hn:fLst fNil (ρW σ0 R Cn P way i j) (WS σ0 R Cn L W B)=some (.lst [],WS σ0 R Cn L W B):=rfl
  refine rg hv ?_
  have hp:V.pd 8 (.lst (B.map wayV))=true∧V.pd 8 (.lst [])=true:=⟨ZM wayV 7 (fun w=>ZM cV 6 (fun _=>rfl) w) B,rfl⟩
  have he:V.eqv (.lst (B.map wayV)) (.lst [])=B.isEmpty:=by cases B <;> rfl
  simp only [hn,ev_c2,Zd,ev_v5,ev_v8,WS_B,if_pos hp,he,Option.map_some]
theorem ext_comp{w:Way}{σ:List AObj}(hl:w.length≤100):awExt (ρW σ0 R Cn P (wayV w) (.int ((zz w).1:Nat)) (.int ((zz w).2:Nat))) σ=some (.lst ((exts R Cn w).map wayV),σ):=by
  have hc:=fComp_gen (f:=zI (fLst (zc (fTup (zc (fBin (opOf .Add) (fVar 7) (za (.int 1))) (zc (fVar 8) fNil))) (zc (fTup (zc (fVar 7) (zc (fBin (opOf .Add) (fVar 8) (za (.int 1))) fNil))) (zc (fTup (zc (fBin (opOf .Add) (fVar 7) (za (.int 1))) (zc (fBin (opOf .Add) (fVar 8) (za (.int 1))) fNil))) fNil)))))
    (js:= [none,none,some 2,some 1,some 6]) (g:=tTup (zL (tVar 0) (zL (tVar 1) tNil))) (c:=fIf1 (fAnd (fCmp .Lt (fVar 0) (fVar 3)) (fAnd (fCmp .Lt (fVar 1) (fVar 2)) Zz)) zU) (el:=fBin (opOf .Add) (fVar 4) (fLst (zc (fTup (zc (fVar 0) (zc (fVar 1) fNil))) fNil)))
    (p:=fun v=>match v with | .tup [.int a, .int b]=>inbB R Cn (a.toNat,b.toNat) | _=>false)
    (w:=fun v=> .lst (w.map cV++ [v])) (R:=fun v=>match v with | .tup [a,b]=> [a,b, .int (Cn:Nat), .int (R:Nat),wayV w] | _=> []) (S:=fun ρ=> ∃a b,ρ= [a,b, .int (Cn:Nat), .int (R:Nat),wayV w]) (ρ:=ρW σ0 R Cn P (wayV w) (.int ((zz w).1:Nat)) (.int ((zz w).2:Nat))) (vs:=(yV (zz w)).map cV) (σ:=σ) rfl ⟨.undef, .undef,rfl⟩ (by dsimp only [List.length_map,zv]; simp [yV])
    (fun v hv ρ hρ=>by
      obtain ⟨d,_,rfl⟩:=List.mem_map.mp hv
      obtain ⟨a,b,rfl⟩:=hρ
      exact ⟨rfl,_,_,rfl⟩)
    (fun v hv acc=>by
      obtain ⟨d,hd,rfl⟩:=List.mem_map.mp hv
      have c1:=fCmp_lt (f:=fVar 0) (g:=fVar 3) (x:=(d.1:Nat)) (y:=(R:Nat)) (ρ:= [.int (d.1:Nat), .int (d.2:Nat), .int (Cn:Nat), .int (R:Nat),wayV w]) (σ:=σ++ [.list acc]) rfl rfl
      have c2:=fCmp_lt (f:=fVar 1) (g:=fVar 2) (x:=(d.2:Nat)) (y:=(Cn:Nat)) (ρ:= [.int (d.1:Nat), .int (d.2:Nat), .int (Cn:Nat), .int (R:Nat),wayV w]) (σ:=σ++ [.list acc]) rfl rfl
      have if1:∀{b:Bool},fAnd (fCmp .Lt (fVar 0) (fVar 3)) (fAnd (fCmp .Lt (fVar 1) (fVar 2)) Zz) [.int (d.1:Nat), .int (d.2:Nat), .int (Cn:Nat), .int (R:Nat),wayV w] (σ++ [.list acc])=some (b,σ++ [.list acc])→fIf1 (fAnd (fCmp .Lt (fVar 0) (fVar 3)) (fAnd (fCmp .Lt (fVar 1) (fVar 2)) Zz)) zU [.int (d.1:Nat), .int (d.2:Nat), .int (Cn:Nat), .int (R:Nat),wayV w] (σ++ [.list acc])=some (b,σ++ [.list acc]):=fun {b} h=>by
        unfold fIf1
        refine rg h ?_
        cases b <;> rfl
      refine ⟨?_,fun _=>?_⟩
      · show _=some (inbB R Cn (((d.1:Nat):Int).toNat,((d.2:Nat):Int).toNat),_)
        dsimp only [Int.toNat_natCast,Int.toNat_natCast]
        unfold inbB
        by_cases h1:d.1<R
        · rw [decide_eq_true (by lia)] at c1
          by_cases h2:d.2<Cn
          · rw [decide_eq_true (by lia)] at c2
            simp only [h1,h2,decide_true,Bool.and_self]
            exact if1 (zH c1 (zH c2 rfl))
          · rw [decide_eq_false (by lia)] at c2
            simp only [h1,h2,decide_true,decide_false,Bool.and_false]
            exact if1 (zH c1 (yq c2))
        · rw [decide_eq_false (by omega)] at c1
          simp only [h1,decide_false,Bool.false_and]
          exact if1 (yq c1)
      · have hlt:(w.map cV).length+ [cV d].length≤LIM:=by dsimp only [List.length_map,zv]; simp; omega
        have ho:opOf .Add (wayV w) (.lst [cV d])=some (.lst (w.map cV++ [cV d])):=by
          show opAdd (.lst (w.map cV)) (.lst [cV d])=_
          exact ev_a3.trans (if_pos hlt)
        refine zJ (a:=wayV w) rfl (b:= .lst [cV d]) ?_ ho
        have ht:fTup (zc (fVar 0) (zc (fVar 1) fNil)) [.int (d.1:Nat), .int (d.2:Nat), .int (Cn:Nat), .int (R:Nat),wayV w] (σ++ [.list acc])=some (cV d,σ++ [.list acc]):=rfl
        show fLst (zc (fTup (zc (fVar 0) (zc (fVar 1) fNil))) fNil) [.int (d.1:Nat), .int (d.2:Nat), .int (Cn:Nat), .int (R:Nat),wayV w] (σ++ [.list acc])=_
        skip
        refine rg (zk (g:=fNil) ht rfl) ?_
        have h1:([cV d]:List V).length≤LIM:=by simp only [zv]; simp
        rfl)
    (fun v hv _=>by
      obtain ⟨d,_,rfl⟩:=List.mem_map.mp hv
      have:w.map cV++ [cV d]=(w++ [d]).map cV:=by simp
      refine rg this ?_
      exact wayV_nl _)
  have he:(((yV (zz w)).map cV).filter fun v=>match v with | .tup [.int a, .int b]=>inbB R Cn (a.toNat,b.toNat) | _=>false).map (fun v=>V.lst (w.map cV++ [v]))=(exts R Cn w).map wayV:=by
    skip
    refine rg List.filter_map ?_; refine rg List.map_map ?_; refine rg List.map_map ?_
    have:((fun v=>match v with | .tup [.int a, .int b]=>inbB R Cn (a.toNat,b.toNat) | _=>false)∘cV)=inbB R Cn:=by
      funext d
      show inbB R Cn (((d.1:Nat):Int).toNat,((d.2:Nat):Int).toNat)=_
      dsimp only [Int.toNat_natCast,Int.toNat_natCast]
    refine rg this ?_
    refine List.map_congr_left fun d _=>?_
    show V.lst (w.map cV++ [cV d])=wayV (w++ [d])
    unfold wayV
    simp
  rw [he] at hc
  exact hc
theorem aw_step{w:Way}{way i j:V}(hw:Vw R Cn w)(hR:R≤10)(hC:Cn≤10)(hW:W.length<5000)(hB:B.length<5000) :
    awB (ρW σ0 R Cn P way i j) (WS σ0 R Cn L W (B++ [w]))=some (.next,ρW σ0 R Cn P (wayV w) (.int ((zz w).1:Nat)) (.int ((zz w).2:Nat)),WS σ0 R Cn (updW P L w) (if isEnd R Cn w then W++ [w] else W) (B++exts R Cn w)):=by
  have hb:=hw.inb _ (lastc_mem hw.ne)
  have hlen:w.length≤100:=by
    have:=hw.len
    have h1:=hb.1
    have h2:=hb.2
    lia
  have s1:fAsg (zF (fVar 5) fNil pPop) (tVar 6) (ρW σ0 R Cn P way i j) (WS σ0 R Cn L W (B++ [w]))=some (.next,ρW σ0 R Cn P (wayV w) i j,WS σ0 R Cn L W B):=by
    refine zw (yK (v:= .loc (σ0.length+2+R)) (X:=(B++ [w]).map wayV) rfl (by simp only [ev_v8,WS_B]) rfl ?_) rfl
    have e1:((B++ [w]).map wayV).getLast?=some (wayV w):=by simp
    have e2:((B++ [w]).map wayV).dropLast=B.map wayV:=by simp
    show popLast _ _=_
    simp only [popLast,WS_B,e1,e2,Option.map_some,WS_setB]
  have s2:fAsg (fIdx (fVar 6) (fNeg (za (.int 1)))) (tTup (zL (tVar 7) (zL (tVar 8) tNil))) (ρW σ0 R Cn P (wayV w) i j) (WS σ0 R Cn L W B)=some (.next,ρW σ0 R Cn P (wayV w) (.int ((zz w).1:Nat)) (.int ((zz w).2:Nat)),WS σ0 R Cn L W B):=by
    have hi:ZR (WS σ0 R Cn L W B) (wayV w) (.int (-1))=some (cV (zz w)):=by
      have hpos:0<w.length:=by cases w with | nil=>exact absurd rfl hw.ne | cons a t=>simp
      have hn:nth (w.map cV).length (-1)=some (w.length-1):=by
        rw [List.length_map]
        unfold nth
        refine rg (if_neg (by simp)) ?_; refine rg (if_pos (by lia)) ?_
        congr 1
        lia
      show ((yM (WS σ0 R Cn L W B) (.lst (w.map cV))).bind fun vs=>(nth vs.length (-1)).bind fun j=>vs[j]?)=_
      simp only [ev_w1,Option.bind_some,hn,List.getElem?_map]
      unfold zz
      rw [List.getLast?_eq_getElem?,List.getElem?_eq_getElem (by omega)]
      rfl
    exact zw (v:=cV (zz w)) (yj (b:= .int (-1)) rfl rfl hi) rfl
  have ls:=WS_least (σ0:=σ0) (R:=R) (Cn:=Cn) (L:=L) (W:=W) (B:=B) (f:=fVar 3) (g:=fVar 7) (h:=fVar 8) (ρ:=ρW σ0 R Cn P (wayV w) (.int ((zz w).1:Nat)) (.int ((zz w).2:Nat))) (c:=zz w) rfl rfl rfl hb.1 hb.2
  have mc:=max_comp (σ0:=σ0) (R:=R) (Cn:=Cn) (P:=P) (i:= .int ((zz w).1:Nat)) (j:= .int ((zz w).2:Nat)) (σ:=WS σ0 R Cn L W B) hw.ne hw.inb hlen
  have s3:awSet (ρW σ0 R Cn P (wayV w) (.int ((zz w).1:Nat)) (.int ((zz w).2:Nat))) (WS σ0 R Cn L W B)=some (.next,ρW σ0 R Cn P (wayV w) (.int ((zz w).1:Nat)) (.int ((zz w).2:Nat)),WS σ0 R Cn (updW P L w) W B):=by
    refine fSet_of (v:= .int (imin (L (zz w)) (mxW P w))) (o:= .loc (σ0.length+1+(zz w).1)) (k:= .int ((zz w).2:Nat)) (zP (zk ls.2 (zk (g:=fNil) mc rfl)) rfl) ls.1 rfl ?_
    have hk:0≤((zz w).2:Int)∧((zz w).2:Int)<(((List.range Cn).map fun j=>V.int (L ((zz w).1,j))).length:Nat):=by
      rw [List.length_map,List.length_range]
      have:=hb.2
      lia
    have hrow:=WS_row (σ0:=σ0) (R:=R) (Cn:=Cn) (L:=L) (W:=W) (B:=B) hb.1
    unfold rowO at hrow
    simp only [setOf,hrow,if_pos hk,Int.toNat_natCast,WS_setRow hb.1]
    rfl
  have c1:=fCmp_eqI (f:=fVar 7) (g:=fBin (opOf .Sub) (fVar 1) (za (.int 1))) (x:=((zz w).1:Nat)) (y:=(R:Int)-1) (ρ:=ρW σ0 R Cn P (wayV w) (.int ((zz w).1:Nat)) (.int ((zz w).2:Nat))) (σ:=WS σ0 R Cn (updW P L w) W B) rfl (zJ rfl rfl yS)
  have c2:=fCmp_eqI (f:=fVar 8) (g:=fBin (opOf .Sub) (fVar 2) (za (.int 1))) (x:=((zz w).2:Nat)) (y:=(Cn:Int)-1) (ρ:=ρW σ0 R Cn P (wayV w) (.int ((zz w).1:Nat)) (.int ((zz w).2:Nat))) (σ:=WS σ0 R Cn (updW P L w) W B) rfl (zJ rfl rfl yS)
  have s4:awIf (ρW σ0 R Cn P (wayV w) (.int ((zz w).1:Nat)) (.int ((zz w).2:Nat))) (WS σ0 R Cn (updW P L w) W B)=some (.next,ρW σ0 R Cn P (wayV w) (.int ((zz w).1:Nat)) (.int ((zz w).2:Nat)),WS σ0 R Cn (updW P L w) (if isEnd R Cn w then W++ [w] else W) B):=by
    unfold isEnd
    by_cases h1:(zz w).1+1=R
    · rw [decide_eq_true (by lia)] at c1
      by_cases h2:(zz w).2+1=Cn
      · rw [decide_eq_true (by lia)] at c2
        simp only [h1,h2,decide_true,Bool.and_self,if_true]
        have ap:zX (zF (fVar 4) (zc (fVar 6) fNil) zB) (ρW σ0 R Cn P (wayV w) (.int ((zz w).1:Nat)) (.int ((zz w).2:Nat))) (WS σ0 R Cn (updW P L w) W B)=some (.next,ρW σ0 R Cn P (wayV w) (.int ((zz w).1:Nat)) (.int ((zz w).2:Nat)),WS σ0 R Cn (updW P L w) (W++ [w]) B):=by
          refine yo (yK (v:= .loc (σ0.length+1+R)) (X:=W.map wayV) rfl (by simp only [ev_v8,WS_W]) (zk (g:=fNil) (v:=wayV w) rfl rfl) ?_)
          have hlt:(W.map wayV).length<LIM:=by rw [List.length_map,zv]; lia
          have hm:W.map wayV++ [wayV w]=(W++ [w]).map wayV:=by simp
          simp only [zB,WS_W,if_pos hlt,hm,WS_setW]
        exact (Zu (zH c1 (zH c2 rfl))).trans (zf ap rfl)
      · rw [decide_eq_false (by lia)] at c2
        simp only [h2,decide_false,Bool.and_false,Bool.false_eq_true,if_false]
        exact (yC (zH c1 (yq c2))).trans rfl
    · rw [decide_eq_false (by lia)] at c1
      simp only [h1,decide_false,Bool.false_and,Bool.false_eq_true,if_false]
      exact (yC (yq c1)).trans rfl
  generalize (if isEnd R Cn w then W++ [w] else W)=W' at s4 ⊢
  have xc:=ext_comp (σ0:=σ0) (R:=R) (Cn:=Cn) (P:=P) (w:=w) (σ:=WS σ0 R Cn (updW P L w) W' B) hlen
  have s5:zX (zF (fVar 5) (zc awExt fNil) pExtend) (ρW σ0 R Cn P (wayV w) (.int ((zz w).1:Nat)) (.int ((zz w).2:Nat))) (WS σ0 R Cn (updW P L w) W' B)=some (.next,ρW σ0 R Cn P (wayV w) (.int ((zz w).1:Nat)) (.int ((zz w).2:Nat)),WS σ0 R Cn (updW P L w) W' (B++exts R Cn w)):=by
    refine yo (yK (v:= .loc (σ0.length+2+R)) (X:=B.map wayV) rfl (by simp only [ev_v8,WS_B]) (zk (g:=fNil) xc rfl) ?_)
    have hx:(exts R Cn w).length≤3:=by
      unfold exts
      rw [List.length_map]
      exact Nat.le_trans (List.length_filter_le _ _) (by simp [yV])
    have hlt:(B.map wayV).length+((exts R Cn w).map wayV).length<LIM:=by rw [List.length_map,List.length_map,zv]; lia
    have hm:B.map wayV++(exts R Cn w).map wayV=(B++exts R Cn w).map wayV:=by simp
    simp only [pExtend,WS_B,if_pos hlt,hm,WS_setB]
  exact zf s1 (zf s2 (zf s3 (zf s4 (zf s5 rfl))))
end
end Mi
namespace Mi
section
variable {σ0:List AObj}{R Cn:Nat}{P:C2→Int}
theorem aw_loop(hR:R≤10)(hC:Cn≤10):∀(n:Nat) (st:List Way) (L:C2→Int) (W:List Way) (way i j:V),(∀w∈st,Vw R Cn w)→(procW R Cn n st).2= []→W.length+n<4000→st.length+3*n<4000→
    ∃way' i' j',yA awC awB (ρW σ0 R Cn P way i j) (WS σ0 R Cn L W st)=some (.next,ρW σ0 R Cn P way' i' j',WS σ0 R Cn ((procW R Cn n st).1.foldl (updW P) L) (W++(procW R Cn n st).1.filter (isEnd R Cn)) [])
  | 0,st,L,W,way,i,j,_,h,_,_=>by
    have h:st= []:=h
    subst h
    exact ⟨way,i,j,by refine rg (zO awC_eval) ?_; simp [procW]⟩
  | n+1,st,L,W,way,i,j,hv,h,h1,h2=>by
    cases hl:st.getLast? with
    | none=>
      have:st= []:=List.getLast?_eq_none_iff.mp hl
      subst this
      exact ⟨way,i,j,by refine rg (zO awC_eval) ?_; simp [procW]⟩
    | some w=>
      have hne:st≠ []:=by rintro rfl; contradiction
      have hst:st.dropLast++ [w]=st:=by
        have:=List.dropLast_concat_getLast hne
        rw [List.getLast?_eq_some_getLast hne] at hl
        cases hl
        exact this
      have hwm:w∈st:=by refine rl hst ?_; simp
      have hp:procW R Cn (n+1) st=(w::(procW R Cn n (st.dropLast++exts R Cn w)).1,(procW R Cn n (st.dropLast++exts R Cn w)).2):=by
        show (match st.getLast? with | none=>_ | some w=>_)=_
        refine rg hl ?_; rfl
      rw [hp] at h ⊢
      have hx:(exts R Cn w).length≤3:=by
        unfold exts
        rw [List.length_map]
        exact Nat.le_trans (List.length_filter_le _ _) (by simp [yV])
      have hdl:st.dropLast.length+1=st.length:=by
        have:=congrArg List.length hst
        simpa using this
      have hs:=aw_step (σ0:=σ0) (L:=L) (P:=P) (W:=W) (B:=st.dropLast) (way:=way) (i:=i) (j:=j) (hv w hwm) hR hC (by lia) (by lia)
      rw [hst] at hs
      have hc:=awC_eval (σ0:=σ0) (R:=R) (Cn:=Cn) (L:=L) (P:=P) (W:=W) (B:=st) (way:=way) (i:=i) (j:=j)
      have he:st.isEmpty=false:=by cases st with | nil=>exact absurd rfl hne | cons a t=>rfl
      rw [he] at hc
      obtain ⟨way',i',j',e⟩:=aw_loop hR hC n (st.dropLast++exts R Cn w) (updW P L w) (if isEnd R Cn w then W++ [w] else W) (wayV w) (.int ((zz w).1:Nat)) (.int ((zz w).2:Nat))
        (fun w' hw'=>by
          rcases List.mem_append.mp hw' with q | q
          · exact hv w' (List.dropLast_subset _ q)
          · exact (hv w hwm).ext q) h (by
          split
          · refine rg List.length_append ?_; simp only [List.length_cons,List.length_nil]; lia
          · exact Nat.lt_of_succ_lt ‹_›) (by refine rg List.length_append ?_; lia)
      refine ⟨way',i',j',?_⟩
      rw [z5 hc (.inl hs) e]
      simp only [List.foldl_cons,List.filter_cons]
      split <;> simp
theorem fComp_new{f:EsF}{js:List (Option Nat)}{g:TF}{c:BF}{body:Nat→CB}{ρ vs ρ':List V}{σ σ':List AObj}(hf:f ρ σ=some (vs,σ))(e:y5 g c (body σ.length) vs (ρin js ρ) (σ++ [.list []])=some (ρ',σ')):yh .new f js g c body ρ σ=some (.loc σ.length,σ'):=by
  unfold yh fCompR
  refine rg hf ?_
  simp only [e]
  rfl
theorem fEmit_of{el:EF}{l:Nat}{ρ ws:List V}{w:V}{σ σ1:List AObj}(h:el ρ σ=some (w,σ1))(hg:σ1[l]?=some (.list ws))(hl:ws.length<LIM):zY el l ρ σ=some (ρ,σ1.set l (.list (ws++ [w]))):=by
  unfold zY
  refine rg h ?_
  simp only [hg,if_pos hl]
theorem nine_row{vs:List V}{u:V}{σ:List AObj}(hl:vs.length≤LIM):yh .new (zI (fVar 0)) [none] (tVar 0) zU (zY (za (.int 9))) [.lst vs] σ=some (.loc σ.length,σ++ [.list (vs.map fun _=> .int 9)]):=by
  obtain ⟨u',e⟩:=cLoop_emit (c:=zU) (el:=za (.int 9)) (p:=fun _=>true) (w:=fun _=> .int 9) (caps:= []) (σ:=σ) vs .undef [] (by simpa using hl) (fun v hv acc=>⟨rfl,fun _=>rfl⟩)
  have hft:vs.filter (fun _=>true)=vs:=List.filter_eq_self.mpr fun _ _=>rfl
  rw [hft] at e
  exact fComp_new (vs:=vs) rfl e
theorem nine_rows:∀(rs:List (List V)) (u:V) (acc:List V) (A:List AObj),(∀r∈rs,r.length≤LIM)→acc.length+rs.length≤LIM→
    ∃u',y5 (tVar 0) zU (zY (yh .new (zI (fVar 0)) [none] (tVar 0) zU (zY (za (.int 9)))) σ0.length) (rs.map .lst) [u] (σ0++(.list acc::A))=some ([u'],σ0++(.list (acc++(List.range rs.length).map fun t=> .loc (σ0.length+1+A.length+t))::(A++rs.map fun r=> .list (r.map fun _=> .int 9))))
  | [],u,acc,A,_,_=>⟨u,by simp [y5]⟩
  | r::rs,u,acc,A,hr,hl=>by
    have t:tVar 0 (.lst r) [u]=some [.lst r]:=rfl
    have hn:=nine_row (vs:=r) (u:=u) (σ:=σ0++(.list acc::A)) (hr r List.mem_cons_self)
    have hlen:(σ0++(AObj.list acc::A)).length=σ0.length+1+A.length:=by simp; lia
    rw [hlen] at hn
    have he:zY (yh .new (zI (fVar 0)) [none] (tVar 0) zU (zY (za (.int 9)))) σ0.length [.lst r] (σ0++(.list acc::A))=some ([.lst r],σ0++(.list (acc++ [.loc (σ0.length+1+A.length)])::(A++ [.list (r.map fun _=> .int 9)]))):=by
      have hg:((σ0++(AObj.list acc::A))++ [.list (r.map fun _=> .int 9)])[σ0.length]?=some (.list acc):=by simp
      refine rg (fEmit_of hn hg (by simp at hl; lia)) ?_
      simp
    obtain ⟨u',e⟩:=nine_rows rs (.lst r) (acc++ [.loc (σ0.length+1+A.length)]) (A++ [.list (r.map fun _=> .int 9)]) (fun x hx=>hr x (List.mem_cons_of_mem _ hx)) (by simp at hl ⊢; lia)
    refine ⟨u',?_⟩
    rw [List.map_cons,y5,t]
    have hnoif:zU [.lst r] (σ0++(.list acc::A))=some (true,σ0++(.list acc::A)):=rfl
    simp only [hnoif,he,e]
    have h1:acc++ [V.loc (σ0.length+1+A.length)]++(List.range rs.length).map (fun t=>V.loc (σ0.length+1+(A++ [AObj.list (r.map fun _=> .int 9)]).length+t))=acc++(List.range (r::rs).length).map fun t=>V.loc (σ0.length+1+A.length+t):=by
      rw [List.length_cons,List.range_succ_eq_map,List.map_cons,List.map_map,List.append_assoc]
      congr 1
      simp only [List.singleton_append]
      congr 1
      refine List.map_congr_left fun t _=>?_
      show V.loc _=V.loc _
      congr 1
      simp only [List.length_append,List.length_cons,List.length_nil]
      lia
    have h2:A++ [AObj.list (r.map fun _=> .int 9)]++rs.map (fun r=>AObj.list (r.map fun _=> .int 9))=A++(r::rs).map fun r=>AObj.list (r.map fun _=> .int 9):=by simp
    refine rg h1 ?_; refine rg h2 ?_; rfl
theorem least_init(hR:R≤10)(hC:Cn≤10){ρ:List V}(h0:ρ[0]?=some (pV R Cn P)):yh .new (zI (fVar 0)) [none] (tVar 0) zU (zY (yh .new (zI (fVar 0)) [none] (tVar 0) zU (zY (za (.int 9))))) ρ σ0=some (.loc σ0.length,σ0++(.list ((List.range R).map fun k=> .loc (σ0.length+1+k))::(List.range R).map (rowO Cn fun _=>9))):=by
  have hv:fVar 0 ρ σ0=some (pV R Cn P,σ0):=by unfold fVar; refine rg h0 ?_; rfl
  have hf:zI (fVar 0) ρ σ0=some (((List.range R).map fun i=>(List.range Cn).map fun j=>V.int (P (i,j))).map .lst,σ0):=by
    unfold zI
    refine rg hv ?_; refine rg List.map_map ?_
    rfl
  obtain ⟨u',e⟩:=nine_rows (σ0:=σ0) ((List.range R).map fun i=>(List.range Cn).map fun j=>V.int (P (i,j))) .undef [] [] (fun r hr=>by
    obtain ⟨i,_,rfl⟩:=List.mem_map.mp hr
    rw [List.length_map,List.length_range,zv]; lia) (by dsimp only [List.length_map,List.length_range,zv]; simp; lia)
  refine rg (fComp_new hf e) ?_
  simp only [List.nil_append,List.length_map,List.length_range,List.length_nil,Nat.add_zero]
  have hm:((List.range R).map fun i=>(List.range Cn).map fun j=>V.int (P (i,j))).map (fun r=>AObj.list (r.map fun _=> .int 9))=(List.range R).map (rowO Cn fun _=>9):=by
    refine rg List.map_map ?_
    refine List.map_congr_left fun i _=>?_
    show AObj.list (((List.range Cn).map fun j=>V.int (P (i,j))).map fun _=> .int 9)=rowO Cn (fun _=>9) i
    skip
    refine rg List.map_map ?_
    rfl
  refine rg hm ?_; rfl
theorem all_ways_eval{n:Nat}(hR:R≤10)(hC:Cn≤10)(hR0:0<R)(hC0:0<Cn)(hn:n≤1000)(hp:(procW R Cn n [[(0,0)]]).2= []) :
    Zc [pV R Cn P] σ0=some (.tup [pV R Cn ((procW R Cn n [[(0,0)]]).1.foldl (updW P) fun _=>9), .lst (((procW R Cn n [[(0,0)]]).1.filter (isEnd R Cn)).map wayV)],σ0):=by
  have s1:fAsg (zj (zc (fVar 0) fNil) pLen) (tVar 1) [pV R Cn P, .undef, .undef, .undef, .undef, .undef, .undef, .undef, .undef] σ0=some (.next, [pV R Cn P, .int (R:Nat), .undef, .undef, .undef, .undef, .undef, .undef, .undef],σ0):=by
    refine zw (zP (vs:= [pV R Cn P]) (v:= .int (R:Nat)) rfl ?_) rfl
    simp [pLen,pV,ev_w1]
  have s2:fAsg (zj (zc (fIdx (fVar 0) (za (.int 0))) fNil) pLen) (tVar 2) [pV R Cn P, .int (R:Nat), .undef, .undef, .undef, .undef, .undef, .undef, .undef] σ0=some (.next, [pV R Cn P, .int (R:Nat), .int (Cn:Nat), .undef, .undef, .undef, .undef, .undef, .undef],σ0):=by
    have hi:ZR σ0 (pV R Cn P) (.int (0:Nat))=some (.lst ((List.range Cn).map fun j=> .int (P (0,j)))):=by
      have:=idx_map (σ:=σ0) (fun i=>V.lst ((List.range Cn).map fun j=> .int (P (i,j)))) (List.range R) 0 0 (by simpa using hR0)
      rw [List.getD_eq_getElem?_getD,List.getElem?_range hR0] at this
      exact this
    refine zw (zP (zk (g:=fNil) (yj (b:= .int (0:Nat)) rfl rfl hi) rfl) (v:= .int (Cn:Nat)) ?_) rfl
    simp [pLen,ev_w1]
  have s3:=zw (g:=tVar 3) (ρ1:= [pV R Cn P, .int (R:Nat), .int (Cn:Nat), .loc σ0.length, .undef, .undef, .undef, .undef, .undef]) (least_init (σ0:=σ0) (R:=R) (Cn:=Cn) (P:=P) (ρ:= [pV R Cn P, .int (R:Nat), .int (Cn:Nat), .undef, .undef, .undef, .undef, .undef, .undef]) hR hC rfl) rfl
  have hlen1:(σ0++(AObj.list ((List.range R).map fun k=>V.loc (σ0.length+1+k))::(List.range R).map (rowO Cn fun _=>9))).length=σ0.length+1+R:=by simp; lia
  have s4:fAsg (fNew fNil) (tVar 4) [pV R Cn P, .int (R:Nat), .int (Cn:Nat), .loc σ0.length, .undef, .undef, .undef, .undef, .undef] (σ0++(AObj.list ((List.range R).map fun k=>V.loc (σ0.length+1+k))::(List.range R).map (rowO Cn fun _=>9)))=some (.next, [pV R Cn P, .int (R:Nat), .int (Cn:Nat), .loc σ0.length, .loc (σ0.length+1+R), .undef, .undef, .undef, .undef],(σ0++(AObj.list ((List.range R).map fun k=>V.loc (σ0.length+1+k))::(List.range R).map (rowO Cn fun _=>9)))++ [AObj.list []]):=by
    refine zw (v:= .loc (σ0.length+1+R)) ?_ rfl
    refine rl hlen1 ?_
    rfl
  have hlen2:((σ0++(AObj.list ((List.range R).map fun k=>V.loc (σ0.length+1+k))::(List.range R).map (rowO Cn fun _=>9)))++ [AObj.list []]).length=σ0.length+2+R:=by refine rg List.length_append ?_; refine rg hlen1 ?_; simp; lia
  have s5:fAsg (fNew (zc (fLst (zc (fTup (zc (za (.int 0)) (zc (za (.int 0)) fNil))) fNil)) fNil)) (tVar 5) [pV R Cn P, .int (R:Nat), .int (Cn:Nat), .loc σ0.length, .loc (σ0.length+1+R), .undef, .undef, .undef, .undef] ((σ0++(AObj.list ((List.range R).map fun k=>V.loc (σ0.length+1+k))::(List.range R).map (rowO Cn fun _=>9)))++ [AObj.list []])=some (.next,ρW σ0 R Cn P .undef .undef .undef,WS σ0 R Cn (fun _=>9) [] [[(0,0)]]):=by
    refine zw (v:= .loc (σ0.length+2+R)) (σ1:=WS σ0 R Cn (fun _=>9) [] [[(0,0)]]) ?_ rfl
    have ha:fNew (zc (fLst (zc (fTup (zc (za (.int 0)) (zc (za (.int 0)) fNil))) fNil)) fNil) [pV R Cn P, .int (R:Nat), .int (Cn:Nat), .loc σ0.length, .loc (σ0.length+1+R), .undef, .undef, .undef, .undef] ((σ0++(AObj.list ((List.range R).map fun k=>V.loc (σ0.length+1+k))::(List.range R).map (rowO Cn fun _=>9)))++ [AObj.list []])=some (.loc ((σ0++(AObj.list ((List.range R).map fun k=>V.loc (σ0.length+1+k))::(List.range R).map (rowO Cn fun _=>9)))++ [AObj.list []]).length,((σ0++(AObj.list ((List.range R).map fun k=>V.loc (σ0.length+1+k))::(List.range R).map (rowO Cn fun _=>9)))++ [AObj.list []])++ [AObj.list [wayV [(0,0)]]]):=rfl
    refine rg ha ?_; refine rg hlen2 ?_
    simp [WS]
  obtain ⟨way',i',j',e⟩:=aw_loop (σ0:=σ0) (P:=P) hR hC n [[(0,0)]] (fun _=>9) [] .undef .undef .undef (fun w hw=>by
    simp at hw
    subst hw
    exact ⟨by simp,fun d hd=>by simp at hd; subst hd; exact ⟨hR0,hC0⟩,by simp [zz]⟩) hp (by simp; lia) (by simp; lia)
  generalize (procW R Cn n [[(0,0)]]).1.foldl (updW P) (fun _=>9)=Lf at *
  rw [List.nil_append] at e
  generalize (procW R Cn n [[(0,0)]]).1.filter (isEnd R Cn)=Wf at *
  show fnG 9 1 yH _ _=_
  unfold fnG fnF
  have hlen:([pV R Cn P]:List V).length=1:=rfl
  refine rg (if_pos hlen) ?_
  have key:yH [pV R Cn P, .undef, .undef, .undef, .undef, .undef, .undef, .undef, .undef] σ0=some (.ret (.tup [.loc σ0.length, .loc (σ0.length+1+R)]),ρW σ0 R Cn P way' i' j',WS σ0 R Cn Lf Wf []):=by
    skip
    exact zf s1 (zf s2 (zf s3 (zf s4 (zf s5 (zf e (ZA rfl))))))
  have key':yH ([pV R Cn P]++List.replicate (9-([pV R Cn P]:List V).length) .undef) σ0=_:=key
  refine rg key' ?_
  simp only
  have f2:V.frz σ0.length (WS σ0 R Cn Lf Wf []) 5 (.loc (σ0.length+1+R)) = .lst (Wf.map wayV):=by
    show (if σ0.length+1+R<σ0.length then V.loc (σ0.length+1+R) else match (WS σ0 R Cn Lf Wf [])[σ0.length+1+R]? with | some (.list ws)=> .lst (ws.map (V.frz σ0.length (WS σ0 R Cn Lf Wf []) 4)) | _=> .loc (σ0.length+1+R))=_
    refine rg (if_neg (by lia)) ?_; refine rg WS_W ?_
    simp only
    congr 1
    refine rg List.map_map ?_
    exact List.map_congr_left fun t _=>V.frz_nl 4 (wayV_nl t)
  have f1:V.frz σ0.length (WS σ0 R Cn Lf Wf []) 5 (.loc σ0.length)=pV R Cn Lf:=by
    show (if σ0.length<σ0.length then V.loc σ0.length else match (WS σ0 R Cn Lf Wf [])[σ0.length]? with | some (.list ws)=> .lst (ws.map (V.frz σ0.length (WS σ0 R Cn Lf Wf []) 4)) | _=> .loc σ0.length)=_
    refine rg (if_neg (by simp)) ?_; refine rg WS_0 ?_
    simp only
    skip
    congr 1
    refine rg List.map_map ?_
    refine List.map_congr_left fun i hi=>?_
    show (if σ0.length+1+i<σ0.length then V.loc (σ0.length+1+i) else match (WS σ0 R Cn Lf Wf [])[σ0.length+1+i]? with | some (.list ws)=> .lst (ws.map (V.frz σ0.length (WS σ0 R Cn Lf Wf []) 3)) | _=> .loc (σ0.length+1+i))=_
    refine rg (if_neg (by lia)) ?_; refine rg (WS_row (List.mem_range.mp hi)) ?_
    simp only [rowO]
    congr 1
    refine rg List.map_map ?_
    rfl
  have hf:V.frz σ0.length (WS σ0 R Cn Lf Wf []) 6 (.tup [.loc σ0.length, .loc (σ0.length+1+R)]) = .tup [pV R Cn Lf, .lst (Wf.map wayV)]:=by
    show V.tup [V.frz σ0.length (WS σ0 R Cn Lf Wf []) 5 (.loc σ0.length),V.frz σ0.length (WS σ0 R Cn Lf Wf []) 5 (.loc (σ0.length+1+R))]=_
    refine rg f1 ?_; refine rg f2 ?_; rfl
  have hnl:V.nl (.tup [pV R Cn Lf, .lst (Wf.map wayV)])=true:=by
    have h1:V.nl (pV R Cn Lf)=true:=V.nls_iff.mpr fun v hv=>by
      obtain ⟨i,_,rfl⟩:=List.mem_map.mp hv
      exact V.nls_iff.mpr fun v hv=>by
        obtain ⟨j,_,rfl⟩:=List.mem_map.mp hv
        rfl
    have h2:V.nl (.lst (Wf.map wayV))=true:=wayVs_nl Wf
    show (V.nl (pV R Cn Lf)&&(V.nl (.lst (Wf.map wayV))&&true))=true
    refine rg h1 ?_; refine rg h2 ?_; rfl
  unfold finF
  refine rg hf ?_; refine rg (if_pos ⟨ZZ.app,V.blw_nl hnl⟩) ?_; refine rg List.take_left ?_; rfl
end
end Mi
namespace Mi
noncomputable def grid(R Cn:Nat):List C2:=(List.range R).flatMap fun a=>(List.range Cn).map fun b=>(a,b)
theorem ZE{R Cn:Nat}{c:C2}:c∈grid R Cn↔inb R Cn c:=by
  constructor
  · intro h
    refine xe12 (List.mem_flatMap.mp h) fun a ha h=>?_
    obtain ⟨b,hb,rfl⟩:=List.mem_map.mp h
    exact ⟨List.mem_range.mp ha,List.mem_range.mp hb⟩
  · intro h
    exact List.mem_flatMap.mpr ⟨c.1,List.mem_range.mpr h.1,List.mem_map.mpr ⟨c.2,List.mem_range.mpr h.2,rfl⟩⟩
structure RunOk(R Cn:Nat)(run:List Way):Prop where
  c0: [(0,0)]∈run
  c1:∀w∈run,w= [(0,0)]∨(w.dropLast∈run∧zz w∈yV (zz w.dropLast))
  c2:∀w∈run,∀w'∈exts R Cn w,w'∈run
  c3:∀c,inb R Cn c→∃w∈run,zz w=c
  c4:∀w∈run,w≠ []∧∀d∈w,inb R Cn d
noncomputable def runOkB(R Cn:Nat)(run:List Way):Bool:=
  run.contains [(0,0)]&&(run.all fun w=>w== [(0,0)]||(run.contains w.dropLast&&(yV (zz w.dropLast)).contains (zz w)))&&(run.all fun w=>(exts R Cn w).all fun w'=>run.contains w')
    && ((grid R Cn).all fun c=>run.any fun w=>zz w==c)&&(run.all fun w=> !w.isEmpty&&w.all (inbB R Cn))
theorem runOk_of{R Cn:Nat}{run:List Way}(h:runOkB R Cn run=true):RunOk R Cn run:=by
  unfold runOkB at h
  simp only [Bool.and_eq_true] at h
  obtain ⟨⟨⟨⟨h0,h1⟩,h2⟩,h3⟩,h4⟩:=h
  refine ⟨by simpa using h0,fun w hw=>?_,fun w hw w' hw'=>?_,fun c hc=>?_,fun w hw=>?_⟩
  · have:=List.all_eq_true.mp h1 w hw
    rw [Bool.or_eq_true,Bool.and_eq_true,beq_iff_eq] at this
    rcases this with q | q
    · exact .inl q
    · exact .inr ⟨by simpa using q.1,by simpa using q.2⟩
  · have:=List.all_eq_true.mp (List.all_eq_true.mp h2 w hw) w' hw'
    simpa using this
  · have:=List.all_eq_true.mp h3 c (ZE.mpr hc)
    refine xe12 (List.any_eq_true.mp this) fun w hw e=>?_
    exact ⟨w,hw,by simpa using e⟩
  · have:=List.all_eq_true.mp h4 w hw
    simp only [Bool.and_eq_true] at this
    refine ⟨by intro q; subst q; simp at this,fun d hd=>?_⟩
    have:=List.all_eq_true.mp this.2 d hd
    simpa [inbB,inb] using this
noncomputable def runL(R Cn:Nat):List Way:=(procW R Cn 65 [[(0,0)]]).1
theorem run34:runOkB 3 4 (runL 3 4)=true:=by decide +kernel
theorem run43:runOkB 4 3 (runL 4 3)=true:=by decide +kernel
theorem end34:(procW 3 4 65 [[(0,0)]]).2= []:=by decide +kernel
theorem end43:(procW 4 3 65 [[(0,0)]]).2= []:=by decide +kernel
theorem imin_le{a b t:Int}:imin a b≤t↔a≤t∨b≤t:=by unfold imin; split <;> omega
theorem best_le{t:Int}:∀(l:List Int) (x:Int),zW (fun a b=>decide (b<a)) x l≤t↔x≤t∧∀y∈l,y≤t
  | [],x=>by simp [zW]
  | y::l,x=>by
    have h:=best_le (t:=t) l (if decide (x<y)=true then y else x)
    have e:zW (fun a b=>decide (b<a)) x (y::l)=zW (fun a b=>decide (b<a)) (if decide (x<y)=true then y else x) l:=rfl
    rw [e,h]
    constructor
    · rintro ⟨h1,h2⟩
      refine ⟨?_,fun z hz=>?_⟩
      · split at h1 <;> simp_all <;> lia
      · rcases List.mem_cons.mp hz with rfl | hz
        · by_cases q:x<z
          · simp [q] at h1; omega
          · simp [q] at h1; lia
        · exact h2 z hz
    · rintro ⟨h1,h2⟩
      refine ⟨?_,fun z hz=>h2 z (List.mem_cons_of_mem _ hz)⟩
      have:=h2 y List.mem_cons_self
      split <;> omega
theorem mxW_le{P:C2→Int}{w:Way}{t:Int}(h:w≠ []):mxW P w≤t↔∀d∈w,P d≤t:=by
  cases w with
  | nil=>exact absurd rfl h
  | cons c w=>
    unfold mxW
    rw [best_le]
    constructor
    · rintro ⟨h1,h2⟩ d hd
      rcases List.mem_cons.mp hd with rfl | hd
      · exact h1
      · exact h2 _ (List.mem_map.mpr ⟨d,hd,rfl⟩)
    · intro h
      refine ⟨h c List.mem_cons_self,fun y hy=>?_⟩
      obtain ⟨d,hd,rfl⟩:=List.mem_map.mp hy
      exact h d (List.mem_cons_of_mem _ hd)
theorem val_le{P:C2→Int}{c:C2}{t:Int}:∀(ws:List Way) (L:C2→Int),(ws.foldl (updW P) L) c≤t↔L c≤t∨∃w∈ws,zz w=c∧mxW P w≤t
  | [],L=>by simp
  | w::ws,L=>by
    rw [List.foldl_cons,val_le ws]
    unfold updW updL
    by_cases h:c=zz w
    · subst h
      simp only [if_true,imin_le]
      simp [or_assoc]
    · refine rg (if_neg h) ?_
      have:zz w≠c:=fun q=>h q.symm
      simp [this]
theorem exists_min{α:Type}(f:α→Int):∀(l:List α),l≠ []→∃a∈l,∀b∈l,f a≤f b
  | [],h=>absurd rfl h
  | [a],_=>⟨a,by simp,by simp⟩
  | a::b::l,_=>by
    refine xe12 (exists_min f (b::l) (by simp)) fun m hm h=>?_
    by_cases q:f a≤f m
    · exact ⟨a,List.mem_cons_self,fun x hx=>by
        rcases List.mem_cons.mp hx with rfl | hx
        · simp
        · have:=h x hx; lia⟩
    · exact ⟨m,List.mem_cons_of_mem _ hm,fun x hx=>by
        rcases List.mem_cons.mp hx with rfl | hx
        · lia
        · exact h x hx⟩
section
variable {R Cn:Nat}{run:List Way}{P:C2→Int}
noncomputable def valR(run:List Way)(P:C2→Int):C2→Int:=run.foldl (updW P) fun _=>9
theorem valR_le{c:C2}{t:Int}:valR run P c≤t↔9≤t∨∃w∈run,zz w=c∧mxW P w≤t:=val_le run _
theorem valR_bound(K:RunOk R Cn run)(hP:∀d,inb R Cn d→0≤P d∧P d≤4){c:C2}(hc:inb R Cn c):valR run P c≤4:=by
  refine xe12 (K.c3 c hc) fun w hw e=>?_
  obtain ⟨h1,h2⟩:=K.c4 w hw
  exact valR_le.mpr (.inr ⟨w,hw,e,(mxW_le h1).mpr fun d hd=>(hP d (h2 d hd)).2⟩)
theorem valR_att(K:RunOk R Cn run)(hP:∀d,inb R Cn d→0≤P d∧P d≤4){c:C2}(hc:inb R Cn c):∃w∈run,zz w=c∧∀d∈w,P d≤valR run P c:=by
  have h:=valR_bound K hP hc
  rcases valR_le.mp (Int.le_refl (valR run P c)) with q | ⟨w,hw,e,q⟩
  · omega
  · exact ⟨w,hw,e,(mxW_le (K.c4 w hw).1).mp q⟩
theorem valR_ok(K:RunOk R Cn run)(hP:∀d,inb R Cn d→0≤P d∧P d≤4):ValOk R Cn P (valR run P) where
  v0:=by
    have h00:inb R Cn (0,0):=(K.c4 _ K.c0).2 _ (by trivial)
    apply Int.le_antisymm
    · refine valR_le.mpr (.inr ⟨_,K.c0,rfl,(mxW_le (by simp)).mpr fun d hd=>?_⟩)
      simp at hd
      subst hd; exact Int.le_refl _
    · refine xe13 (valR_att K hP h00) fun w hw e q=>?_
      have:=q (zz w) (lastc_mem (K.c4 w hw).1)
      rwa [e] at this
  v1:=fun s hs h0=>by
    have split:∀w∈run,zz w=s→w=w.dropLast++ [s]∧w.dropLast∈run∧s∈yV (zz w.dropLast):=fun w hw e=>by
      have hne:=(K.c4 w hw).1
      rcases K.c1 w hw with q | ⟨q1,q2⟩
      · subst q
        exact absurd e.symm h0
      · refine ⟨?_,q1,e▸q2⟩
        have h1:=List.dropLast_concat_getLast hne
        have h2:w.getLast hne=s:=by
          have h3:zz w=w.getLast hne:=by
            unfold zz
            refine rg (List.getLast?_eq_some_getLast hne) ?_
            rfl
          refine rl h3 ?_; refine rg e ?_; rfl
        rw [h2] at h1
        exact h1.symm
    have hpne:(grid R Cn).filter (fun q=>decide (s∈yV q))≠ []:=by
      refine xe12 (K.c3 s hs) fun w hw e=>?_
      refine xe03 (split w hw e) fun _ h1 h2=>?_
      have hq:=(K.c4 _ h1).2 _ (lastc_mem (K.c4 _ h1).1)
      intro hn
      have:zz w.dropLast∈(grid R Cn).filter (fun q=>decide (s∈yV q)):=List.mem_filter.mpr ⟨ZE.mpr hq,by simpa using h2⟩
      rw [hn] at this
      cases this
    refine xe12 (exists_min (valR run P) _ hpne) fun q hq hmin=>?_
    obtain ⟨hq1,hq2⟩:=List.mem_filter.mp hq
    have hqb:=ZE.mp hq1
    have hqs:s∈yV q:=by simpa using hq2
    have hmin':∀q',inb R Cn q'→s∈yV q'→valR run P q≤valR run P q':=fun q' h1 h2=>hmin q' (List.mem_filter.mpr ⟨ZE.mpr h1,by simpa using h2⟩)
    refine ⟨q,hqb,hqs,?_,hmin'⟩
    apply Int.le_antisymm
    · refine xe13 (valR_att K hP hqb) fun w hw e hall=>?_
      have hx:w++ [s]∈exts R Cn w:=List.mem_map.mpr ⟨s,List.mem_filter.mpr ⟨e▸hqs,by simpa [inbB,inb] using hs⟩,rfl⟩
      refine valR_le.mpr (.inr ⟨w++ [s],K.c2 w hw _ hx,lastc_app,(mxW_le (by simp)).mpr fun d hd=>?_⟩)
      rcases List.mem_append.mp hd with hd | hd
      · have:=hall d hd; omega
      · simp at hd
        subst hd; omega
    · refine xe13 (valR_att K hP hs) fun w hw e hall=>?_
      refine xe03 (split w hw e) fun h1 h2 h3=>?_
      have hb:=(K.c4 _ h2).2 _ (lastc_mem (K.c4 _ h2).1)
      have a1:P s≤valR run P s:=by
        have:=hall s (by refine rg h1 ?_; simp)
        exact this
      have a2:valR run P (zz w.dropLast)≤valR run P s:=valR_le.mpr (.inr ⟨_,h2,rfl,(mxW_le (K.c4 _ h2).1).mpr fun d hd=>hall d (List.dropLast_subset _ hd)⟩)
      have a3:=hmin' _ hb h3
      omega
end
end Mi
namespace Mi
theorem tk_cV{c:C2}(h:c.1<1000∧c.2<1000):tkOk 2 (cV c)=true:=by
  have h1:zM [V.int (c.1:Int), .int (c.2:Int)]=some [(c.1:Int),(c.2:Int)]:=rfl
  unfold tkOk cV
  simp only [h1,yR,List.length_cons,List.length_nil,List.all_cons,List.all_nil]
  simp
  omega
theorem tks_cV{F:List C2}(h:∀c∈F,c.1<1000∧c.2<1000):(F.map cV).all (tkOk 2)=true:=List.all_eq_true.mpr fun v hv=>by
  obtain ⟨c,hc,rfl⟩:=List.mem_map.mp hv
  exact tk_cV (h c hc)
theorem sorted_cV{F:List C2}{σ:List AObj}{v:V}(hv:yM σ v=some (F.map cV))(hl:isLst v=true)(hn:F.length<64)(h:∀c∈F,c.1<1000∧c.2<1000):yN σ [v]=some (.lst ((F.map cV).mergeSort vle)):=by
  unfold yN
  simp only [hl,if_true,hv]
  rw [if_pos (by rw [List.length_map]; exact hn)]
  cases F with
  | nil=>simp [zM]
  | cons c F=>
    have:zM ((c::F).map cV)=none:=rfl
    simp only [this]
    rw [if_pos (by rw [tks_cV h]; rfl)]
theorem sorted_perm{F F':List C2}(hp:F.Perm F')(h:∀c∈F',c.1<1000∧c.2<1000):(F.map cV).mergeSort vle=(F'.map cV).mergeSort vle:=by
  refine vsort_unique (n:=2) (tks_cV h) ((List.mergeSort_perm _ _).trans (hp.map _)) ?_
  exact (List.pairwise_mergeSort vle_trans vle_total (F.map cV)).imp fun h=>by simpa [vle] using h
noncomputable def fstep(P:C2→Int)(rope:Int)(s:Int × List C2)(c:C2):Int × List C2:=(max s.1 (P c),if max s.1 (P c)≤rope∧c∉s.2 then s.2++ [c] else s.2)
noncomputable def fway(P:C2→Int)(rope:Int)(F:List C2)(w:Way):List C2:=(w.reverse.foldl (fstep P rope) (0,F)).2
section
variable {σ0:List AObj}{R Cn:Nat}{P:C2→Int}{rope:Int}
theorem fstep_mem{x:C2}:∀(r:List C2) (s:Int × List C2),x∈(r.foldl (fstep P rope) s).2↔x∈s.2∨∃p q,r=p++x::q∧s.1≤rope∧∀d∈p++ [x],P d≤rope
  | [],s=>by simp
  | c::r,s=>by
    rw [List.foldl_cons,fstep_mem r]
    unfold fstep
    simp only
    constructor
    · rintro (h | ⟨p,q,rfl,h1,h2⟩)
      · split at h
        · rename_i hc
          rcases List.mem_append.mp h with h | h
          · exact .inl h
          · simp at h
            subst h
            exact .inr ⟨[],r,rfl,by omega,fun d hd=>by simp at hd; subst hd; omega⟩
        · exact .inl h
      · refine .inr ⟨c::p,q,rfl,by omega,fun d hd=>?_⟩
        rcases List.mem_cons.mp hd with rfl | hd
        · omega
        · exact h2 d hd
    · rintro (h | ⟨p,q,e,h1,h2⟩)
      · left
        split
        · exact List.mem_append_left _ h
        · exact h
      · cases p with
        | nil=>
          cases e
          left
          have hP:P x≤rope:=h2 x (by simp)
          split
          · exact List.mem_append_right _ (by simp)
          · rename_i hn
            by_cases hc:x∈s.2
            · exact hc
            · exact absurd ⟨by omega,hc⟩ hn
        | cons d p=>
          cases e
          right
          have hP:P c≤rope:=h2 c (by simp)
          exact ⟨p,q,rfl,by omega,fun d hd=>h2 d (List.mem_cons_of_mem _ hd)⟩
theorem fstep_nodup:∀(r:List C2) (s:Int × List C2),s.2.Nodup→(r.foldl (fstep P rope) s).2.Nodup
  | [],s,h=>h
  | c::r,s,h=>by
    simp only [List.foldl_cons]
    refine fstep_nodup r _ ?_
    unfold fstep
    simp only
    split
    · rename_i hc
      rw [List.nodup_append]
      exact ⟨h,by simp,fun a ha b hb e=>by simp at hb; subst hb; exact hc.2 (e▸ha)⟩
    · exact h
theorem fway_mem{x:C2}{F:List C2}{w:Way}(h0:0≤rope):x∈fway P rope F w↔x∈F∨∃a b,w=a++x::b∧∀d∈x::b,P d≤rope:=by
  unfold fway
  rw [fstep_mem]
  constructor
  · rintro (h | ⟨p,q,e,_,h2⟩)
    · exact .inl h
    · refine .inr ⟨q.reverse,p.reverse,?_,fun d hd=>h2 d ?_⟩
      · have:=congrArg List.reverse e
        simpa using this
      · simp at hd ⊢
        rcases hd with rfl | hd
        · exact .inr rfl
        · exact .inl hd
  · rintro (h | ⟨a,b,rfl,h2⟩)
    · exact .inl h
    · refine .inr ⟨b.reverse,a.reverse,by simp,h0,fun d hd=>h2 d ?_⟩
      simp at hd ⊢
      rcases hd with hd | rfl
      · exact .inr hd
      · exact .inl rfl
theorem fways_mem{x:C2}(h0:0≤rope):∀(ws:List Way) (F:List C2),x∈ws.foldl (fway P rope) F↔x∈F∨∃w∈ws,∃a b,w=a++x::b∧∀d∈x::b,P d≤rope
  | [],F=>by simp
  | w::ws,F=>by
    rw [List.foldl_cons,fways_mem h0 ws,fway_mem h0]
    constructor
    · rintro ((h | h) | ⟨w',h1,h2⟩)
      · exact .inl h
      · exact .inr ⟨w,List.mem_cons_self,h⟩
      · exact .inr ⟨w',List.mem_cons_of_mem _ h1,h2⟩
    · rintro (h | ⟨w',h1,h2⟩)
      · exact .inl (.inl h)
      · rcases List.mem_cons.mp h1 with rfl | h1
        · exact .inl (.inr h2)
        · exact .inr ⟨w',h1,h2⟩
theorem fways_nodup:∀(ws:List Way) (F:List C2),F.Nodup→(ws.foldl (fway P rope) F).Nodup
  | [],F,h=>h
  | w::ws,F,h=>by
    simp only [List.foldl_cons]
    exact fways_nodup ws _ (fstep_nodup _ _ h)
noncomputable abbrev FS(σ0:List AObj)(F:List C2):List AObj:=σ0++ [.list (F.map cV)]
theorem FS_0{F:List C2}:(FS σ0 F)[σ0.length]?=some (.list (F.map cV)):=by simp
theorem FS_set{F F':List C2}:(FS σ0 F).set σ0.length (.list (F'.map cV))=FS σ0 F':=by simp
noncomputable abbrev ρF(σ0:List AObj)(R Cn:Nat)(P:C2→Int)(W:V)(rope:Int)(way far i j:V):List V:= [W,pV R Cn P, .int rope, .loc σ0.length,way,far,i,j]
noncomputable abbrev ffB:SF:=(fSeq (fAsg (zj (zc (fVar 5) (zc (fIdx (fIdx (fVar 1) (fVar 6)) (fVar 7)) fNil)) pMax2) (tVar 5))
  (fSeq (fIfS (fAnd (fCmp .LtE (fVar 5) (fVar 2)) (fAnd (fCmp .NotIn (fTup (zc (fVar 6) (zc (fVar 7) fNil))) (fVar 3)) Zz)) (fSeq (zX (zF (fVar 3) (zc (fTup (zc (fVar 6) (zc (fVar 7) fNil))) fNil) zB)) zh) zh)
  zh))
theorem FS_in{F:List C2}{c:C2}{f:EF}{ρ:List V}(hf:f ρ (FS σ0 F)=some (cV c,FS σ0 F))(h3:ρ[3]?=some (.loc σ0.length)):fCmp .NotIn f (fVar 3) ρ (FS σ0 F)=some (!decide (c∈F),FS σ0 F):=by
  unfold fCmp
  refine rg hf ?_
  have hv:fVar 3 ρ (FS σ0 F)=some (.loc σ0.length,FS σ0 F):=by unfold fVar; refine rg h3 ?_; rfl
  have hk:yx (FS σ0 F) (.loc σ0.length)=some (.lst (F.map cV)):=by simp only [ev_v8,FS_0]
  have hp:V.pd 8 (cV c)=true∧V.pdAll 8 (F.map cV)=true:=⟨rfl,ZM cV 8 (fun _=>rfl) F⟩
  have hc:cmpIn (FS σ0 F) (cV c) (.loc σ0.length)=some (decide (c∈F)):=by
    show (match yx (FS σ0 F) (.loc σ0.length) with | some (V.lst vs)=>if V.pd 8 (cV c)=true∧V.pdAll 8 vs=true then some (vs.any fun y=>V.eqv y (cV c)) else none | _=>none)=_
    refine rg hk ?_
    simp only [if_pos hp,any_cV]
  simp only [hv,ev_c8,hc,Option.map_some]
theorem ff_step{W way i j:V}{F:List C2}{far:Int}{c:C2}(hc:inb R Cn c)(hF:F.length<5000):ffB (ρF σ0 R Cn P W rope way (.int far) (.int (c.1:Nat)) (.int (c.2:Nat))) (FS σ0 F)=some (.next,ρF σ0 R Cn P W rope way (.int (fstep P rope (far,F) c).1) (.int (c.1:Nat)) (.int (c.2:Nat)),FS σ0 (fstep P rope (far,F) c).2):=by
  have p1:=pV_idx (R:=R) (Cn:=Cn) (P:=P) (f:=fVar 1) (g:=fVar 6) (h:=fVar 7) (c:=c) (ρ:=ρF σ0 R Cn P W rope way (.int far) (.int (c.1:Nat)) (.int (c.2:Nat))) (σ:=FS σ0 F) rfl rfl rfl hc.1 hc.2
  have s1:fAsg (zj (zc (fVar 5) (zc (fIdx (fIdx (fVar 1) (fVar 6)) (fVar 7)) fNil)) pMax2) (tVar 5) (ρF σ0 R Cn P W rope way (.int far) (.int (c.1:Nat)) (.int (c.2:Nat))) (FS σ0 F)=some (.next,ρF σ0 R Cn P W rope way (.int (max far (P c))) (.int (c.1:Nat)) (.int (c.2:Nat)),FS σ0 F):=by
    refine zw (zP (v:= .int (max far (P c))) (zk (v:= .int far) rfl (zk (g:=fNil) p1 rfl)) ?_) rfl
    show some (V.int (if P c>far then P c else far))=_
    rw [imax_eq]
  have c1:=fCmp_le (f:=fVar 5) (g:=fVar 2) (x:=max far (P c)) (y:=rope) (ρ:=ρF σ0 R Cn P W rope way (.int (max far (P c))) (.int (c.1:Nat)) (.int (c.2:Nat))) (σ:=FS σ0 F) rfl rfl
  have t:fTup (zc (fVar 6) (zc (fVar 7) fNil)) (ρF σ0 R Cn P W rope way (.int (max far (P c))) (.int (c.1:Nat)) (.int (c.2:Nat))) (FS σ0 F)=some (cV c,FS σ0 F):=rfl
  have c2:=FS_in t rfl
  unfold fstep
  simp only
  by_cases h1:max far (P c)≤rope
  · rw [decide_eq_true h1] at c1
    by_cases h2:c∈F
    · rw [decide_eq_true h2] at c2
      refine rg (if_neg (fun q=>q.2 h2)) ?_
      exact zf s1 (zf ((yC (zH c1 (yq c2))).trans rfl) rfl)
    · rw [decide_eq_false h2] at c2
      refine rg (if_pos ⟨h1,h2⟩) ?_
      have ap:zX (zF (fVar 3) (zc (fTup (zc (fVar 6) (zc (fVar 7) fNil))) fNil) zB) (ρF σ0 R Cn P W rope way (.int (max far (P c))) (.int (c.1:Nat)) (.int (c.2:Nat))) (FS σ0 F)=some (.next,ρF σ0 R Cn P W rope way (.int (max far (P c))) (.int (c.1:Nat)) (.int (c.2:Nat)),FS σ0 (F++ [c])):=by
        refine yo (yK (v:= .loc σ0.length) (X:=F.map cV) rfl (by simp only [ev_v8,FS_0]) (zk (g:=fNil) t rfl) ?_)
        have hlt:(F.map cV).length<LIM:=by rw [List.length_map,zv]; lia
        have hm:F.map cV++ [cV c]=(F++ [c]).map cV:=by simp
        simp only [zB,FS_0,if_pos hlt,hm,FS_set]
      exact zf s1 (zf ((Zu (zH c1 (zH c2 rfl))).trans (zf ap rfl)) rfl)
  · rw [decide_eq_false h1] at c1
    refine rg (if_neg (fun q=>h1 q.1)) ?_
    exact zf s1 (zf ((yC (yq c1)).trans rfl) rfl)
theorem fstep_len{s:Int × List C2}{c:C2}:(fstep P rope s c).2.length≤s.2.length+1:=by
  unfold fstep
  simp only
  split <;> simp
theorem ff_for{W way:V}:∀(r:List C2) (s:Int × List C2) (i j:V),(∀c∈r,inb R Cn c)→s.2.length+r.length<5000→
    ∃i' j',forL (tTup (zL (tVar 6) (zL (tVar 7) tNil))) ffB (r.map cV) (ρF σ0 R Cn P W rope way (.int s.1) i j) (FS σ0 s.2)=some (.next,ρF σ0 R Cn P W rope way (.int (r.foldl (fstep P rope) s).1) i' j',FS σ0 (r.foldl (fstep P rope) s).2)∧(r.foldl (fstep P rope) s).2.length≤s.2.length+r.length
  | [],s,i,j,_,_=>⟨i,j,rfl,by simp⟩
  | c::r,s,i,j,hr,hl=>by
    have e:=ff_step (σ0:=σ0) (W:=W) (way:=way) (i:=i) (j:=j) (P:=P) (rope:=rope) (F:=s.2) (far:=s.1) (hr c List.mem_cons_self) (by simp at hl; lia)
    have t:tTup (zL (tVar 6) (zL (tVar 7) tNil)) (cV c) (ρF σ0 R Cn P W rope way (.int s.1) i j)=some (ρF σ0 R Cn P W rope way (.int s.1) (.int (c.1:Nat)) (.int (c.2:Nat))):=rfl
    have hf:=fstep_len (P:=P) (rope:=rope) (s:=s) (c:=c)
    refine xe22 (ff_for (W:=W) (way:=way) r (fstep P rope s c) (.int (c.1:Nat)) (.int (c.2:Nat)) (fun d hd=>hr d (List.mem_cons_of_mem _ hd)) (by simp at hl; lia)) fun i' j' e2 l2=>?_
    refine ⟨i',j',?_,by simp only [List.foldl_cons]; simp; lia⟩
    rw [List.map_cons,forL,t]
    simp only [e]
    exact e2
noncomputable abbrev foB:SF:=(fSeq (fAsg (za (.int 0)) (tVar 5)) (fSeq (fFor (fRev (fVar 4)) (tTup (zL (tVar 6) (zL (tVar 7) tNil))) ffB) zh))
theorem fo_for{W:V}:∀(ws:List Way) (F:List C2) (way far i j:V),(∀w∈ws,(∀c∈w,inb R Cn c)∧w.length≤20)→F.length+20*ws.length<5000→
    ∃way' far' i' j',forL (tVar 4) foB (ws.map wayV) (ρF σ0 R Cn P W rope way far i j) (FS σ0 F)=some (.next,ρF σ0 R Cn P W rope way' far' i' j',FS σ0 (ws.foldl (fway P rope) F))
  | [],F,way,far,i,j,_,_=>⟨way,far,i,j,rfl⟩
  | w::ws,F,way,far,i,j,hw,hl=>by
    obtain ⟨h1,h2⟩:=hw w List.mem_cons_self
    simp only [List.length_cons] at hl
    refine xe22 (ff_for (σ0:=σ0) (R:=R) (Cn:=Cn) (P:=P) (rope:=rope) (W:=W) (way:=wayV w) w.reverse (0,F) i j (fun c hc=>h1 c (by simpa using hc)) (by simp; lia)) fun i' j' e l=>?_
    have hrev:fRev (fVar 4) (ρF σ0 R Cn P W rope (wayV w) (.int 0) i j) (FS σ0 F)=some (w.reverse.map cV,FS σ0 F):=by
      show some ((w.map cV).reverse,_)=_
      refine rg List.map_reverse ?_; rfl
    have hb:foB (ρF σ0 R Cn P W rope (wayV w) far i j) (FS σ0 F)=some (.next,ρF σ0 R Cn P W rope (wayV w) (.int (w.reverse.foldl (fstep P rope) (0,F)).1) i' j',FS σ0 (fway P rope F w)):=
      zf (zw rfl rfl) (zf (fFor_of hrev e) rfl)
    obtain ⟨way',far',i2,j2,e2⟩:=fo_for (W:=W) ws (fway P rope F w) (wayV w) (.int (w.reverse.foldl (fstep P rope) (0,F)).1) i' j' (fun w' h'=>hw w' (List.mem_cons_of_mem _ h')) (by
      have:(fway P rope F w).length≤F.length+20:=by
        unfold fway
        simp only [List.length_reverse] at l
        lia
      lia)
    refine ⟨way',far',i2,j2,?_⟩
    have t:tVar 4 (wayV w) (ρF σ0 R Cn P W rope way far i j)=some (ρF σ0 R Cn P W rope (wayV w) far i j):=rfl
    rw [List.map_cons,forL,t]
    simp only [hb]
    exact e2
theorem free_eval{ws:List Way}(hw:∀w∈ws,(∀c∈w,inb R Cn c)∧w.length≤20)(hl:ws.length<200)(hR:R≤7)(hC:Cn≤7)(h0:0≤rope) :
    F__law_free [.lst (ws.map wayV),pV R Cn P, .int rope] σ0=some (.lst (((ws.foldl (fway P rope) []).map cV).mergeSort vle),σ0):=by
  refine xe41 (fo_for (σ0:=σ0) (R:=R) (Cn:=Cn) (P:=P) (rope:=rope) (W:= .lst (ws.map wayV)) ws [] .undef .undef .undef .undef hw (by simp; lia)) fun way' far' i' j' e=>?_
  have hin:∀c∈ws.foldl (fway P rope) [],inb R Cn c:=fun c hc=>by
    rcases (fways_mem h0 ws []).mp hc with h | ⟨w,hw',a,b,rfl,_⟩
    · simp at h
    · exact (hw _ hw').1 c (by simp)
  have hnd:=fways_nodup (P:=P) (rope:=rope) ws [] (by simp)
  have hlen:(ws.foldl (fway P rope) []).length<64:=by
    have h1:=nodup_len _ (grid R Cn) hnd fun c hc=>ZE.mpr (hin c hc)
    have h2:(grid R Cn).length=R*Cn:=by
      unfold grid
      have:∀(l:List Nat),(l.flatMap fun a=>(List.range Cn).map fun b=>(a,b)).length=l.length*Cn:=fun l=>by
        induction l with
        | nil=>simp
        | cons a l ih=>refine rg List.flatMap_cons ?_; refine rg List.length_append ?_; refine rg ih ?_; simp [Nat.succ_mul,Nat.add_comm]
      rw [this,List.length_range]
    have h3:R*Cn≤7*7:=Nat.mul_le_mul hR hC
    lia
  have s1:fAsg (fNew fNil) (tVar 3) [.lst (ws.map wayV),pV R Cn P, .int rope, .undef, .undef, .undef, .undef, .undef] σ0=some (.next,ρF σ0 R Cn P (.lst (ws.map wayV)) rope .undef .undef .undef .undef,FS σ0 []):=rfl
  have hit:zI (fVar 0) (ρF σ0 R Cn P (.lst (ws.map wayV)) rope .undef .undef .undef .undef) (FS σ0 [])=some (ws.map wayV,FS σ0 []):=rfl
  generalize ws.foldl (fway P rope) []=F at *
  have hs:=sorted_cV (σ:=FS σ0 F) (v:= .loc σ0.length) (F:=F) (by simp only [ev_w3,FS_0]) rfl hlen (fun c hc=>by have:=hin c hc; unfold inb at this; lia)
  have key:f__law_free [.lst (ws.map wayV),pV R Cn P, .int rope, .undef, .undef, .undef, .undef, .undef] σ0=some (.ret (.lst ((F.map cV).mergeSort vle)),ρF σ0 R Cn P (.lst (ws.map wayV)) rope way' far' i' j',FS σ0 F):=by
    skip
    exact zf s1 (zf (fFor_of hit e) (ZA (zP (vs:= [.loc σ0.length]) rfl hs)))
  refine fnG_ret (vs:= [.lst (ws.map wayV),pV R Cn P, .int rope]) key (V.nls_iff.mpr fun v hv=>?_)
  have:=(List.mergeSort_perm (F.map cV) vle).mem_iff.mp hv
  obtain ⟨c,_,rfl⟩:=List.mem_map.mp this
  rfl
end
end Mi
namespace Mi
inductive Reach (R Cn:Nat) (B:C2→Bool) (e:C2):C2→Prop
  | last:B e=true→Reach R Cn B e e
  | step {c s:C2}:B c=true→inb R Cn c→s∈yV c→inb R Cn s→Reach R Cn B e s→Reach R Cn B e c
structure BInv(R Cn:Nat)(B:C2→Bool)(e:C2)(Q S N:List C2):Prop where
  nd:S.Nodup
  inb:∀c∈Q++S,inb R Cn c
  neq:N=S.filter B
  start:e∈Q++S
  why:∀c∈Q++S,c=e∨∃s∈N,s∈yV c
  clo:∀s∈N,∀c,Mi.inb R Cn c→s∈yV c→c∈Q++S
noncomputable def predL(c:C2):List C2:=(if 0<c.1 then [(c.1-1,c.2)] else [])++((if 0<c.2 then [(c.1,c.2-1)] else [])++(if 0<c.1∧0<c.2 then [(c.1-1,c.2-1)] else []))
theorem predL_mem{c q:C2}:q∈predL c↔c∈yV q:=by
  obtain ⟨a,b⟩:=c
  obtain ⟨x,y⟩:=q
  unfold predL yV
  simp only [List.mem_append,List.mem_cons,List.not_mem_nil,or_false,Prod.mk.injEq]
  constructor
  · rintro (h | h | h)
    · split at h
      · simp at h; grind
      · simp at h
    · split at h
      · simp at h; lia
      · simp at h
    · split at h
      · simp at h; lia
      · simp at h
  · rintro (h | h | h)
    · left
      refine rg (if_pos (by lia)) ?_
      simp; lia
    · right; left
      refine rg (if_pos (by lia)) ?_
      simp; lia
    · right; right
      refine rg (if_pos (by lia)) ?_
      simp; lia
section
variable {R Cn:Nat}{B:C2→Bool}{e c:C2}{Q S N:List C2}
theorem BInv.skip(I:BInv R Cn B e (c::Q) S N)(h:c∈S):BInv R Cn B e Q S N:=by
  have sub:∀d,d∈(c::Q)++S→d∈Q++S:=fun d hd=>by
    rcases List.mem_append.mp hd with q | q
    · rcases List.mem_cons.mp q with rfl | q
      · exact List.mem_append_right _ h
      · exact List.mem_append_left _ q
    · exact List.mem_append_right _ q
  have sup:∀d,d∈Q++S→d∈(c::Q)++S:=fun d hd=>List.mem_cons_of_mem _ hd
  exact ⟨I.nd,fun d hd=>I.inb d (sup d hd),I.neq,sub _ I.start,fun d hd=>I.why d (sup d hd),fun s hs d h1 h2=>sub _ (I.clo s hs d h1 h2)⟩
theorem BInv.far(I:BInv R Cn B e (c::Q) S N)(h:c∉S)(hb:B c=false):BInv R Cn B e Q (S++ [c]) N:=by
  have sub:∀d,d∈(c::Q)++S→d∈Q++(S++ [c]):=fun d hd=>by
    rcases List.mem_append.mp hd with q | q
    · rcases List.mem_cons.mp q with rfl | q
      · exact List.mem_append_right _ (List.mem_append_right _ (by simp))
      · exact List.mem_append_left _ q
    · exact List.mem_append_right _ (List.mem_append_left _ q)
  have sup:∀d,d∈Q++(S++ [c])→d∈(c::Q)++S:=fun d hd=>by
    rcases List.mem_append.mp hd with q | q
    · exact List.mem_cons_of_mem _ (List.mem_append_left _ q)
    · rcases List.mem_append.mp q with q | q
      · exact List.mem_append_right _ q
      · simp at q
        subst q; exact List.mem_cons_self
  refine ⟨?_,fun d hd=>I.inb d (sup d hd),?_,sub _ I.start,fun d hd=>I.why d (sup d hd),fun s hs d h1 h2=>sub _ (I.clo s hs d h1 h2)⟩
  · rw [List.nodup_append]
    exact ⟨I.nd,by simp,fun a ha b hb e=>by simp at hb; subst hb; exact h (e▸ha)⟩
  · rw [List.filter_append,←I.neq]
    simp [hb]
theorem BInv.near(I:BInv R Cn B e (c::Q) S N)(h:c∉S)(hb:B c=true):BInv R Cn B e (Q++predL c) (S++ [c]) (N++ [c]):=by
  have hcb:=I.inb c (by simp)
  have sub:∀d,d∈(c::Q)++S→d∈(Q++predL c)++(S++ [c]):=fun d hd=>by
    rcases List.mem_append.mp hd with q | q
    · rcases List.mem_cons.mp q with rfl | q
      · exact List.mem_append_right _ (List.mem_append_right _ (by simp))
      · exact List.mem_append_left _ (List.mem_append_left _ q)
    · exact List.mem_append_right _ (List.mem_append_left _ q)
  have sup:∀d,d∈(Q++predL c)++(S++ [c])→d∈(c::Q)++S∨d∈predL c:=fun d hd=>by
    rcases List.mem_append.mp hd with q | q
    · rcases List.mem_append.mp q with q | q
      · exact .inl (List.mem_cons_of_mem _ (List.mem_append_left _ q))
      · exact .inr q
    · rcases List.mem_append.mp q with q | q
      · exact .inl (List.mem_append_right _ q)
      · simp at q
        subst q; exact .inl List.mem_cons_self
  refine ⟨?_,fun d hd=>?_,?_,sub _ I.start,fun d hd=>?_,fun s hs d h1 h2=>?_⟩
  · rw [List.nodup_append]
    exact ⟨I.nd,by simp,fun a ha b hb e=>by simp at hb; subst hb; exact h (e▸ha)⟩
  · rcases sup d hd with q | q
    · exact I.inb d q
    · have:=predL_mem.mp q
      unfold yV at this
      unfold Mi.inb at hcb ⊢
      simp at this
      rcases this with rfl | rfl | rfl <;> simp at hcb ⊢ <;> omega
  · rw [List.filter_append,←I.neq]
    simp [hb]
  · rcases sup d hd with q | q
    · rcases I.why d q with h1 | ⟨s,h1,h2⟩
      · exact .inl h1
      · exact .inr ⟨s,List.mem_append_left _ h1,h2⟩
    · exact .inr ⟨c,by simp,predL_mem.mp q⟩
  · rcases List.mem_append.mp hs with q | q
    · exact sub _ (I.clo s q d h1 h2)
    · simp at q
      subst q
      exact List.mem_append_left _ (List.mem_append_right _ (predL_mem.mpr h2))
theorem BInv.reach(I:BInv R Cn B e [] S N):∀c,c∈N↔Reach R Cn B e c:=by
  have hN:∀c,c∈N↔c∈S∧B c=true:=fun c=>by rw [I.neq,List.mem_filter]
  have fwd:∀(n:Nat) (c:C2),R+Cn-(c.1+c.2)≤n→c∈N→Reach R Cn B e c:=by
    intro n
    induction n with
    | zero=>
      intro c hn hc
      have:=I.inb c (by simpa using ((hN c).mp hc).1)
      unfold Mi.inb at this
      omega
    | succ n ih=>
      intro c hn hc
      obtain ⟨h1,h2⟩:=(hN c).mp hc
      have hb:=I.inb c (by simpa using h1)
      rcases I.why c (by simpa using h1) with rfl | ⟨s,h3,h4⟩
      · exact .last h2
      · have:=succ_sum h4
        have hb2:=hb
        unfold Mi.inb at hb2
        exact .step h2 hb h4 (I.inb s (by simpa using ((hN s).mp h3).1)) (ih s (by omega) h3)
  intro c
  refine ⟨fwd _ c (Nat.le_refl _),fun h=>?_⟩
  induction h with
  | last hb=>exact (hN _).mpr ⟨by simpa using I.start,hb⟩
  | step hb hc hs _ _ ih=>exact (hN _).mpr ⟨by simpa using I.clo _ ih _ hc hs,hb⟩
end
section
variable {R Cn:Nat}{run:List Way}{B:C2→Bool}
theorem run_prefix(K:RunOk R Cn run):∀(n:Nat) (a b:Way),b.length≤n→a≠ []→a++b∈run→a∈run:=by
  intro n
  induction n with
  | zero=>
    intro a b hb _ h
    have:b= []:=List.eq_nil_of_length_eq_zero (by lia)
    subst this
    simpa using h
  | succ n ih=>
    intro a b hb ha h
    by_cases hb0:b= []
    · subst hb0; simpa using h
    · have hd:(a++b).dropLast=a++b.dropLast:=List.dropLast_append_of_ne_nil hb0
      rcases K.c1 _ h with q | ⟨q,_⟩
      · exfalso
        have:=congrArg List.length q
        have h1:0<a.length:=List.length_pos_iff.mpr ha
        have h2:0<b.length:=List.length_pos_iff.mpr hb0
        simp at this
        lia
      · rw [hd] at q
        exact ih a b.dropLast (by simp; omega) ha q
theorem run_chain(K:RunOk R Cn run){a b:Way}{x y:C2}(h:a++x::y::b∈run):y∈yV x:=by
  have h1:(a++ [x,y])++b∈run:=by simpa using h
  have h2:=run_prefix K _ (a++ [x,y]) b (Nat.le_refl _) (by simp) h1
  have h3:a++ [x,y]=(a++ [x])++ [y]:=by simp
  rw [h3] at h2
  rcases K.c1 _ h2 with q | ⟨_,q⟩
  · have:=congrArg List.length q
    simp at this
  · rw [List.dropLast_concat,lastc_app,lastc_app] at q
    exact q
theorem free_reach(K:RunOk R Cn run)(hR:0<R)(hC:0<Cn){c:C2}:(∃w∈run.filter (isEnd R Cn),∃a b,w=a++c::b∧∀d∈c::b,B d=true)↔Reach R Cn B (R-1,Cn-1) c:=by
  constructor
  · rintro ⟨w,hw,a,b,e,hB⟩
    obtain ⟨h1,h2⟩:=List.mem_filter.mp hw
    have hend:zz w=(R-1,Cn-1):=by
      unfold isEnd at h2
      simp at h2
      have:zz w=((zz w).1,(zz w).2):=rfl
      rw [this,Prod.mk.injEq]
      grind
    clear hw h2
    induction b generalizing a c with
    | nil=>
      have:c=(R-1,Cn-1):=by refine rl hend ?_; refine rg e ?_; refine rg lastc_app ?_; rfl
      subst this
      exact .last (hB _ (by simp))
    | cons y b ih=>
      have hs:=run_chain K (a:=a) (b:=b) (x:=c) (y:=y) (e▸h1)
      have hb:=(K.c4 w h1).2
      exact .step (hB c (by simp)) (hb c (by refine rg e ?_; simp)) hs (hb y (by refine rg e ?_; simp)) (ih (a:=a++ [c]) (c:=y) (by refine rg e ?_; simp) (fun d hd=>hB d (List.mem_cons_of_mem _ hd)))
  · intro h
    have key:∀c,Reach R Cn B (R-1,Cn-1) c→B c=true∧inb R Cn c∧∀w∈run,zz w=c→∃b,w++b∈run.filter (isEnd R Cn)∧∀d∈b,B d=true:=by
      intro c h
      induction h with
      | last hb=>
        refine ⟨hb,⟨by simp; omega,by simp; omega⟩,fun w hw e=>⟨[],?_,by simp⟩⟩
        simp only [List.append_nil]
        refine List.mem_filter.mpr ⟨hw,?_⟩
        unfold isEnd
        refine rg e ?_
        simp
        lia
      | step hb hc hs hsb _ ih=>
        refine ⟨hb,hc,fun w hw e=>?_⟩
        rename_i c s _
        have hx:w++ [s]∈exts R Cn w:=List.mem_map.mpr ⟨s,List.mem_filter.mpr ⟨e▸hs,by simpa [inbB,inb] using hsb⟩,rfl⟩
        refine xe12 (ih.2.2 (w++ [s]) (K.c2 w hw _ hx) lastc_app) fun b h1 h2=>?_
        refine ⟨s::b,by simpa using h1,fun d hd=>?_⟩
        rcases List.mem_cons.mp hd with rfl | hd
        · exact ih.1
        · exact h2 d hd
    refine xe03 (key c h) fun hb hc hk=>?_
    refine xe12 (K.c3 c hc) fun w hw e=>?_
    refine xe12 (hk w hw e) fun b h1 h2=>?_
    have hne:=(K.c4 w hw).1
    have hsplit:w=w.dropLast++ [c]:=by
      have h1:=List.dropLast_concat_getLast hne
      have h2:w.getLast hne=c:=by
        have h3:zz w=w.getLast hne:=by
          unfold zz
          refine rg (List.getLast?_eq_some_getLast hne) ?_
          rfl
        refine rl h3 ?_; refine rg e ?_; rfl
      rw [h2] at h1
      exact h1.symm
    refine ⟨w++b,h1,w.dropLast,b,?_,fun d hd=>?_⟩
    · conv=>lhs; rw [hsplit]
      simp
    · rcases List.mem_cons.mp hd with rfl | hd
      · exact hb
      · exact h2 d hd
end
end Mi
namespace Mi
noncomputable def tokV(c:C2):V:= .str [48+c.1,48+c.2]
theorem tokV_eqv(c d:C2):V.eqv (tokV c) (tokV d)=decide (c=d):=by
  unfold tokV
  rw [eqvS]
  obtain ⟨a,b⟩:=c
  obtain ⟨a',b'⟩:=d
  by_cases h:(a,b)=(a',b')
  · refine pe2 h ?_; simp
  · rw [decide_eq_false h,decide_eq_false]
    intro q
    apply h
    simp at q
    simp only [Prod.mk.injEq]
    exact q
theorem any_tokV(S:List C2)(c:C2):((S.map tokV).any fun y=>V.eqv y (tokV c))=decide (c∈S):=by
  induction S with
  | nil=>rfl
  | cons d S ih=>
    simp only [List.map_cons,List.any_cons,ih,tokV_eqv]
    by_cases h:d=c
    · subst h; simp
    · have:c≠d:=Ne.symm h
      simp [h,this]
theorem toks_nl(S:List C2):V.nls (S.map tokV)=true:=V.nls_iff.mpr fun v hv=>by
  obtain ⟨x,_,rfl⟩:=List.mem_map.mp hv
  rfl
section
variable {text:List Nat}{p n:Nat}{τ:List AObj}
theorem kept0{pb pb':List V}{rest:List AObj}(h:V.nls pb'=true):ZZ (.list pb::rest) (.list pb'::rest):=fun l o hl e=>by
  match l,hl,e with
  | 0,_,e=>
    right
    simp at e
    subst e
    exact V.blws_nl h
  | l+1,hl,e=>exact .inl e
theorem push_tok{pb:List V}{t:List Nat}(hp:V.nls (pb++ [.str t])=true)(hl:pb.length<5000):yB [.cst 0, .str t] (LS3 pb n p τ)=some (.none,LS3 (pb++ [.str t]) n p τ):=by
  have ha:yO (fVar 0) "pushback" [.cst 0, .str t] (LS3 pb n p τ)=some (.loc 0,LS3 pb n p τ):=rfl
  have key:Zt [.cst 0, .str t] (LS3 pb n p τ)=some (.next, [.cst 0, .str t],LS3 (pb++ [.str t]) n p τ):=by
    skip
    refine zf (yo (yK (X:=pb) ha rfl (zk (g:=fNil) (v:= .str t) rfl rfl) ?_)) rfl
    have hlt:pb.length<LIM:=by simp only [zv]; lia
    show (if pb.length<LIM then some (V.none,_) else none)=_
    refine rg (if_pos hlt) ?_
    rfl
  show fnG 2 2 Zt _ _=_
  unfold fnG fnF
  have hlen:([V.cst 0, .str t]:List V).length=2:=rfl
  refine rg (if_pos hlen) ?_
  have key':Zt ([V.cst 0, .str t]++List.replicate (2-([V.cst 0, .str t]:List V).length) .undef) (LS3 pb n p τ)=_:=key
  refine rg key' ?_
  simp only
  refine rg (finF_nl (kept0 hp) rfl) ?_; refine rg (List.take_of_length_le (by simp)) rfl
theorem get_back{pb:List V}{t:List Nat}(hp:V.nls pb=true):zp text [.cst 0] (LS3 (.str t::pb) n p τ)=some (.str t,LS3 pb n p τ):=by
  have key:z4 text [.cst 0, .undef, .undef, .undef] (LS3 (.str t::pb) n p τ)=some (.ret (.str t), [.cst 0, .undef, .undef, .undef],LS3 pb n p τ):=by
    simp only [get_token_form]
    refine ZF ?_
    have t0:yr (yO (fVar 0) "pushback") [.cst 0, .undef, .undef, .undef] (LS3 (.str t::pb) n p τ)=some (true,LS3 (.str t::pb) n p τ):=rfl
    have ha:yO (fVar 0) "pushback" [.cst 0, .undef, .undef, .undef] (LS3 (.str t::pb) n p τ)=some (.loc 0,LS3 (.str t::pb) n p τ):=rfl
    exact (Zu t0).trans (ZA (yK (X:= .str t::pb) ha rfl (zk (g:=fNil) (v:= .int 0) rfl rfl) rfl))
  show fnG 4 1 (z4 text) _ _=_
  unfold fnG fnF
  have hlen:([V.cst 0]:List V).length=1:=rfl
  refine rg (if_pos hlen) ?_
  have key':z4 text ([V.cst 0]++List.replicate (4-([V.cst 0]:List V).length) .undef) (LS3 (.str t::pb) n p τ)=_:=key
  refine rg key' ?_
  simp only
  refine rg (finF_nl (kept0 hp) rfl) ?_; refine rg (List.take_of_length_le (by simp)) rfl
theorem get_none(h:At text p []):zp text [.cst 0] (LS3 [] n p τ)=some (.str [],LS3 [] n p τ):=by
  refine xe12 (get_end (n:=n) (τ:=τ) [] (by simp) h) fun p' e h'=>?_
  have:p'=p:=by
    have h1:=h.2
    have h2:=h'.2
    simp at h1 h2
    lia
  subst this
  exact e
theorem imeth_any{name:Str}{F:List V→List AObj→Option (V × List AObj)}{g:EsF}{ρ vs:List V}{pb:List V}{r:Option (V × List AObj)}(hn:(nsL n).lookup name=none)(h0:ρ[0]?=some (.cst 0))(hg:g ρ (LS3 pb n p τ)=some (vs,LS3 pb n p τ))(hF:F (.cst 0::vs) (LS3 pb n p τ)=r):z7 name (fVar 0) g F ρ (LS3 pb n p τ)=r:=by
  have h1:fVar 0 ρ (LS3 pb n p τ)=some (.cst 0,LS3 pb n p τ):=by unfold fVar; refine rg h0 ?_; rfl
  have h2:(LS3 pb n p τ)[1]?=some (.ns (nsL n)):=rfl
  unfold z7
  refine rg h1 ?_
  simp only [h2,hn,hg,hF]
theorem no_push:(nsL n).lookup ("push_token":Str)=none:=by kernel_rfl
theorem no_get:(nsL n).lookup ("get_token":Str)=none:=by kernel_rfl
end
section
variable {text:List Nat}{p:Nat}{us vs:List (List Nat)}{rope:Int}
noncomputable abbrev QS(p:Nat)(Q S N:List C2):List AObj:=LS3 (Q.map tokV) 2 p [.list (S.map tokV), .list (N.map cV)]
noncomputable abbrev ρP(us vs:List (List Nat))(rope:Int)(tok i j a b:V):List V:= [.cst 0, .lst (us.map .str), .lst (vs.map .str), .int rope, .loc 3, .loc 4,tok,i,j,a,b]
noncomputable abbrev rpPush:SF:=(fSeq (fIfS (fAnd (fCmp .GtE (fVar 9) (za (.int 0))) (fAnd (fCmp .GtE (fVar 10) (za (.int 0))) Zz)) (fSeq (zX (z7 "push_token" (fVar 0) (zc (fBin (opOf .Add) (zj (zc (fVar 9) fNil) pStr) (zj (zc (fVar 10) fNil) pStr)) fNil) yB)) zh) zh) zh)
theorem fCmp_ge{f g:EF}{x y:Int}{ρ:List V}{σ:List AObj}(hf:f ρ σ=some (.int x,σ))(hg:g ρ σ=some (.int y,σ)):fCmp .GtE f g ρ σ=some (decide (y≤x),σ):=by
  unfold fCmp
  refine rg hf ?_
  simp only [hg,ev_c6,Option.map_some]
theorem str_digit2{f:EF}{a:Nat}{ρ:List V}{σ:List AObj}(hf:f ρ σ=some (.int (a:Nat),σ))(ha:a<10):zj (zc f fNil) pStr ρ σ=some (.str [48+a],σ):=by
  refine zP (zk (g:=fNil) hf rfl) ?_
  unfold pStr
  simp only
  rw [if_pos (by lia),Int.toNat_natCast]
theorem opAdd_str{x y:List Nat}(h:x.length+y.length≤100):opOf .Add (.str x) (.str y)=some (.str (x++y)):=by
  show opAdd (.str x) (.str y)=_
  simp only [ev_a2]
  rw [if_pos (by rw [zv]; lia)]
noncomputable def nonneg(t:Int × Int):Option C2:=if 0≤t.1∧0≤t.2 then some (t.1.toNat,t.2.toNat) else none
theorem rp_one{t:Int × Int}{Q S N:List C2}{tok i j:V}(h1:t.1<10)(h2:t.2<10)(hl:Q.length<5000):rpPush (ρP us vs rope tok i j (.int t.1) (.int t.2)) (QS p Q S N)=some (.next,ρP us vs rope tok i j (.int t.1) (.int t.2),QS p (Q++(nonneg t).toList) S N):=by
  have c1:=fCmp_ge (f:=fVar 9) (g:=za (.int 0)) (x:=t.1) (y:=0) (ρ:=ρP us vs rope tok i j (.int t.1) (.int t.2)) (σ:=QS p Q S N) rfl rfl
  have c2:=fCmp_ge (f:=fVar 10) (g:=za (.int 0)) (x:=t.2) (y:=0) (ρ:=ρP us vs rope tok i j (.int t.1) (.int t.2)) (σ:=QS p Q S N) rfl rfl
  unfold nonneg
  by_cases g1:0≤t.1
  · rw [decide_eq_true g1] at c1
    by_cases g2:0≤t.2
    · rw [decide_eq_true g2] at c2
      refine rg (if_pos ⟨g1,g2⟩) ?_
      have e1:t.1=((t.1.toNat:Nat):Int):=by lia
      have e2:t.2=((t.2.toNat:Nat):Int):=by lia
      have d1:=str_digit2 (f:=fVar 9) (a:=t.1.toNat) (ρ:=ρP us vs rope tok i j (.int t.1) (.int t.2)) (σ:=QS p Q S N) (by refine rl e1 ?_; rfl) (by lia)
      have d2:=str_digit2 (f:=fVar 10) (a:=t.2.toNat) (ρ:=ρP us vs rope tok i j (.int t.1) (.int t.2)) (σ:=QS p Q S N) (by refine rl e2 ?_; rfl) (by lia)
      have ad:=zJ (op:=opOf .Add) d1 d2 (opAdd_str (by simp))
      have hm:Q.map tokV++ [.str ([48+t.1.toNat]++ [48+t.2.toNat])]=(Q++ [(t.1.toNat,t.2.toNat)]).map tokV:=by simp [tokV]
      have pt:=push_tok (n:=2) (p:=p) (τ:= [.list (S.map tokV), .list (N.map cV)]) (pb:=Q.map tokV) (t:= [48+t.1.toNat]++ [48+t.2.toNat]) (by refine rg hm ?_; exact toks_nl _) (by rw [List.length_map]; exact hl)
      rw [hm] at pt
      have ex:zX (z7 "push_token" (fVar 0) (zc (fBin (opOf .Add) (zj (zc (fVar 9) fNil) pStr) (zj (zc (fVar 10) fNil) pStr)) fNil) yB) (ρP us vs rope tok i j (.int t.1) (.int t.2)) (QS p Q S N)=some (.next,ρP us vs rope tok i j (.int t.1) (.int t.2),QS p (Q++ [(t.1.toNat,t.2.toNat)]) S N):=
        yo (imeth_any no_push rfl (zk (g:=fNil) ad rfl) pt)
      exact zf ((Zu (zH c1 (zH c2 rfl))).trans (zf ex rfl)) rfl
    · rw [decide_eq_false g2] at c2
      refine rg (if_neg (fun q=>g2 q.2)) ?_
      simp only [Option.toList_none,List.append_nil]
      exact zf ((yC (zH c1 (yq c2))).trans rfl) rfl
  · rw [decide_eq_false g1] at c1
    refine rg (if_neg (fun q=>g1 q.1)) ?_
    simp only [Option.toList_none,List.append_nil]
    exact zf ((yC (yq c1)).trans rfl) rfl
theorem rp_for{S N:List C2}{tok i j:V}:∀(ts:List (Int × Int)) (Q:List C2) (a b:V),(∀t∈ts,t.1<10∧t.2<10)→Q.length+ts.length<5000→
    ∃a' b',forL (tTup (zL (tVar 9) (zL (tVar 10) tNil))) rpPush (ts.map fun t=> .tup [.int t.1, .int t.2]) (ρP us vs rope tok i j a b) (QS p Q S N)=some (.next,ρP us vs rope tok i j a' b',QS p (Q++ts.filterMap nonneg) S N)
  | [],Q,a,b,_,_=>⟨a,b,by simp [forL]⟩
  | t::ts,Q,a,b,ht,hl=>by
    simp only [List.length_cons] at hl
    have e:=rp_one (us:=us) (vs:=vs) (rope:=rope) (p:=p) (Q:=Q) (S:=S) (N:=N) (tok:=tok) (i:=i) (j:=j) (ht t List.mem_cons_self).1 (ht t List.mem_cons_self).2 (by lia)
    have hb:(nonneg t).toList.length≤1:=by cases nonneg t <;> simp
    refine xe21 (rp_for (S:=S) (N:=N) (tok:=tok) (i:=i) (j:=j) ts (Q++(nonneg t).toList) (.int t.1) (.int t.2) (fun x hx=>ht x (List.mem_cons_of_mem _ hx)) (by simp; lia)) fun a' b' e2=>?_
    refine ⟨a',b',?_⟩
    have tt:tTup (zL (tVar 9) (zL (tVar 10) tNil)) (.tup [.int t.1, .int t.2]) (ρP us vs rope tok i j a b)=some (ρP us vs rope tok i j (.int t.1) (.int t.2)):=rfl
    rw [List.map_cons,forL,tt]
    simp only [e,e2,List.filterMap_cons]
    cases hn:nonneg t <;> simp
noncomputable def pred3(c:C2):List (Int × Int):= [((c.1:Int)-1,(c.2:Int)),((c.1:Int),(c.2:Int)-1),((c.1:Int)-1,(c.2:Int)-1)]
theorem pred3_eq(c:C2):(pred3 c).filterMap nonneg=predL c:=by
  obtain ⟨a,b⟩:=c
  unfold pred3 predL nonneg
  by_cases h1:0<a <;> by_cases h2:0<b
  · have e1:((a:Int)-1).toNat=a-1:=by simp
    have e2:((b:Int)-1).toNat=b-1:=by simp
    dsimp only [List.filterMap_cons,List.filterMap_nil]
    refine rg (if_pos (by lia)) ?_; refine rg (if_pos (by lia)) ?_; refine rg (if_pos (by lia)) ?_; refine rg (if_pos h1) ?_; refine rg (if_pos h2) ?_; refine rg (if_pos ⟨h1,h2⟩) ?_
    simp [e1,e2]
  · have hb:b=0:=by lia
    subst hb
    have e1:((a:Int)-1).toNat=a-1:=by simp
    dsimp only [List.filterMap_cons,List.filterMap_nil]
    refine rg (if_pos (by lia)) ?_; refine rg (if_neg (by simp)) ?_; refine rg (if_neg (by simp)) ?_; refine rg (if_pos h1) ?_; refine rg (if_neg h2) ?_; refine rg (if_neg (fun q=>h2 q.2)) ?_
    simp [e1]
  · have ha:a=0:=by lia
    subst ha
    have e2:((b:Int)-1).toNat=b-1:=by simp
    dsimp only [List.filterMap_cons,List.filterMap_nil]
    rw [if_neg (by simp),if_pos (by lia),if_neg (by simp),if_neg h1,if_pos h2,if_neg (fun q=>h1 q.1)]
    simp [e2]
  · have ha:a=0:=by lia
    have hb:b=0:=by lia
    subst ha
    subst hb
    rfl
end
end Mi
namespace Mi
section
variable {text:List Nat}{p:Nat}{us vs:List (List Nat)}{rope:Int}
noncomputable abbrev rpC:BF:=fCmp .NotEq (fVar 6) (za (.str []))
noncomputable abbrev rpNear:SF:=(fSeq (zX (zF (fVar 5) (zc (fTup (zc (fVar 7) (zc (fVar 8) fNil))) fNil) zB))
  (fSeq (fFor (zI (fLst (zc (fTup (zc (fBin (opOf .Sub) (fVar 7) (za (.int 1))) (zc (fVar 8) fNil))) (zc (fTup (zc (fVar 7) (zc (fBin (opOf .Sub) (fVar 8) (za (.int 1))) fNil))) (zc (fTup (zc (fBin (opOf .Sub) (fVar 7) (za (.int 1))) (zc (fBin (opOf .Sub) (fVar 8) (za (.int 1))) fNil))) fNil))))) (tTup (zL (tVar 9) (zL (tVar 10) tNil))) rpPush)
  zh))
noncomputable abbrev rpIf:SF:=(fIfS (fCmp .NotIn (fVar 6) (fVar 4)) (fSeq (zX (zF (fVar 4) (zc (fVar 6) fNil) zB))
  (fSeq (fIfS (fCmp .LtE (zy (zc (fIdx (fVar 1) (fVar 7)) (zc (fIdx (fVar 2) (fVar 8)) (zc (fVar 3) fNil))) zm) (fVar 3)) rpNear zh)
  zh)) zh)
noncomputable abbrev rpB(text:List Nat):SF:=(fSeq (fAsg (zj (zc (fIdx (fVar 6) (za (.int 0))) fNil) pInt) (tVar 7))
  (fSeq (fAsg (zj (zc (fIdx (fVar 6) (za (.int 1))) fNil) pInt) (tVar 8))
  (fSeq rpIf
  (fSeq (fAsg (z7 "get_token" (fVar 0) fNil (zp text)) (tVar 6))
  zh))))
theorem int_ev{c:Nat}{σ:List AObj}(h:48≤c∧c<58):pInt σ [.str [c]]=some (.int (c-48:Nat)):=if_pos h
theorem int_digit2{c:C2}{i j a b:V}{σ:List AObj}(h:c.1<10∧c.2<10) :
    fAsg (zj (zc (fIdx (fVar 6) (za (.int 0))) fNil) pInt) (tVar 7) (ρP us vs rope (tokV c) i j a b) σ=some (.next,ρP us vs rope (tokV c) (.int (c.1:Nat)) j a b,σ) ∧
    fAsg (zj (zc (fIdx (fVar 6) (za (.int 1))) fNil) pInt) (tVar 8) (ρP us vs rope (tokV c) (.int (c.1:Nat)) j a b) σ=some (.next,ρP us vs rope (tokV c) (.int (c.1:Nat)) (.int (c.2:Nat)) a b,σ):=by
  have d:∀x:Nat,x<10→pInt σ [.str [48+x]]=some (.int (x:Nat)):=fun x hx=>by
    refine rg (int_ev (by lia)) ?_
    have:48+x-48=x:=by simp
    refine rg this ?_; rfl
  refine ⟨zw (zP (vs:= [.str [48+c.1]]) (zk (g:=fNil) (yj (a:=tokV c) (b:= .int 0) rfl rfl rfl) rfl) (d _ h.1)) rfl,zw (zP (vs:= [.str [48+c.2]]) (zk (g:=fNil) (yj (a:=tokV c) (b:= .int 1) rfl rfl rfl) rfl) (d _ h.2)) rfl⟩
theorem rp_in{Q S N:List C2}{c:C2}{i j a b:V}:fCmp .NotIn (fVar 6) (fVar 4) (ρP us vs rope (tokV c) i j a b) (QS p Q S N)=some (!decide (c∈S),QS p Q S N):=by
  unfold fCmp
  have hf:fVar 6 (ρP us vs rope (tokV c) i j a b) (QS p Q S N)=some (tokV c,QS p Q S N):=rfl
  have hv:fVar 4 (ρP us vs rope (tokV c) i j a b) (QS p Q S N)=some (.loc 3,QS p Q S N):=rfl
  refine rg hf ?_
  have hp:V.pd 8 (tokV c)=true∧V.pdAll 8 (S.map tokV)=true:=⟨rfl,ZM tokV 8 (fun _=>rfl) S⟩
  have hc:cmpIn (QS p Q S N) (tokV c) (.loc 3)=some (decide (c∈S)):=by
    show (if V.pd 8 (tokV c)=true∧V.pdAll 8 (S.map tokV)=true then some ((S.map tokV).any fun y=>V.eqv y (tokV c)) else none)=_
    rw [if_pos hp,any_tokV]
  simp only [hv,ev_c8,hc,Option.map_some]
theorem lev_call2{ρ:List V}{σ:List AObj}{i j:Nat}{f1 f2 f3:EF}{cap:Int}(hu:WsOk us)(hv:WsOk vs)(hi:i<us.length)(hj:j<vs.length)(h0:ρ[1]?=some (.lst (us.map .str)))(h1:ρ[2]?=some (.lst (vs.map .str)))
    (e1:f1 ρ σ=some (.int i,σ)) (e2:f2 ρ σ=some (.int j,σ)) (e3:f3 ρ σ=some (.int cap,σ)) :
    zy (zc (fIdx (fVar 1) f1) (zc (fIdx (fVar 2) f2) (zc f3 fNil))) zm ρ σ=some (.int (pOf us vs cap (i,j)),σ):=by
  have v0:fVar 1 ρ σ=some (.lst (us.map .str),σ):=by unfold fVar; refine rg h0 ?_; rfl
  have v1:fVar 2 ρ σ=some (.lst (vs.map .str),σ):=by unfold fVar; refine rg h1 ?_; rfl
  have i0:=yj v0 e1 (idx_map (σ:=σ) V.str us i [] hi)
  have i1:=yj v1 e2 (idx_map (σ:=σ) V.str vs j [] hj)
  exact zZ (zk i0 (zk i1 (zk (g:=fNil) e3 rfl))) (lev_eval (hu.get hi).1 (hv.get hj).1 (hu.get hi).2 (hv.get hj).2)
noncomputable def Bf(us vs:List (List Nat))(rope:Int)(c:C2):Bool:=decide (pOf us vs rope c≤rope)
theorem predL_len(c:C2):(predL c).length≤3:=by
  rw [←pred3_eq]
  exact Nat.le_trans (List.length_filterMap_le _ _) (by simp [pred3])
theorem rp_if{e c:C2}{Q S N:List C2}{a b:V}(hu:WsOk us)(hv:WsOk vs)(hR:us.length≤10)(hC:vs.length≤10)(I:BInv us.length vs.length (Bf us vs rope) e (c::Q) S N)(hS:S.length≤100)(hQ:Q.length<1000) :
    ∃a' b' Q1 S1 N1,rpIf (ρP us vs rope (tokV c) (.int (c.1:Nat)) (.int (c.2:Nat)) a b) (QS p Q S N)=some (.next,ρP us vs rope (tokV c) (.int (c.1:Nat)) (.int (c.2:Nat)) a' b',QS p Q1 S1 N1)∧BInv us.length vs.length (Bf us vs rope) e Q1 S1 N1∧4*(101-S1.length)+Q1.length≤4*(101-S.length)+Q.length:=by
  have hin:=rp_in (us:=us) (vs:=vs) (rope:=rope) (p:=p) (Q:=Q) (S:=S) (N:=N) (c:=c) (i:= .int (c.1:Nat)) (j:= .int (c.2:Nat)) (a:=a) (b:=b)
  have hcb:=I.inb c (by simp)
  have hN:N.length≤S.length:=by refine rg I.neq ?_; exact List.length_filter_le _ _
  by_cases h:c∈S
  · rw [decide_eq_true h] at hin
    exact ⟨a,b,Q,S,N,(yC hin).trans rfl,I.skip h,Nat.le_refl _⟩
  · rw [decide_eq_false h] at hin
    have s1:zX (zF (fVar 4) (zc (fVar 6) fNil) zB) (ρP us vs rope (tokV c) (.int (c.1:Nat)) (.int (c.2:Nat)) a b) (QS p Q S N)=some (.next,ρP us vs rope (tokV c) (.int (c.1:Nat)) (.int (c.2:Nat)) a b,QS p Q (S++ [c]) N):=by
      refine yo (yK (v:= .loc 3) (X:=S.map tokV) rfl rfl (zk (g:=fNil) (v:=tokV c) rfl rfl) ?_)
      have hlt:(S.map tokV).length<LIM:=by rw [List.length_map,zv]; lia
      have hm:(S++ [c]).map tokV=S.map tokV++ [tokV c]:=by simp
      show (if (S.map tokV).length<LIM then some (V.none,_) else none)=_
      refine rg (if_pos hlt) ?_; refine rl hm ?_
      rfl
    have lv:=lev_call2 (ρ:=ρP us vs rope (tokV c) (.int (c.1:Nat)) (.int (c.2:Nat)) a b) (σ:=QS p Q (S++ [c]) N) (f1:=fVar 7) (f2:=fVar 8) (f3:=fVar 3) (i:=c.1) (j:=c.2) (cap:=rope) hu hv hcb.1 hcb.2 rfl rfl rfl rfl rfl
    have cl:=fCmp_le (g:=fVar 3) (y:=rope) lv rfl
    by_cases hB:pOf us vs rope (c.1,c.2)≤rope
    · rw [decide_eq_true hB] at cl
      have hBf:Bf us vs rope c=true:=decide_eq_true hB
      have t:fTup (zc (fVar 7) (zc (fVar 8) fNil)) (ρP us vs rope (tokV c) (.int (c.1:Nat)) (.int (c.2:Nat)) a b) (QS p Q (S++ [c]) N)=some (cV c,QS p Q (S++ [c]) N):=rfl
      have s2:zX (zF (fVar 5) (zc (fTup (zc (fVar 7) (zc (fVar 8) fNil))) fNil) zB) (ρP us vs rope (tokV c) (.int (c.1:Nat)) (.int (c.2:Nat)) a b) (QS p Q (S++ [c]) N)=some (.next,ρP us vs rope (tokV c) (.int (c.1:Nat)) (.int (c.2:Nat)) a b,QS p Q (S++ [c]) (N++ [c])):=by
        refine yo (yK (v:= .loc 4) (X:=N.map cV) rfl rfl (zk (g:=fNil) t rfl) ?_)
        have hlt:(N.map cV).length<LIM:=by rw [List.length_map,zv]; lia
        have hm:(N++ [c]).map cV=N.map cV++ [cV c]:=by simp
        show (if (N.map cV).length<LIM then some (V.none,_) else none)=_
        refine rg (if_pos hlt) ?_; refine rl hm ?_
        rfl
      have hit:zI (fLst (zc (fTup (zc (fBin (opOf .Sub) (fVar 7) (za (.int 1))) (zc (fVar 8) fNil))) (zc (fTup (zc (fVar 7) (zc (fBin (opOf .Sub) (fVar 8) (za (.int 1))) fNil))) (zc (fTup (zc (fBin (opOf .Sub) (fVar 7) (za (.int 1))) (zc (fBin (opOf .Sub) (fVar 8) (za (.int 1))) fNil))) fNil)))) (ρP us vs rope (tokV c) (.int (c.1:Nat)) (.int (c.2:Nat)) a b) (QS p Q (S++ [c]) (N++ [c]))=some ((pred3 c).map fun t=> .tup [.int t.1, .int t.2],QS p Q (S++ [c]) (N++ [c])):=rfl
      unfold inb at hcb
      obtain ⟨a',b',e2⟩:=rp_for (us:=us) (vs:=vs) (rope:=rope) (p:=p) (S:=S++ [c]) (N:=N++ [c]) (tok:=tokV c) (i:= .int (c.1:Nat)) (j:= .int (c.2:Nat)) (pred3 c) Q a b (fun t ht=>by
        unfold pred3 at ht
        simp at ht
        rcases ht with rfl | rfl | rfl <;> simp <;> lia) (by dsimp [pred3]; lia)
      rw [pred3_eq] at e2
      have hpl:=predL_len c
      refine ⟨a',b',Q++predL c,S++ [c],N++ [c],(Zu hin).trans (zf s1 (zf ((Zu cl).trans (zf s2 (zf (fFor_of hit e2) rfl))) rfl)),I.near h hBf,?_⟩
      simp
      grind
    · rw [decide_eq_false hB] at cl
      have hBf:Bf us vs rope c=false:=decide_eq_false hB
      refine ⟨a,b,Q,S++ [c],N,(Zu hin).trans (zf s1 (zf ((yC cl).trans rfl) rfl)),I.far h hBf,?_⟩
      simp
      grind
theorem BInv.count{R Cn:Nat}{B:C2→Bool}{e:C2}{Q S N:List C2}(I:BInv R Cn B e Q S N)(hR:R≤10)(hC:Cn≤10):S.length≤100:=by
  have h1:=nodup_len S (grid R Cn) I.nd fun c hc=>ZE.mpr (I.inb c (List.mem_append_right _ hc))
  have h2:(grid R Cn).length=R*Cn:=by
    unfold grid
    have:∀(l:List Nat),(l.flatMap fun a=>(List.range Cn).map fun b=>(a,b)).length=l.length*Cn:=fun l=>by
      induction l with
      | nil=>simp
      | cons a l ih=>refine rg List.flatMap_cons ?_; refine rg List.length_append ?_; refine rg ih ?_; simp [Nat.succ_mul,Nat.add_comm]
    rw [this,List.length_range]
  have h3:R*Cn≤10*10:=Nat.mul_le_mul hR hC
  lia
theorem rp_loop{e:C2}(hu:WsOk us)(hv:WsOk vs)(hR:us.length≤10)(hC:vs.length≤10)(hAt:At text p []):∀(n:Nat) (c:C2) (Q S N:List C2) (i j a b:V),n≤500→4*(101-S.length)+Q.length≤n→BInv us.length vs.length (Bf us vs rope) e (c::Q) S N→
    ∃S' N' i' j' a' b',yA rpC (rpB text) (ρP us vs rope (tokV c) i j a b) (QS p Q S N)=some (.next,ρP us vs rope (.str []) i' j' a' b',QS p [] S' N')∧BInv us.length vs.length (Bf us vs rope) e [] S' N'
  | n,c,Q,S,N,i,j,a,b,hn,hm,I=>by
    have hS:=I.count hR hC
    have hcb:=I.inb c (by simp)
    unfold inb at hcb
    have hc:rpC (ρP us vs rope (tokV c) i j a b) (QS p Q S N)=some (true,QS p Q S N):=by
      unfold rpC fCmp
      have hf:fVar 6 (ρP us vs rope (tokV c) i j a b) (QS p Q S N)=some (tokV c,QS p Q S N):=rfl
      refine rg hf ?_
      rfl
    obtain ⟨d1,d2⟩:=int_digit2 (us:=us) (vs:=vs) (rope:=rope) (c:=c) (i:=i) (j:=j) (a:=a) (b:=b) (σ:=QS p Q S N) ⟨by lia,by lia⟩
    refine xe53 (rp_if (p:=p) (a:=a) (b:=b) hu hv hR hC I hS (by lia)) fun a' b' Q1 S1 N1 e1 I1 m1=>?_
    cases Q1 with
    | nil=>
      have gt:fAsg (z7 "get_token" (fVar 0) fNil (zp text)) (tVar 6) (ρP us vs rope (tokV c) (.int (c.1:Nat)) (.int (c.2:Nat)) a' b') (QS p [] S1 N1)=some (.next,ρP us vs rope (.str []) (.int (c.1:Nat)) (.int (c.2:Nat)) a' b',QS p [] S1 N1):=
        zw (imeth_any no_get rfl rfl (get_none hAt)) rfl
      have hb:rpB text (ρP us vs rope (tokV c) i j a b) (QS p Q S N)=some (.next,ρP us vs rope (.str []) (.int (c.1:Nat)) (.int (c.2:Nat)) a' b',QS p [] S1 N1):=
        zf d1 (zf d2 (zf e1 (zf gt rfl)))
      have hc2:rpC (ρP us vs rope (.str []) (.int (c.1:Nat)) (.int (c.2:Nat)) a' b') (QS p [] S1 N1)=some (false,QS p [] S1 N1):=by
        unfold rpC fCmp
        have hf:fVar 6 (ρP us vs rope (.str []) (.int (c.1:Nat)) (.int (c.2:Nat)) a' b') (QS p [] S1 N1)=some (.str [],QS p [] S1 N1):=rfl
        refine rg hf ?_
        rfl
      exact ⟨S1,N1,_,_,a',b',z5 hc (.inl hb) (zO hc2),I1⟩
    | cons d Q2=>
      have gt:fAsg (z7 "get_token" (fVar 0) fNil (zp text)) (tVar 6) (ρP us vs rope (tokV c) (.int (c.1:Nat)) (.int (c.2:Nat)) a' b') (QS p (d::Q2) S1 N1)=some (.next,ρP us vs rope (tokV d) (.int (c.1:Nat)) (.int (c.2:Nat)) a' b',QS p Q2 S1 N1):=
        zw (imeth_any no_get rfl rfl (get_back (t:= [48+d.1,48+d.2]) (toks_nl Q2))) rfl
      have hb:rpB text (ρP us vs rope (tokV c) i j a b) (QS p Q S N)=some (.next,ρP us vs rope (tokV d) (.int (c.1:Nat)) (.int (c.2:Nat)) a' b',QS p Q2 S1 N1):=
        zf d1 (zf d2 (zf e1 (zf gt rfl)))
      simp only [List.length_cons] at m1
      match n,hn,hm with
      | 0,hn,hm=>omega
      | n+1,hn,hm=>
        obtain ⟨S',N',i',j',a2,b2,e2,I2⟩:=rp_loop (e:=e) hu hv hR hC hAt n d Q2 S1 N1 (.int (c.1:Nat)) (.int (c.2:Nat)) a' b' (by exact Nat.le_of_lt ‹_›) (by lia) I1
        exact ⟨S',N',i',j',a2,b2,z5 hc (.inl hb) e2,I2⟩
theorem roped_eval(hu:WsOk us)(hv:WsOk vs)(hR:us.length≤7)(hC:vs.length≤7)(hR0:0<us.length)(hC0:0<vs.length)(hAt:At text p []) :
    ∃N:List C2,Z0 text [.cst 0, .lst (us.map .str), .lst (vs.map .str), .int rope] (LS3 [] 2 p [])=some (.lst ((N.map cV).mergeSort vle),LS3 [] 2 p [])∧N.Nodup∧(∀c∈N,inb us.length vs.length c)∧∀c,c∈N↔Reach us.length vs.length (Bf us vs rope) (us.length-1,vs.length-1) c:=by
  have s1:fAsg (fNew fNil) (tVar 4) [.cst 0, .lst (us.map .str), .lst (vs.map .str), .int rope, .undef, .undef, .undef, .undef, .undef, .undef, .undef] (LS3 [] 2 p [])=some (.next, [.cst 0, .lst (us.map .str), .lst (vs.map .str), .int rope, .loc 3, .undef, .undef, .undef, .undef, .undef, .undef],LS3 [] 2 p [.list []]):=rfl
  have s2:fAsg (fNew fNil) (tVar 5) [.cst 0, .lst (us.map .str), .lst (vs.map .str), .int rope, .loc 3, .undef, .undef, .undef, .undef, .undef, .undef] (LS3 [] 2 p [.list []])=some (.next,ρP us vs rope .undef .undef .undef .undef .undef,QS p [] [] []):=rfl
  have l1:=len_lst (i:=1) (ρ:=ρP us vs rope .undef .undef .undef .undef .undef) (σ:=QS p [] [] []) (l:=us) rfl
  have l2:=len_lst (i:=2) (ρ:=ρP us vs rope .undef .undef .undef .undef .undef) (σ:=QS p [] [] []) (l:=vs) rfl
  have b1:=zJ (op:=opOf .Sub) (g:=za (.int 1)) l1 rfl yS
  have b2:=zJ (op:=opOf .Sub) (g:=za (.int 1)) l2 rfl yS
  have e1:(us.length:Int)-1=((us.length-1:Nat):Int):=by lia
  have e2:(vs.length:Int)-1=((vs.length-1:Nat):Int):=by lia
  rw [e1] at b1
  rw [e2] at b2
  have d1:=str_digit2 b1 (by omega)
  have d2:=str_digit2 b2 (by omega)
  have ad:=zJ (op:=opOf .Add) d1 d2 (opAdd_str (by simp))
  have pt:=push_tok (n:=2) (p:=p) (τ:= [.list ([].map tokV), .list ([].map cV)]) (pb:= []) (t:= [48+(us.length-1)]++ [48+(vs.length-1)]) rfl (by simp)
  have s3:zX (z7 "push_token" (fVar 0) (zc (fBin (opOf .Add) (zj (zc (fBin (opOf .Sub) (zj (zc (fVar 1) fNil) pLen) (za (.int 1))) fNil) pStr) (zj (zc (fBin (opOf .Sub) (zj (zc (fVar 2) fNil) pLen) (za (.int 1))) fNil) pStr)) fNil) yB) (ρP us vs rope .undef .undef .undef .undef .undef) (QS p [] [] [])=some (.next,ρP us vs rope .undef .undef .undef .undef .undef,QS p [(us.length-1,vs.length-1)] [] []):=
    yo (imeth_any no_push rfl (zk (g:=fNil) ad rfl) pt)
  have s4:fAsg (z7 "get_token" (fVar 0) fNil (zp text)) (tVar 6) (ρP us vs rope .undef .undef .undef .undef .undef) (QS p [(us.length-1,vs.length-1)] [] [])=some (.next,ρP us vs rope (tokV (us.length-1,vs.length-1)) .undef .undef .undef .undef,QS p [] [] []):=
    zw (imeth_any no_get rfl rfl (get_back (t:= [48+(us.length-1),48+(vs.length-1)]) rfl)) rfl
  have I0:BInv us.length vs.length (Bf us vs rope) (us.length-1,vs.length-1) [(us.length-1,vs.length-1)] [] []:=
    ⟨by simp,fun c hc=>by simp at hc; subst hc; unfold inb; simp; omega,rfl,by simp,fun c hc=>by simp at hc; exact .inl hc,fun s hs=>by simp at hs⟩
  obtain ⟨S',N',i',j',a',b',e5,I5⟩:=rp_loop (text:=text) (p:=p) hu hv (by lia) (by lia) hAt 500 (us.length-1,vs.length-1) [] [] [] .undef .undef .undef .undef (by exact Nat.le_refl _) (by simp) I0
  have hnd:N'.Nodup:=by refine rg I5.neq ?_; exact I5.nd.filter _
  have hin:∀c∈N',inb us.length vs.length c:=fun c hc=>by
    rw [I5.neq] at hc
    exact I5.inb c (by simpa using (List.mem_filter.mp hc).1)
  have hlen:N'.length<64:=by
    have h1:=nodup_len _ (grid us.length vs.length) hnd fun c hc=>ZE.mpr (hin c hc)
    have h2:(grid us.length vs.length).length=us.length*vs.length:=by
      unfold grid
      have:∀(l:List Nat),(l.flatMap fun a=>(List.range vs.length).map fun b=>(a,b)).length=l.length*vs.length:=fun l=>by
        induction l with
        | nil=>simp
        | cons a l ih=>refine rg List.flatMap_cons ?_; refine rg List.length_append ?_; refine rg ih ?_; simp [Nat.succ_mul,Nat.add_comm]
      rw [this,List.length_range]
    have h3:us.length*vs.length≤7*7:=Nat.mul_le_mul hR hC
    lia
  refine ⟨N',?_,hnd,hin,I5.reach⟩
  have hs:=sorted_cV (σ:=QS p [] S' N') (v:= .loc 4) (F:=N') rfl rfl hlen (fun c hc=>by have:=hin c hc; unfold inb at this; lia)
  have key:f__law_roped text [.cst 0, .lst (us.map .str), .lst (vs.map .str), .int rope, .undef, .undef, .undef, .undef, .undef, .undef, .undef] (LS3 [] 2 p [])=some (.ret (.lst ((N'.map cV).mergeSort vle)),ρP us vs rope (.str []) i' j' a' b',LS3 [] 2 p []++ [.list (S'.map tokV), .list (N'.map cV)]):=by
    skip
    exact zf s1 (zf s2 (zf s3 (zf s4 (zf e5 (ZA (zP (vs:= [.loc 4]) rfl hs))))))
  refine fnG_ret (vs:= [.cst 0, .lst (us.map .str), .lst (vs.map .str), .int rope]) key (V.nls_iff.mpr fun v hv=>?_)
  have:=(List.mergeSort_perm (N'.map cV) vle).mem_iff.mp hv
  obtain ⟨c,_,rfl⟩:=List.mem_map.mp this
  rfl
end
end Mi
namespace Mi
mutual
theorem eqv_refl:∀{n:Nat} {v:V},V.pd n v=true→V.eqv v v=true
  | _, .none,_=>rfl
  | _, .bool b,_=>by cases b <;> rfl
  | _, .int i,_=>beq_self_eq_true i
  | _, .str x,_=>beq_self_eq_true x
  | 0, .tup vs,h=>by cases h
  | n+1, .tup vs,h=>eqvs_refl (n:=n) (vs:=vs) h
  | 0, .lst vs,h=>by cases h
  | n+1, .lst vs,h=>eqvs_refl (n:=n) (vs:=vs) h
  | _, .undef,h=>by cases h
  | _, .loc _,h=>by cases h
  | _, .cst _,h=>by cases h
theorem eqvs_refl:∀{n:Nat} {vs:List V},V.pdAll n vs=true→V.eqvs vs vs=true
  | _, [],_=>rfl
  | n,v::vs,h=>by
    exact Bool.and_eq_true_iff.mpr ⟨eqv_refl (Bool.and_eq_true_iff.mp h).1,eqvs_refl (Bool.and_eq_true_iff.mp h).2⟩
end
theorem pdAll_mem{n:Nat}:∀{l:List V},(∀v∈l,V.pd n v=true)→V.pdAll n l=true
  | [],_=>rfl
  | v::l,h=>by
    rw [V.pdAll,h v List.mem_cons_self,pdAll_mem fun x hx=>h x (List.mem_cons_of_mem _ hx)]; rfl
theorem cmpEq_same{f g:EF}{v:V}{ρ:List V}{σ σ1 σ2:List AObj}(hf:f ρ σ=some (.lst v',σ1))(hg:g ρ σ1=some (.lst v',σ2))(hp:V.pd 8 (.lst v')=true):fCmp .Eq f g ρ σ=some (true,σ2)∧fCmp .NotEq f g ρ σ=some (false,σ2):=by
  have he:=eqv_refl hp
  constructor
  · unfold fCmp
    refine rg hf ?_
    simp only [hg,ev_c1,Zd,ev_v5,hp,and_self,if_true,he,Option.map_some]
  · unfold fCmp
    refine rg hf ?_
    simp only [hg,ev_c2,Zd,ev_v5,hp,and_self,if_true,he,Option.map_some,Bool.not_true]
theorem pd_strs(us:List (List Nat))(n:Nat):V.pdAll n (us.map .str)=true:=pdAll_mem fun v hv=>by
  obtain ⟨x,_,rfl⟩:=List.mem_map.mp hv
  rfl
section
variable {ws:List Int}{ds:List Nat}{c:Nat}{text:List Nat}{p:Nat}
noncomputable abbrev ρA(ws:List Int)(ds:List Nat)(c:Nat)(a7 a8 a9 a10 a11 a12:V):List V:= [.lst (ws.map .int),fxL,drV ds, .int c,woV ds,dsV ds, .cst 0,a7,a8,a9,a10,a11,a12]
noncomputable abbrev uL(ds:List Nat)(c:Nat):List (List Nat):=(ds.take c).map wd
noncomputable abbrev vL(ds:List Nat)(c:Nat):List (List Nat):=(ds.drop c).map wd
theorem wo_slices(hl:ds.length=7)(hc:c=3∨c=4){σ:List AObj}:yE σ (woV ds) none (some (c:Int)) none=some (.lst ((uL ds c).map .str))∧yE σ (woV ds) (some (c:Int)) none none=some (.lst ((vL ds c).map .str)):=by
  obtain ⟨p1,p2⟩:=pick_take ds hl c hc
  constructor
  · show (match yx σ (woV ds) with | some (V.lst vs)=>if none=some (0:Int) then none else some (V.lst (pick vs none (some (c:Int)) none)) | _=>none)=_
    simp only [ev_v5,reduceCtorEq,if_false,ZW,p1,List.map_map]
    rfl
  · show (match yx σ (woV ds) with | some (V.lst vs)=>if none=some (0:Int) then none else some (V.lst (pick vs (some (c:Int)) none none)) | _=>none)=_
    simp only [ev_v5,reduceCtorEq,if_false,ZW,p2,List.map_map]
    rfl
theorem fSlice_to{f g:EF}{ρ:List V}{σ:List AObj}{v w:V}{k:Int}(hf:f ρ σ=some (v,σ))(hg:g ρ σ=some (.int k,σ))(hs:yE σ v none (some k) none=some w):zx f (za .none) g (za .none) ρ σ=some (w,σ):=by
  unfold zx
  refine rg hf ?_
  simp only [za,hg,ev_p1,ev_p2,hs,Option.map_some]
theorem fSlice_from{f g:EF}{ρ:List V}{σ:List AObj}{v w:V}{k:Int}(hf:f ρ σ=some (v,σ))(hg:g ρ σ=some (.int k,σ))(hs:yE σ v (some k) none none=some w):zx f g (za .none) (za .none) ρ σ=some (w,σ):=by
  unfold zx
  refine rg hf ?_
  simp only [hg,za,ev_p1,ev_p2,hs,Option.map_some]
noncomputable abbrev W7(ds:List Nat)(c:Nat):V:= .lst [.lst ((uL ds c).map .str), .lst ((vL ds c).map .str)]
theorem B6(hl:ds.length=7)(hc:c=3∨c=4):∃p,f_law_6 (textOf ds c) (ρA ws ds c .undef .undef .undef .undef .undef .undef) (LS3 [] 1 0 [])=some (.next,ρA ws ds c (W7 ds c) .undef .undef .undef .undef .undef,LS3 [] 2 p [])∧At (textOf ds c) p []:=by
  obtain ⟨d0,t1,e1⟩:∃d0 t1,ds.take c=d0::t1:=by
    cases h:ds.take c with
    | nil=>have:=congrArg List.length h; rw [List.length_take,hl,List.length_nil] at this; lia
    | cons a t=>exact ⟨a,t,rfl⟩
  obtain ⟨e0,t2,e2⟩:∃d0 t1,ds.drop c=d0::t1:=by
    cases h:ds.drop c with
    | nil=>have:=congrArg List.length h; rw [List.length_drop,hl,List.length_nil] at this; omega
    | cons a t=>exact ⟨a,t,rfl⟩
  have l1:t1.length+1≤7:=by have:=congrArg List.length e1; rw [List.length_take,hl,List.length_cons] at this; lia
  have l2:t2.length+1≤7:=by have:=congrArg List.length e2; rw [List.length_drop,hl,List.length_cons] at this; omega
  refine xe12 (law_read (text:=textOf ds c) (d0:=d0) (e0:=e0) (ds:=t1) (es:=t2) (by lia) (by unfold textOf toks; refine rg e1 ?_; refine rg e2 ?_; simp)) fun p e h=>?_
  refine ⟨p,zw (v:=W7 ds c) (zZ (vs:= [.cst 0]) rfl ?_) rfl,h⟩
  refine rg e ?_
  have h1:(uL ds c).map V.str=(d0::t1).map wV:=by refine rl e1 ?_; refine rg List.map_map ?_; rfl
  have h2:(vL ds c).map V.str=(e0::t2).map wV:=by refine rl e2 ?_; refine rg List.map_map ?_; rfl
  simp only [W7,h1,h2]
theorem B7(hl:ds.length=7)(hc:c=3∨c=4){σ:List AObj}{a8 a9 a10 a11 a12:V}:f_law_7 text (ρA ws ds c (W7 ds c) a8 a9 a10 a11 a12) σ=some (.next,ρA ws ds c (W7 ds c) a8 a9 a10 a11 a12,σ):=by
  obtain ⟨q1,q2⟩:=wo_slices (σ:=σ) hl hc
  have s1:=fSlice_to (f:=fVar 4) (g:=fVar 3) (ρ:=ρA ws ds c (W7 ds c) a8 a9 a10 a11 a12) (σ:=σ) rfl rfl q1
  have s2:=fSlice_from (f:=fVar 4) (g:=fVar 3) (ρ:=ρA ws ds c (W7 ds c) a8 a9 a10 a11 a12) (σ:=σ) rfl rfl q2
  have hL:fLst (zc (zx (fVar 4) (za .none) (fVar 3) (za .none)) (zc (zx (fVar 4) (fVar 3) (za .none) (za .none)) fNil)) (ρA ws ds c (W7 ds c) a8 a9 a10 a11 a12) σ=some (W7 ds c,σ):=by
    unfold fLst
    refine rg (zk s1 (zk (g:=fNil) s2 rfl)) ?_
    rfl
  have hp:V.pd 8 (W7 ds c)=true:=by
    show (V.pdAll 6 ((uL ds c).map .str)&&(V.pdAll 6 ((vL ds c).map .str)&&true))=true
    rw [pd_strs,pd_strs]; rfl
  skip
  exact (yC (cmpEq_same (v:= .none) (f:=fVar 7) rfl hL hp).2).trans rfl
theorem ways_idx{σ:List AObj}{a8 a9 a10 a11 a12:V}:fIdx (fVar 7) (za (.int 0)) (ρA ws ds c (W7 ds c) a8 a9 a10 a11 a12) σ=some (.lst ((uL ds c).map .str),σ)∧fIdx (fVar 7) (za (.int 1)) (ρA ws ds c (W7 ds c) a8 a9 a10 a11 a12) σ=some (.lst ((vL ds c).map .str),σ):=
  ⟨yj (a:=W7 ds c) (b:= .int 0) rfl rfl rfl,yj (a:=W7 ds c) (b:= .int 1) rfl rfl rfl⟩
theorem wsok_map(l:List Nat):WsOk (l.map wd):=by
  have key:∀d,(wd d).length≤3∧∀x∈wd d,x∈y6:=fun d=>by
    have:=List.all_eq_true.mp WL_shape (wd d) (wd_WL d)
    simp only [Bool.and_eq_true,decide_eq_true_eq] at this
    refine ⟨this.1,fun x hx=>?_⟩
    have:=List.all_eq_true.mp this.2 x hx
    simpa using this
  refine ⟨fun u hu=>?_,fun u hu=>?_⟩
  · obtain ⟨d,_,rfl⟩:=List.mem_map.mp hu
    exact (key d).1
  · obtain ⟨d,_,rfl⟩:=List.mem_map.mp hu
    exact (key d).2
noncomputable def prP(us vs:List (List Nat))(d:C2):Int:=Zf (us.getD d.1 []) (vs.getD d.2 [])
theorem getD_WL{l:List Nat}{i:Nat}(h:i<(l.map wd).length):(l.map wd).getD i []∈WL:=by
  refine rg List.getD_eq_getElem?_getD ?_; refine rg (List.getElem?_eq_getElem h) ?_
  simp only [Option.getD_some,List.getElem_map]
  exact wd_WL _
theorem pair_facts{l1 l2:List Nat}{d:C2}(h:inb (l1.map wd).length (l2.map wd).length d):0≤prP (l1.map wd) (l2.map wd) d∧prP (l1.map wd) (l2.map wd) d≤4∧pOf (l1.map wd) (l2.map wd) 4 d=prP (l1.map wd) (l2.map wd) d∧∀r:Int,0≤r→r≤4→(pOf (l1.map wd) (l2.map wd) r d≤r↔prP (l1.map wd) (l2.map wd) d≤r):=by
  have h1:=List.all_eq_true.mp (List.all_eq_true.mp pairs_ok _ (getD_WL h.1)) _ (getD_WL h.2)
  unfold okPair at h1
  simp only [Bool.and_eq_true,decide_eq_true_eq] at h1
  obtain ⟨⟨⟨q1,q2⟩,q3⟩,q4⟩:=h1
  refine ⟨q1,q2,q3,fun r h0 h4=>?_⟩
  have:=List.all_eq_true.mp q4 r.toNat (List.mem_range.mpr (by omega))
  have e:((r.toNat:Nat):Int)=r:=by omega
  rw [e] at this
  have this:decide (levP ((l1.map wd).getD d.1 []) ((l2.map wd).getD d.2 []) r≤r)=decide (Zf ((l1.map wd).getD d.1 []) ((l2.map wd).getD d.2 [])≤r):=by simpa using this
  exact decide_eq_decide.mp this
end
end Mi
namespace Mi
structure GridOk(R Cn:Nat):Prop where
  K:RunOk R Cn (runL R Cn)
  fin:(procW R Cn 65 [[(0,0)]]).2= []
  len:∀w∈runL R Cn,w.length≤20
  cnt:(runL R Cn).length<200
theorem grid34:GridOk 3 4:=⟨runOk_of run34,end34,fun w hw=>by
  have:((runL 3 4).all fun w=>decide (w.length≤20))=true:=by decide +kernel
  simpa using List.all_eq_true.mp this w hw,by decide +kernel⟩
theorem grid43:GridOk 4 3:=⟨runOk_of run43,end43,fun w hw=>by
  have:((runL 4 3).all fun w=>decide (w.length≤20))=true:=by decide +kernel
  simpa using List.all_eq_true.mp this w hw,by decide +kernel⟩
theorem ValOk.congr{R Cn:Nat}{p p' val:C2→Int}(V:ValOk R Cn p val)(h0:inb R Cn (0,0))(h:∀d,inb R Cn d→p' d=p d):ValOk R Cn p' val:=
  ⟨by rw [V.v0,h _ h0],fun s hs hn=>by
    refine xe14 (V.v1 s hs hn) fun q h1 h2 h3 h4=>?_
    exact ⟨q,h1,h2,by rw [h3,h s hs],h4⟩⟩
theorem Reach.congr{R Cn:Nat}{B B':C2→Bool}{e c:C2}(he:inb R Cn e)(hB:∀d,inb R Cn d→B d=B' d)(h:Reach R Cn B e c):Reach R Cn B' e c:=by
  induction h with
  | last hb=>exact .last (by refine rl (hB _ he) ?_; exact hb)
  | step hb hc hs hsb _ ih=>exact .step (by refine rl (hB _ hc) ?_; exact hb) hc hs hsb ih
theorem map_getD{α β:Type}(f:α→β)(l:List α)(d:α):(List.range l.length).map (fun i=>f (l.getD i d))=l.map f:=by
  refine List.ext_getElem (by simp) fun i h1 h2=>?_
  have h3:i<l.length:=by simpa using h2
  simp [List.getD_eq_getElem?_getD,List.getElem?_eq_getElem h3]
theorem fold_const{x:Int}:∀l:List Int,(∀y∈l,y=x)→zW (fun a b=>decide (b<a)) x l=x
  | [],_=>rfl
  | y::l,h=>by
    have hy:=h y List.mem_cons_self
    subst hy
    have e:zW (fun a b=>decide (b<a)) y (y::l)=zW (fun a b=>decide (b<a)) (if decide (y<y)=true then y else y) l:=rfl
    refine rg e ?_
    rw [ite_self]
    exact fold_const l fun z hz=>h z (List.mem_cons_of_mem _ hz)
theorem tk_tV{t:T3}(h:(0≤t.1∧t.1<1000)∧(0≤t.2.1∧t.2.1<1000)∧(0≤t.2.2∧t.2.2<1000)):tkOk 3 (tV t)=true:=by
  have h1:zM [V.int t.1, .int t.2.1, .int t.2.2]=some [t.1,t.2.1,t.2.2]:=rfl
  unfold tkOk tV
  simp only [h1,yR,List.length_cons,List.length_nil,List.all_cons,List.all_nil]
  simp
  omega
theorem sorted_tV{D D':List T3}{σ:List AObj}(hp:D.Perm D')(hn:D.length<64)(h:∀t∈D',(0≤t.1∧t.1<1000)∧(0≤t.2.1∧t.2.1<1000)∧(0≤t.2.2∧t.2.2<1000)):yN σ [.lst (D.map tV)]=some (.lst ((D'.map tV).mergeSort vle)):=by
  have hall:(D'.map tV).all (tkOk 3)=true:=List.all_eq_true.mpr fun v hv=>by
    obtain ⟨t,ht,rfl⟩:=List.mem_map.mp hv
    exact tk_tV (h t ht)
  have hall':(D.map tV).all (tkOk 3)=true:=List.all_eq_true.mpr fun v hv=>by
    obtain ⟨t,ht,rfl⟩:=List.mem_map.mp hv
    exact tk_tV (h t (hp.mem_iff.mp ht))
  have hs:(D.map tV).mergeSort vle=(D'.map tV).mergeSort vle:=by
    refine vsort_unique (n:=3) hall ((List.mergeSort_perm _ _).trans (hp.map _)) ?_
    exact (List.pairwise_mergeSort vle_trans vle_total (D.map tV)).imp fun h=>by simpa [vle] using h
  refine rl hs ?_
  unfold yN
  simp only [isLst,if_true,ev_w1]
  rw [if_pos (by rw [List.length_map]; exact hn)]
  cases D with
  | nil=>simp [zM]
  | cons t D=>
    have:zM ((t::D).map tV)=none:=rfl
    refine rg this ?_
    rw [if_pos (by rw [hall']; rfl)]
theorem sorted_ints{l:List Int}{σ:List AObj}(hn:l.length<64)(hs:l.Pairwise (· ≤ ·)):yN σ [.lst (l.map .int)]=some (.lst (l.map .int)):=by
  unfold yN
  simp only [isLst,if_true,ev_w1,ZH]
  rw [if_pos (by rw [List.length_map]; exact hn)]
  congr 3
  refine List.Perm.eq_of_pairwise (le:=fun a b:Int=>a≤b) (fun a b _ _ h1 h2=>Int.le_antisymm h1 h2) ?_ hs (List.mergeSort_perm _ _)
  exact (List.pairwise_mergeSort (fun a b c h1 h2=>by simp at *; lia) (fun a b=>by simp; lia) l).imp fun h=>by simpa using h
section
variable {ws:List Int}{ds:List Nat}{c:Nat}{text:List Nat}{p:Nat}
noncomputable abbrev eC(ds:List Nat)(c:Nat):C2:=((uL ds c).length-1,(vL ds c).length-1)
structure Gd1(ds:List Nat)(c:Nat):Prop where
  hl:ds.length=7
  hc:c=3∨c=4
theorem Gd1.lens(h:Gd1 ds c):(uL ds c).length=c∧(vL ds c).length=7-c:=by
  have h1:=h.hl
  rcases h.hc with rfl | rfl <;> simp [h1]
theorem g_facts{c u v:Nat}(h:c=3∨c=4)(e1:u=c)(e2:v=7-c):(0<u∧u≤4∧((u-1:Nat):Int)=(c:Int)-1)∧0<v∧v≤4∧((v-1:Nat):Int)=6-(c:Int):=by
  subst e1 e2
  rcases h with rfl | rfl <;> decide
theorem g_facts2{c u v:Nat}(h:c=3∨c=4)(e1:u=c)(e2:v=7-c):((u=3∨u=4)∧(c:Int)=u)∧(v=3∨v=4)∧(7:Int)-c=v:=by
  subst e1 e2
  rcases h with rfl | rfl <;> decide
theorem Gd1.f2(h:Gd1 ds c):(((uL ds c).length=3∨(uL ds c).length=4)∧(c:Int)=(uL ds c).length)∧((vL ds c).length=3∨(vL ds c).length=4)∧(7:Int)-c=(vL ds c).length:=g_facts2 h.hc h.lens.1 h.lens.2
theorem Gd1.fs(h:Gd1 ds c):(0<(uL ds c).length∧(uL ds c).length≤4∧(((uL ds c).length-1:Nat):Int)=(c:Int)-1)∧0<(vL ds c).length∧(vL ds c).length≤4∧(((vL ds c).length-1:Nat):Int)=6-(c:Int):=g_facts h.hc h.lens.1 h.lens.2
theorem Gd1.grid(h:Gd1 ds c):GridOk (uL ds c).length (vL ds c).length:=by
  refine xe02 h.lens fun e1 e2=>?_
  refine rg e1 ?_; refine rg e2 ?_
  rcases h.hc with rfl | rfl
  · exact grid34
  · exact grid43
noncomputable abbrev vP(ds:List Nat)(c:Nat):C2→Int:=valR (runL (uL ds c).length (vL ds c).length) (prP (uL ds c) (vL ds c))
theorem Gd1.prices(h:Gd1 ds c):∀d,inb (uL ds c).length (vL ds c).length d→0≤prP (uL ds c) (vL ds c) d∧prP (uL ds c) (vL ds c) d≤4:=fun d hd=>⟨(pair_facts hd).1,(pair_facts hd).2.1⟩
theorem Gd1.val(h:Gd1 ds c):ValOk (uL ds c).length (vL ds c).length (pOf (uL ds c) (vL ds c) 4) (vP ds c):=by
  have h00:inb (uL ds c).length (vL ds c).length (0,0):=(h.grid.K.c4 _ h.grid.K.c0).2 _ (by trivial)
  exact (valR_ok h.grid.K h.prices).congr h00 fun d hd=>(pair_facts hd).2.2.1
theorem Gd1.bnd(h:Gd1 ds c):∀d,inb (uL ds c).length (vL ds c).length d→0≤vP ds c d∧vP ds c d≤4:=fun d hd=>by
  refine ⟨?_,valR_bound h.grid.K h.prices hd⟩
  refine xe13 (valR_att h.grid.K h.prices hd) fun w hw e q=>?_
  have:=q (zz w) (lastc_mem (h.grid.K.c4 w hw).1)
  rw [e] at this
  have:=(h.prices d hd).1
  show 0≤valR _ _ _
  lia
theorem Gd1.e(h:Gd1 ds c):inb (uL ds c).length (vL ds c).length (eC ds c):=by
  exact ⟨Nat.sub_lt h.fs.1.1 Nat.zero_lt_one,Nat.sub_lt h.fs.2.1 Nat.zero_lt_one⟩
theorem B8(h:Gd1 ds c){σ:List AObj}{a8 a9 a10 a11 a12:V}:∃D:List T3,f_law_8 text (ρA ws ds c (W7 ds c) a8 a9 a10 a11 a12) σ=some (.next,ρA ws ds c (W7 ds c) (.lst (D.map tV)) a9 a10 a11 a12,σ)∧D.Perm ((grid (uL ds c).length (vL ds c).length).map fun d=>z8 (vP ds c d) d)∧D.Pairwise fun a b=>a.1≤b.1:=by
  refine xe13 (leashes_eval (σ0:=σ) (us:=uL ds c) (vs:=vL ds c) h.val (wsok_map _) (wsok_map _) (Nat.le_trans h.fs.1.2.1 (by decide)) (Nat.le_trans h.fs.2.2.1 (by decide)) h.fs.1.1 h.fs.2.1) fun D e q1 q2=>?_
  obtain ⟨i0,i1⟩:=ways_idx (ds:=ds) (c:=c) (ws:=ws) (σ:=σ) (a8:=a8) (a9:=a9) (a10:=a10) (a11:=a11) (a12:=a12)
  exact ⟨D,zw (zZ (zk i0 (zk (g:=fNil) i1 rfl)) e) rfl,q1,q2⟩
noncomputable def selT(c:Nat)(t:T3):Bool:=(t.2.1==(c:Int)-1)&&((t.2.2==6-(c:Int))&&true)
theorem rope_comp{D:List T3}{σ:List AObj}{a9 a10 a11 a12:V}(hn:D.length<1000):yh .frz (zI (fVar 8)) [none,some 3] (tVar 0) (fIf1 (fCmp .Eq (zx (fVar 0) (za (.int 1)) (za .none) (za .none)) (fTup (zc (fBin (opOf .Sub) (fVar 1) (za (.int 1))) (zc (fBin (opOf .Sub) (za (.int 6)) (fVar 1)) fNil)))) zU) (zY (fIdx (fVar 0) (za (.int 0)))) (ρA ws ds c (W7 ds c) (.lst (D.map tV)) a9 a10 a11 a12) σ=some (.lst (((D.filter (selT c)).map (·.1)).map .int),σ):=by
  have hcmp:=fComp_if (f:=zI (fVar 8)) (js:= [none,some 3]) (c:=fIf1 (fCmp .Eq (zx (fVar 0) (za (.int 1)) (za .none) (za .none)) (fTup (zc (fBin (opOf .Sub) (fVar 1) (za (.int 1))) (zc (fBin (opOf .Sub) (za (.int 6)) (fVar 1)) fNil)))) zU) (el:=fIdx (fVar 0) (za (.int 0)))
    (p:=fun v=>match v with | .tup [_, .int i, .int j]=>(i==(c:Int)-1)&&((j==6-(c:Int))&&true) | _=>false) (w:=fun v=>match v with | .tup [x,_,_]=>x | v=>v) (ρ:=ρA ws ds c (W7 ds c) (.lst (D.map tV)) a9 a10 a11 a12) (caps:= [.int c]) (vs:=D.map tV) (σ:=σ) (u:= .undef) rfl rfl (by rw [List.length_map,zv]; lia)
    (fun v hv acc=>by
      obtain ⟨t,_,rfl⟩:=List.mem_map.mp hv
      refine ⟨?_,fun _=>rfl⟩
      have hsl:zx (fVar 0) (za (.int 1)) (za .none) (za .none) [tV t, .int c] (σ++ [.list acc])=some (.tup [.int t.2.1, .int t.2.2],σ++ [.list acc]):=fSlice_from (f:=fVar 0) (g:=za (.int 1)) rfl rfl rfl
      have htp:fTup (zc (fBin (opOf .Sub) (fVar 1) (za (.int 1))) (zc (fBin (opOf .Sub) (za (.int 6)) (fVar 1)) fNil)) [tV t, .int c] (σ++ [.list acc])=some (.tup [.int ((c:Int)-1), .int (6-(c:Int))],σ++ [.list acc]):=rfl
      have hcm:fCmp .Eq (zx (fVar 0) (za (.int 1)) (za .none) (za .none)) (fTup (zc (fBin (opOf .Sub) (fVar 1) (za (.int 1))) (zc (fBin (opOf .Sub) (za (.int 6)) (fVar 1)) fNil))) [tV t, .int c] (σ++ [.list acc])=some (selT c t,σ++ [.list acc]):=by
        unfold fCmp
        refine rg hsl ?_
        dsimp only [htp]
        rfl
      show fIf1 _ zU [tV t, .int c] (σ++ [.list acc])=some (selT c t,_)
      unfold fIf1
      refine rg hcm ?_
      cases selT c t <;> rfl)
    (fun v hv _=>by
      obtain ⟨t,_,rfl⟩:=List.mem_map.mp hv
      rfl)
  have he:((D.map tV).filter fun v=>match v with | .tup [_, .int i, .int j]=>(i==(c:Int)-1)&&((j==6-(c:Int))&&true) | _=>false).map (fun v=>match v with | .tup [x,_,_]=>x | v=>v)=((D.filter (selT c)).map (·.1)).map .int:=by
    refine rg List.filter_map ?_; refine rg List.map_map ?_; refine rg List.map_map ?_
    rfl
  rw [he] at hcmp
  exact hcmp
theorem rope_max(h:Gd1 ds c){D:List T3}{σ:List AObj}{a9 a10 a11 a12:V}(hp:D.Perm ((grid (uL ds c).length (vL ds c).length).map fun d=>z8 (vP ds c d) d))(hn:D.length<1000) :
    zj (zc (yh .frz (zI (fVar 8)) [none,some 3] (tVar 0) (fIf1 (fCmp .Eq (zx (fVar 0) (za (.int 1)) (za .none) (za .none)) (fTup (zc (fBin (opOf .Sub) (fVar 1) (za (.int 1))) (zc (fBin (opOf .Sub) (za (.int 6)) (fVar 1)) fNil)))) zU) (zY (fIdx (fVar 0) (za (.int 0))))) fNil) pMax1 (ρA ws ds c (W7 ds c) (.lst (D.map tV)) a9 a10 a11 a12) σ=some (.int (vP ds c (eC ds c)),σ):=by
  have hall:∀y∈(D.filter (selT c)).map (·.1),y=vP ds c (eC ds c):=fun y hy=>by
    obtain ⟨t,ht,rfl⟩:=List.mem_map.mp hy
    obtain ⟨h1,h2⟩:=List.mem_filter.mp ht
    obtain ⟨d,_,rfl⟩:=List.mem_map.mp (hp.mem_iff.mp h1)
    unfold selT z8 at h2
    simp at h2
    have:d=eC ds c:=by
      exact Prod.ext (Int.ofNat.inj (h2.1.trans h.fs.1.2.2.symm)) (Int.ofNat.inj (h2.2.trans h.fs.2.2.2.symm))
    refine rg this ?_
    rfl
  have hne:(D.filter (selT c)).map (·.1)≠ []:=by
    have hm:z8 (vP ds c (eC ds c)) (eC ds c)∈D:=hp.mem_iff.mpr (List.mem_map.mpr ⟨_,ZE.mpr h.e,rfl⟩)
    have hs:selT c (z8 (vP ds c (eC ds c)) (eC ds c))=true:=by
      show (((((uL ds c).length-1:Nat):Int)==(c:Int)-1)&&(((((vL ds c).length-1:Nat):Int)==6-(c:Int))&&true))=true
      refine rg h.fs.1.2.2 ?_; refine rg h.fs.2.2.2 ?_
      simp
    intro q
    have:(z8 (vP ds c (eC ds c)) (eC ds c)).1∈(D.filter (selT c)).map (·.1):=List.mem_map.mpr ⟨_,List.mem_filter.mpr ⟨hm,hs⟩,rfl⟩
    rw [q] at this
    cases this
  refine zP (zk (g:=fNil) (rope_comp hn) rfl) ?_
  generalize (D.filter (selT c)).map (·.1)=l at hall hne
  cases l with
  | nil=>exact absurd rfl hne
  | cons x xs=>
    have hx:=hall x List.mem_cons_self
    show (match Zy σ (.lst ((x::xs).map .int)) with | some (x::xs)=>some (V.int (zW (fun a b=>decide (b<a)) x xs)) | _=>none)=_
    rw [intList_lst]
    simp only
    refine rg (fold_const xs fun y hy=>(hall y (List.mem_cons_of_mem _ hy)).trans hx.symm) ?_; refine rg hx ?_; rfl
theorem B9(h:Gd1 ds c)(hAt:At text p []){D:List T3}{a9 a10 a11 a12:V}(hp:D.Perm ((grid (uL ds c).length (vL ds c).length).map fun d=>z8 (vP ds c d) d))(hn:D.length<1000) :
    ∃N:List C2,f_law_9 text (ρA ws ds c (W7 ds c) (.lst (D.map tV)) a9 a10 a11 a12) (LS3 [] 2 p [])=some (.next,ρA ws ds c (W7 ds c) (.lst (D.map tV)) (.lst ((N.map cV).mergeSort vle)) a10 a11 a12,LS3 [] 2 p [])∧N.Nodup∧(∀d∈N,inb (uL ds c).length (vL ds c).length d)∧∀d,d∈N↔Reach (uL ds c).length (vL ds c).length (Bf (uL ds c) (vL ds c) (vP ds c (eC ds c))) (eC ds c) d:=by
  obtain ⟨e1,e2⟩:=h.lens
  have hc:=h.hc
  refine xe14 (roped_eval (text:=text) (p:=p) (us:=uL ds c) (vs:=vL ds c) (rope:=vP ds c (eC ds c)) (wsok_map _) (wsok_map _) (by omega) (by omega) (by omega) (by omega) hAt) fun N e q1 q2 q3=>?_
  obtain ⟨i0,i1⟩:=ways_idx (ds:=ds) (c:=c) (ws:=ws) (σ:=LS3 [] 2 p []) (a8:= .lst (D.map tV)) (a9:=a9) (a10:=a10) (a11:=a11) (a12:=a12)
  have mx:=rope_max (ws:=ws) (σ:=LS3 [] 2 p []) (a9:=a9) (a10:=a10) (a11:=a11) (a12:=a12) h hp hn
  exact ⟨N,zw (zZ (zk (v:= .cst 0) rfl (zk i0 (zk i1 (zk (g:=fNil) mx rfl)))) e) rfl,q1,q2,q3⟩
theorem B10(h:Gd1 ds c){σ:List AObj}{a7 a8 a9 a10 a11 a12:V}:f_law_10 text (ρA ws ds c a7 a8 a9 a10 a11 a12) σ=some (.next,ρA ws ds c a7 a8 a9 (pV (uL ds c).length (vL ds c).length (prP (uL ds c) (vL ds c))) a11 a12,σ):=by
  refine xe02 h.lens fun e1 e2=>?_
  have hc:=h.hc
  obtain ⟨q1,_⟩:=wo_slices (σ:=σ) h.hl h.hc
  have s1:=fSlice_to (f:=fVar 4) (g:=fVar 3) (ρ:=ρA ws ds c a7 a8 a9 a10 a11 a12) (σ:=σ) rfl rfl q1
  have hit:zI (zx (fVar 4) (za .none) (fVar 3) (za .none)) (ρA ws ds c a7 a8 a9 a10 a11 a12) σ=some ((uL ds c).map .str,σ):=by
    unfold zI
    refine rg s1 ?_; rfl
  have u3:=(wsok_map (ds.take c)).l
  have v3:=(wsok_map (ds.drop c)).l
  have cm:=Zv (f:=zI (zx (fVar 4) (za .none) (fVar 3) (za .none))) (js:= [none,some 3,some 4]) (el:=yh .frz (zI (zx (fVar 2) (fVar 1) (za .none) (za .none))) [none,some 0] (tVar 0) zU (zY (zy (zc (fVar 1) (zc (fVar 0) fNil)) y3)))
    (w:=fun v=>match v with | .str u=> .lst ((vL ds c).map fun v=> .int (Zf u v)) | v=>v) (ρ:=ρA ws ds c a7 a8 a9 a10 a11 a12) (caps:= [.int c,woV ds]) (vs:=(uL ds c).map .str) (σ:=σ) (u:= .undef) hit rfl (by rw [List.length_map,zv]; lia)
    (fun v hv acc=>by
      obtain ⟨u,hu,rfl⟩:=List.mem_map.mp hv
      have hul:=u3 u hu
      obtain ⟨_,q2⟩:=wo_slices (σ:=σ++ [.list acc]) h.hl h.hc
      have s2:=fSlice_from (f:=fVar 2) (g:=fVar 1) (ρ:= [.str u, .int c,woV ds]) (σ:=σ++ [.list acc]) rfl rfl q2
      have hit2:zI (zx (fVar 2) (fVar 1) (za .none) (za .none)) [.str u, .int c,woV ds] (σ++ [.list acc])=some ((vL ds c).map .str,σ++ [.list acc]):=by
        unfold zI
        refine rg s2 ?_; rfl
      have cm2:=Zv (f:=zI (zx (fVar 2) (fVar 1) (za .none) (za .none))) (js:= [none,some 0]) (el:=zy (zc (fVar 1) (zc (fVar 0) fNil)) y3) (w:=fun x=>match x with | .str v=> .int (Zf u v) | x=>x) (ρ:= [.str u, .int c,woV ds]) (caps:= [.str u]) (vs:=(vL ds c).map .str) (σ:=σ++ [.list acc]) (u:= .undef) hit2 rfl (by rw [List.length_map,zv]; omega)
        (fun x hx acc2=>by
          obtain ⟨v,hv',rfl⟩:=List.mem_map.mp hx
          exact zZ (vs:= [.str u, .str v]) rfl (price_eval hul (v3 v hv'))) (fun x hx=>by
          obtain ⟨v,_,rfl⟩:=List.mem_map.mp hx
          rfl)
      rw [List.map_map] at cm2
      exact cm2)
    (fun v hv=>by
      obtain ⟨u,_,rfl⟩:=List.mem_map.mp hv
      exact V.nls_iff.mpr fun x hx=>by
        obtain ⟨y,_,rfl⟩:=List.mem_map.mp hx
        rfl)
  have he:((uL ds c).map V.str).map (fun v=>match v with | .str u=>V.lst ((vL ds c).map fun v=> .int (Zf u v)) | v=>v)=(List.range (uL ds c).length).map fun i=>V.lst ((List.range (vL ds c).length).map fun j=> .int (prP (uL ds c) (vL ds c) (i,j))):=by
    refine rg List.map_map ?_
    have h1:=map_getD (fun u=>V.lst ((vL ds c).map fun v=> .int (Zf u v))) (uL ds c) []
    have h2:(uL ds c).map ((fun v=>match v with | .str u=>V.lst ((vL ds c).map fun v=> .int (Zf u v)) | v=>v)∘V.str)=(uL ds c).map fun u=>V.lst ((vL ds c).map fun v=> .int (Zf u v)):=rfl
    refine rg h2 ?_; refine rl h1 ?_
    refine List.map_congr_left fun i _=>?_
    congr 1
    exact (map_getD (fun v=>V.int (Zf ((uL ds c).getD i []) v)) (vL ds c) []).symm
  rw [he] at cm
  exact zw cm rfl
noncomputable abbrev ZS(ds:List Nat)(c:Nat):List Way:=(runL (uL ds c).length (vL ds c).length).filter (isEnd (uL ds c).length (vL ds c).length)
theorem B11(h:Gd1 ds c){σ:List AObj}{a7 a8 a9 a11 a12:V}:f_law_11 text (ρA ws ds c a7 a8 a9 (pV (uL ds c).length (vL ds c).length (prP (uL ds c) (vL ds c))) a11 a12) σ=some (.next,ρA ws ds c a7 a8 a9 (pV (uL ds c).length (vL ds c).length (prP (uL ds c) (vL ds c))) (pV (uL ds c).length (vL ds c).length (vP ds c)) (.lst ((ZS ds c).map wayV)),σ):=by
  refine xe02 h.lens fun e1 e2=>?_
  have hc:=h.hc
  have e:=all_ways_eval (σ0:=σ) (R:=(uL ds c).length) (Cn:=(vL ds c).length) (P:=prP (uL ds c) (vL ds c)) (n:=65) (by omega) (by omega) (by omega) (by omega) (by exact Nat.le_add_left _ _) h.grid.fin
  exact zw (zZ (vs:= [pV (uL ds c).length (vL ds c).length (prP (uL ds c) (vL ds c))]) rfl e) rfl
end
end Mi
namespace Mi
theorem grid_len(R Cn:Nat):(grid R Cn).length=R*Cn:=by
  unfold grid
  have:∀(l:List Nat),(l.flatMap fun a=>(List.range Cn).map fun b=>(a,b)).length=l.length*Cn:=fun l=>by
    induction l with
    | nil=>simp
    | cons a l ih=>refine rg List.flatMap_cons ?_; refine rg List.length_append ?_; refine rg ih ?_; simp [Nat.succ_mul,Nat.add_comm]
  rw [this,List.length_range]
theorem rng34{n:Nat}(h:n=3∨n=4):yW [.int n]=some (0,(n:Int),1)∧rngL 0 n 1=(List.range n).map fun i:Nat=> .int i:=by
  rcases h with rfl | rfl
  · exact rng0 3 (by exact Nat.le_refl _)
  · exact ⟨by simp [ev_r1],by unfold rngL; refine rg (show rngN 0 ((4:Nat):Int) 1=4 by decide +kernel) ?_; simp⟩
section
variable {ws:List Int}{ds:List Nat}{c:Nat}{text:List Nat}{p:Nat}
noncomputable abbrev gE(ds:List Nat)(c:Nat):List T3:=(grid (uL ds c).length (vL ds c).length).map fun d=>z8 (vP ds c d) d
theorem gE_len(h:Gd1 ds c):(gE ds c).length≤12:=by
  refine xe02 h.lens fun e1 e2=>?_
  have hc:=h.hc
  skip
  simp only [List.length_map,grid_len,e1,e2]
  rcases hc with rfl | rfl <;> decide
theorem n_bnd{a n:Nat}(h:a<n)(k:n≤4):0≤(a:Int)∧(a:Int)<1000:=⟨Int.natCast_nonneg _,Int.ofNat_lt.mpr (Nat.lt_trans (Nat.lt_of_lt_of_le h k) (by decide:4<1000))⟩
theorem gE_bnd(h:Gd1 ds c):∀t∈gE ds c,(0≤t.1∧t.1<1000)∧(0≤t.2.1∧t.2.1<1000)∧(0≤t.2.2∧t.2.2<1000):=fun t ht=>by
  obtain ⟨d,hd,rfl⟩:=List.mem_map.mp ht
  have h1:=ZE.mp hd
  have h2:=h.bnd d h1
  exact ⟨⟨h2.1,Int.lt_of_le_of_lt h2.2 (by decide)⟩,n_bnd h1.1 h.fs.1.2.1,n_bnd h1.2 h.fs.2.2.1⟩
noncomputable def wT(P:C2→Int)(x y:V):V:=match x,y with
  | .int i, .int j=>tV (z8 (P (i.toNat,j.toNat)) (i.toNat,j.toNat))
  | _,_=> .none
theorem all_comp(h:Gd1 ds c){σ:List AObj}{a7 a8 a9 a10 a12:V}:yh .frz (yI (zc (fVar 3) fNil)) [none,none,some 3,some 11] (tVar 0) zU (fNest (yI (zc (fBin (opOf .Sub) (za (.int 7)) (fVar 2)) fNil)) (tVar 1) zU (zY (fTup (zc (fIdx (fIdx (fVar 3) (fVar 0)) (fVar 1)) (zc (fVar 0) (zc (fVar 1) fNil)))))) (ρA ws ds c a7 a8 a9 a10 (pV (uL ds c).length (vL ds c).length (vP ds c)) a12) σ=some (.lst ((gE ds c).map tV),σ):=by
  have r1:=rng34 h.f2.1.1
  have r2:=rng34 h.f2.2.1
  have x1:=h.f2.1.2
  have x2:=h.f2.2.2
  have cm:=fComp_two (f:=yI (zc (fVar 3) fNil)) (f2:=yI (zc (fBin (opOf .Sub) (za (.int 7)) (fVar 2)) fNil)) (js:= [none,none,some 3,some 11]) (el:=fTup (zc (fIdx (fIdx (fVar 3) (fVar 0)) (fVar 1)) (zc (fVar 0) (zc (fVar 1) fNil))))
    (w:=wT (vP ds c)) (ρ:=ρA ws ds c a7 a8 a9 a10 (pV (uL ds c).length (vL ds c).length (vP ds c)) a12) (caps:= [.int c,pV (uL ds c).length (vL ds c).length (vP ds c)]) (us:=(List.range (uL ds c).length).map fun i:Nat=> .int i) (vs:=(List.range (vL ds c).length).map fun i:Nat=> .int i) (σ:=σ) (a:= .undef) (b:= .undef)
    (fRange_of (vs:= [.int c]) rfl (by refine rg x1 ?_; exact r1.1) r1.2) rfl (by
      have hu:((List.range (uL ds c).length).map fun i:Nat=>V.int i).length=(uL ds c).length:=(List.length_map _).trans List.length_range
      have hv:((List.range (vL ds c).length).map fun i:Nat=>V.int i).length=(vL ds c).length:=(List.length_map _).trans List.length_range
      rw [hu,hv,zv]
      exact Nat.le_trans (Nat.mul_le_mul h.fs.1.2.1 h.fs.2.2.1) (by decide))
    (fun x _ u acc=>fRange_of (vs:= [.int (7-(c:Int))]) rfl (by refine rg x2 ?_; exact r2.1) r2.2) (fun x hx y hy acc=>by
      obtain ⟨i,hi,rfl⟩:=List.mem_map.mp hx
      obtain ⟨j,hj,rfl⟩:=List.mem_map.mp hy
      have ix:=pV_idx (σ:=σ++ [AObj.list acc]) (P:=vP ds c) (R:=(uL ds c).length) (Cn:=(vL ds c).length) (f:=fVar 3) (g:=fVar 0) (h:=fVar 1) (ρ:= [.int i, .int j, .int c,pV (uL ds c).length (vL ds c).length (vP ds c)]) (c:=(i,j)) rfl rfl rfl (List.mem_range.mp hi) (List.mem_range.mp hj)
      unfold fTup
      refine rg (zk ix (zk (v:= .int i) rfl (zk (g:=fNil) (v:= .int j) rfl rfl))) ?_
      rfl) (fun x hx y hy=>by
      obtain ⟨i,hi,rfl⟩:=List.mem_map.mp hx
      obtain ⟨j,hj,rfl⟩:=List.mem_map.mp hy
      rfl)
  have he:(((List.range (uL ds c).length).map fun i:Nat=>V.int i).flatMap fun x=>((List.range (vL ds c).length).map fun i:Nat=>V.int i).map (wT (vP ds c) x))=(gE ds c).map tV:=by
    unfold gE grid
    simp only [List.flatMap_map,List.map_flatMap,List.map_flatMap]
    refine congrArg (fun f=>List.flatMap f (List.range (uL ds c).length)) (funext fun i=>?_)
    refine rg List.map_map ?_; refine rg List.map_map ?_; refine rg List.map_map ?_
    refine List.map_congr_left fun j _=>?_
    rfl
  rw [he] at cm
  exact cm
theorem pd_tVs{l:List T3}:V.pd 8 (.lst ((l.map tV).mergeSort vle))=true:=by
  show V.pdAll 7 _=true
  refine pdAll_mem fun v hv=>?_
  obtain ⟨t,_,rfl⟩:=List.mem_map.mp ((List.mergeSort_perm _ _).mem_iff.mp hv)
  rfl
theorem B12(h:Gd1 ds c){σ:List AObj}{D:List T3}{a9 a10 a12:V}(hp:D.Perm (gE ds c)):f_law_12 text (ρA ws ds c (W7 ds c) (.lst (D.map tV)) a9 a10 (pV (uL ds c).length (vL ds c).length (vP ds c)) a12) σ=some (.next,ρA ws ds c (W7 ds c) (.lst (D.map tV)) a9 a10 (pV (uL ds c).length (vL ds c).length (vP ds c)) a12,σ):=by
  have hl:=gE_len h
  have hl2:=hp.length_eq
  have s1:=sorted_tV (σ:=σ) hp (by omega) (gE_bnd h)
  have s2:=sorted_tV (σ:=σ) (List.Perm.refl (gE ds c)) (by omega) (gE_bnd h)
  have c1:zj (zc (fVar 8) fNil) yN (ρA ws ds c (W7 ds c) (.lst (D.map tV)) a9 a10 (pV (uL ds c).length (vL ds c).length (vP ds c)) a12) σ=some (.lst (((gE ds c).map tV).mergeSort vle),σ):=zP (vs:= [.lst (D.map tV)]) rfl s1
  have c2:=zP (F:=yN) (zk (g:=fNil) (all_comp (ws:=ws) h (σ:=σ) (a7:=W7 ds c) (a8:= .lst (D.map tV)) (a9:=a9) (a10:=a10) (a12:=a12)) rfl) s2
  skip
  exact (yC (cmpEq_same (v:= .none) c1 c2 pd_tVs).2).trans rfl
theorem B13{σ:List AObj}{D:List T3}{a7 a9 a10 a11 a12:V}(hn:D.length<64)(hs:D.Pairwise fun a b=>a.1≤b.1):f_law_13 text (ρA ws ds c a7 (.lst (D.map tV)) a9 a10 a11 a12) σ=some (.next,ρA ws ds c a7 (.lst (D.map tV)) a9 a10 a11 a12,σ):=by
  have cm:yh .frz (zI (fVar 8)) [none] (tVar 0) zU (zY (fIdx (fVar 0) (za (.int 0)))) (ρA ws ds c a7 (.lst (D.map tV)) a9 a10 a11 a12) σ=some (.lst ((D.map (·.1)).map .int),σ):=by
    have cm:=Zv (f:=zI (fVar 8)) (js:= [none]) (el:=fIdx (fVar 0) (za (.int 0))) (w:=fun v=>match v with | .tup [x,_,_]=>x | v=>v) (ρ:=ρA ws ds c a7 (.lst (D.map tV)) a9 a10 a11 a12) (caps:= []) (vs:=D.map tV) (σ:=σ) (u:= .undef) rfl rfl (by rw [List.length_map,zv]; lia)
      (fun v hv acc=>by
        obtain ⟨t,_,rfl⟩:=List.mem_map.mp hv
        rfl) (fun v hv=>by
        obtain ⟨t,_,rfl⟩:=List.mem_map.mp hv
        rfl)
    have he:(D.map tV).map (fun v=>match v with | .tup [x,_,_]=>x | v=>v)=(D.map (·.1)).map .int:=by
      refine rg List.map_map ?_; refine rg List.map_map ?_
      rfl
    rw [he] at cm
    exact cm
  have s:=sorted_ints (σ:=σ) (l:=D.map (·.1)) (by rw [List.length_map]; exact hn) (List.pairwise_map.mpr hs)
  have c2:=zP (F:=yN) (zk (g:=fNil) cm rfl) s
  have hp:V.pd 8 (.lst ((D.map (·.1)).map .int))=true:=by
    show V.pdAll 7 _=true
    refine pdAll_mem fun v hv=>?_
    obtain ⟨t,_,rfl⟩:=List.mem_map.mp hv
    rfl
  skip
  exact (yC (cmpEq_same (v:= .none) cm c2 hp).2).trans rfl
theorem imeth_at{n τ}{i:Nat}{name:Str}{F:List V→List AObj→Option (V × List AObj)}{g:EsF}{ρ vs:List V}{pb:List V}{r:Option (V × List AObj)}(hn:(nsL n).lookup name=none)(h0:ρ[i]?=some (.cst 0))(hg:g ρ (LS3 pb n p τ)=some (vs,LS3 pb n p τ))(hF:F (.cst 0::vs) (LS3 pb n p τ)=r):z7 name (fVar i) g F ρ (LS3 pb n p τ)=r:=by
  have h1:fVar i ρ (LS3 pb n p τ)=some (.cst 0,LS3 pb n p τ):=by unfold fVar; refine rg h0 ?_; rfl
  have h2:(LS3 pb n p τ)[1]?=some (.ns (nsL n)):=rfl
  unfold z7
  refine rg h1 ?_
  simp only [h2,hn,hg,hF]
theorem pd_cVs{l:List C2}:V.pd 8 (.lst ((l.map cV).mergeSort vle))=true:=by
  show V.pdAll 7 _=true
  refine pdAll_mem fun v hv=>?_
  obtain ⟨t,_,rfl⟩:=List.mem_map.mp ((List.mergeSort_perm _ _).mem_iff.mp hv)
  rfl
theorem near_perm(h:Gd1 ds c){N:List C2}(q1:N.Nodup)(q3:∀d,d∈N↔Reach (uL ds c).length (vL ds c).length (Bf (uL ds c) (vL ds c) (vP ds c (eC ds c))) (eC ds c) d):N.Perm ((ZS ds c).foldl (fway (prP (uL ds c) (vL ds c)) (vP ds c (eC ds c))) []):=by
  obtain ⟨r0,r4⟩:=h.bnd _ h.e
  refine (List.perm_ext_iff_of_nodup q1 (fways_nodup _ [] (by simp))).mpr fun d=>?_
  rw [q3,fways_mem r0]
  have fr:=free_reach (R:=(uL ds c).length) (Cn:=(vL ds c).length) (B:=fun d=>decide (prP (uL ds c) (vL ds c) d≤vP ds c (eC ds c))) h.grid.K h.fs.1.1 h.fs.2.1 (c:=d)
  have hB:∀d,inb (uL ds c).length (vL ds c).length d→Bf (uL ds c) (vL ds c) (vP ds c (eC ds c)) d=(fun d=>decide (prP (uL ds c) (vL ds c) d≤vP ds c (eC ds c))) d:=fun d hd=>by
    have:=(pair_facts hd).2.2.2 _ r0 r4
    exact decide_eq_decide.mpr this
  constructor
  · intro hr
    obtain ⟨w,hw,a,b,e,q⟩:=fr.mpr (hr.congr h.e hB)
    exact .inr ⟨w,hw,a,b,e,fun d hd=>of_decide_eq_true (q d hd)⟩
  · rintro (hr | ⟨w,hw,a,b,e,q⟩)
    · simp at hr
    · exact (fr.mp ⟨w,hw,a,b,e,fun d hd=>decide_eq_true (q d hd)⟩).congr h.e fun d hd=>(hB d hd).symm
theorem B14(h:Gd1 ds c)(hAt:At text p []){N:List C2}{a7 a8:V}(q1:N.Nodup)(q2:∀d∈N,inb (uL ds c).length (vL ds c).length d)(q3:∀d,d∈N↔Reach (uL ds c).length (vL ds c).length (Bf (uL ds c) (vL ds c) (vP ds c (eC ds c))) (eC ds c) d) :
    f_law_14 text (ρA ws ds c a7 a8 (.lst ((N.map cV).mergeSort vle)) (pV (uL ds c).length (vL ds c).length (prP (uL ds c) (vL ds c))) (pV (uL ds c).length (vL ds c).length (vP ds c)) (.lst ((ZS ds c).map wayV))) (LS3 [] 2 p [])=some (.ret (.bool true),ρA ws ds c a7 a8 (.lst ((N.map cV).mergeSort vle)) (pV (uL ds c).length (vL ds c).length (prP (uL ds c) (vL ds c))) (pV (uL ds c).length (vL ds c).length (vP ds c)) (.lst ((ZS ds c).map wayV)),LS3 [] 2 p []):=by
  have he:=h.e
  obtain ⟨r0,r4⟩:=h.bnd _ he
  have fe:=free_eval (σ0:=LS3 [] 2 p []) (R:=(uL ds c).length) (Cn:=(vL ds c).length) (P:=prP (uL ds c) (vL ds c)) (rope:=vP ds c (eC ds c)) (ws:=ZS ds c) (fun w hw=>⟨(h.grid.K.c4 w (List.mem_filter.mp hw).1).2,h.grid.len w (List.mem_filter.mp hw).1⟩) (Nat.lt_of_le_of_lt (List.length_filter_le _ _) h.grid.cnt) (Nat.le_trans h.fs.1.2.1 (by decide)) (Nat.le_trans h.fs.2.2.1 (by decide)) r0
  have hp:=near_perm h q1 q3
  have hsort:(((ZS ds c).foldl (fway (prP (uL ds c) (vL ds c)) (vP ds c (eC ds c))) []).map cV).mergeSort vle=(N.map cV).mergeSort vle:=sorted_perm hp.symm fun d hd=>by
    have:=q2 d hd
    exact ⟨Nat.lt_of_lt_of_le this.1 (Nat.le_trans h.fs.1.2.1 (by decide)),Nat.lt_of_lt_of_le this.2 (Nat.le_trans h.fs.2.2.1 (by decide))⟩
  generalize (ZS ds c).foldl (fway (prP (uL ds c) (vL ds c)) (vP ds c (eC ds c))) []=F at *
  rw [hsort] at fe
  have x1:(c:Int)-1=(((eC ds c).1:Nat):Int):=h.fs.1.2.2.symm
  have x2:(6:Int)-(c:Int)=(((eC ds c).2:Nat):Int):=h.fs.2.2.2.symm
  have g1:fBin (opOf .Sub) (fVar 3) (za (.int 1)) (ρA ws ds c a7 a8 (.lst ((N.map cV).mergeSort vle)) (pV (uL ds c).length (vL ds c).length (prP (uL ds c) (vL ds c))) (pV (uL ds c).length (vL ds c).length (vP ds c)) (.lst ((ZS ds c).map wayV))) (LS3 [] 2 p [])=some (.int (((eC ds c).1:Nat):Int),LS3 [] 2 p []):=by
    rw [←x1]
    exact zJ (a:= .int c) (b:= .int 1) rfl rfl yS
  have g2:fBin (opOf .Sub) (za (.int 6)) (fVar 3) (ρA ws ds c a7 a8 (.lst ((N.map cV).mergeSort vle)) (pV (uL ds c).length (vL ds c).length (prP (uL ds c) (vL ds c))) (pV (uL ds c).length (vL ds c).length (vP ds c)) (.lst ((ZS ds c).map wayV))) (LS3 [] 2 p [])=some (.int (((eC ds c).2:Nat):Int),LS3 [] 2 p []):=by
    rw [←x2]
    exact zJ (a:= .int 6) (b:= .int c) rfl rfl yS
  have ix:=pV_idx (P:=vP ds c) (R:=(uL ds c).length) (Cn:=(vL ds c).length) (f:=fVar 11) (c:=eC ds c) rfl g1 g2 he.1 he.2
  have fc:=zZ (zk (f:=fVar 12) (v:= .lst ((ZS ds c).map wayV)) rfl (zk (f:=fVar 10) (v:=pV (uL ds c).length (vL ds c).length (prP (uL ds c) (vL ds c))) rfl (zk (g:=fNil) ix rfl))) fe
  have k1:=(cmpEq_same (v:= .none) (f:=fVar 9) rfl fc pd_cVs).1
  have im:=imeth_at (n:=2) (p:=p) (τ:= []) (pb:= []) (i:=6) (g:=fNil) (vs:= []) (ρ:=ρA ws ds c a7 a8 (.lst ((N.map cV).mergeSort vle)) (pV (uL ds c).length (vL ds c).length (prP (uL ds c) (vL ds c))) (pV (uL ds c).length (vL ds c).length (vP ds c)) (.lst ((ZS ds c).map wayV))) no_get rfl rfl (get_none (n:=2) (τ:= []) hAt)
  have at1:yO (fVar 6) "lineno" (ρA ws ds c a7 a8 (.lst ((N.map cV).mergeSort vle)) (pV (uL ds c).length (vL ds c).length (prP (uL ds c) (vL ds c))) (pV (uL ds c).length (vL ds c).length (vP ds c)) (.lst ((ZS ds c).map wayV))) (LS3 [] 2 p [])=some (.int 2,LS3 [] 2 p []):=rfl
  have k2:fCmp .Eq (fTup (zc (z7 "get_token" (fVar 6) fNil (zp text)) (zc (yO (fVar 6) "lineno") fNil))) (fTup (zc (za (.str [])) (zc (za (.int 2)) fNil))) (ρA ws ds c a7 a8 (.lst ((N.map cV).mergeSort vle)) (pV (uL ds c).length (vL ds c).length (prP (uL ds c) (vL ds c))) (pV (uL ds c).length (vL ds c).length (vP ds c)) (.lst ((ZS ds c).map wayV))) (LS3 [] 2 p [])=some (true,LS3 [] 2 p []):=by
    unfold fCmp fTup
    refine rg (zk im (zk (g:=fNil) at1 rfl)) ?_
    rfl
  unfold f_law_14 fRet fAnd2 fBool
  refine rg k1 ?_
  simp only [Option.map_some,k2]
  rfl
end
theorem law1_eval(ws:List Int)(hw:ws.length≤63):LawEval ws:=front ws hw fun ds c hl hc=>by
  have h:Gd1 ds c:=⟨hl,hc⟩
  refine xe12 (B6 (ws:=ws) hl hc) fun p b6 hAt=>?_
  refine xe13 (B8 (ws:=ws) (text:=textOf ds c) h (σ:=LS3 [] 2 p []) (a8:= .undef) (a9:= .undef) (a10:= .undef) (a11:= .undef) (a12:= .undef)) fun D b8 hp hs=>?_
  have hg:=gE_len h
  have hl2:=hp.length_eq
  have hD:D.length≤12:=by refine rg hl2 ?_; exact hg
  refine xe14 (B9 (ws:=ws) h hAt (D:=D) (a9:= .undef) (a10:= .undef) (a11:= .undef) (a12:= .undef) hp (by omega)) fun N b9 q1 q2 q3=>?_
  refine ⟨ρA ws ds c (W7 ds c) (.lst (D.map tV)) (.lst ((N.map cV).mergeSort vle)) (pV (uL ds c).length (vL ds c).length (prP (uL ds c) (vL ds c))) (pV (uL ds c).length (vL ds c).length (vP ds c)) (.lst ((ZS ds c).map wayV)),LS3 [] 2 p [],?_⟩
  skip
  exact zf b6 (zf (B7 hl hc) (zf b8 (zf b9 (zf (B10 h) (zf (B11 h) (zf (B12 h hp) (zf (B13 (by omega) hs) (ZF (B14 h hAt q1 q2 q3)))))))))
theorem final:PySem.Challenge.rw_pg0165_01.Holds:=holds1 law1_eval
end Mi
set_option maxRecDepth 100000 in
set_option maxHeartbeats 8000000 in
theorem PySem.Challenge.cw_pg0165_01_holds : PySem.Challenge.rw_pg0165_01.Holds := by
  exact Mi.final
