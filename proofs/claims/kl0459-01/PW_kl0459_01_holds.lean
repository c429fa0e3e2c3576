import PyProof.Rows.All
import Wide.All
import OpenK.AllK
import Wide.FinOn
import Lean
import PySem.Challenge.RW_kl0459_01
set_option Elab.async false
set_option linter.all false
set_option tactic.hygienic false
set_option hygiene false
set_option compiler.extract_closed false
set_option maxHeartbeats 4000000
namespace Mine
end Mine
section
open PySem PySem.W PyProof.Rows PySem.Calls Mine
set_option maxRecDepth 100000
namespace Mine
noncomputable def G0 (i:Nat):Stmt:=PySem.Challenge.pw_kl0459_01.main.body.getD i (.Pass default)
noncomputable def M3:Stmt→List Stmt
 | .FunctionDef _ _ b _ _ _ _ _ _ _=>b
 | _=>[]
noncomputable def Dr:Stmt→Arguments
 | .FunctionDef _ a _ _ _ _ _ _ _ _=>a
 | _=>default
noncomputable def Z6:Stmt→Scope
 | .FunctionDef _ _ _ _ _ _ s _ _ _=>s
 | _=>default
noncomputable def Dq:Stmt→Str
 | .FunctionDef n _ _ _ _ _ _ _ _ _=>n
 | _=>default
noncomputable def U0 (st:Stmt) (q:Str) (dfl kw code:Value) (pm:Value) (clo:List (Str × Addr)) (ct:Value):FuncData:=
 {name:=Dq st,qualname:=q,params:=Dr st,body:=.stmts (M3 st),scope:=Z6 st,globals:=mainGlobals,closure:=clo,defaults:=dfl,kwdefaults:=kw,doc:=.none,pyModule:=pm,annotations:=none,code:=code,closureTuple:=ct,builtins:=builtinsNs}
noncomputable def DR:Stmt→List Stmt
 | .ClassDef _ _ _ b _ _ _ _ _ _ _=>b
 | _=>[]
noncomputable def W3 (i:Nat):Stmt:=(DR (G0 12)).getD i (.Pass default)
noncomputable def dE (P:Params) (k:Str) (t:Tok) (v:Value):DictEntry:={hash:=PyData.keyHash P k,key:=.str k t,val:=v}
noncomputable def oT (c:String) (d:Data):Obj:={cls:=.type c,data:=d}
noncomputable def Y6 (P:Params):Frag:=[
 (0,W.boot_o_0 P),
 (2,W.boot_o_2 P),
 (3,oT "dict" (.dict #[dE P "__name__" 165 (.str "law_kl0459_01" 401),dE P "__doc__" 166 (.none),dE P "__package__" 167 (.none),dE P "__loader__" 168 (.builtin "__main__.__loader__#opaque"),dE P "__spec__" 169 (.none),dE P "__annotations__" 170 (.ref 6),dE P "__builtins__" 171 (.ref 4),dE P "__file__" 173 (.str "/claim/cut.py" 172),dE P "__cached__" 174 (.none),dE P "_wall" 193 (.ref 21),dE P "insort_right" 208 (.ref 30),dE P "bisect_right" 222 (.ref 39),dE P "insort_left" 235 (.ref 48),dE P "bisect_left" 249 (.ref 57),dE P "COMPILER_FLAG_NAMES" 282 (.ref 58),dE P "pretty_flags" 292 (.ref 65),dE P "_parse_varint" 301 (.ref 72),dE P "EMPTYSTRING" 305 (.str Str.empty 304),dE P "_Accumulator" 400 (.ref 151),dE P "_law_read" 408 (.ref 160),dE P "_law_names" 414 (.ref 165),dE P "_law_level" 420 (.ref 170),dE P "_law_place" 426 (.ref 175),dE P "_law_due" 432 (.ref 180),dE P "_law_met" 438 (.ref 185),dE P "_law_text" 444 (.ref 190),dE P "law" 450 (.ref 195)] 27)),
 (4,W.boot_o_4 P),
 (22,oT "tuple" (.seq #[.int 0 196,.none])),
 (23,oT "dict" (.dict #[dE P "key" 197 (.none)] 1)),
 (29,oT "code" (.fields #[.str "insort_right" 198,.str "insort_right" 199,.str "/claim/cut.py" 200,.int 5 0,.int 4 0,.int 0 0,.int 1 0,.int 3 0,.ref 24,.bool true,.int 181 0,.ref 25,.none,.ref 26,.ref 27,.ref 28,.int 206 0,.int 5 0,.str "/claim/cut.py" 207])),
 (30,oT "function" (.func (U0 (G0 2) "insort_right" (.ref 22) (.ref 23) (.ref 29) (.str "cpy313.bisect" 194) [] .none))),
 (31,oT "tuple" (.seq #[.int 0 209,.none])),
 (32,oT "dict" (.dict #[dE P "key" 210 (.none)] 1)),
 (38,oT "code" (.fields #[.str "bisect_right" 211,.str "bisect_right" 212,.str "/claim/cut.py" 213,.int 11 0,.int 4 0,.int 0 0,.int 1 0,.int 3 0,.ref 33,.bool true,.int 181 0,.ref 34,.none,.ref 35,.ref 36,.ref 37,.int 220 0,.int 11 0,.str "/claim/cut.py" 221])),
 (39,oT "function" (.func (U0 (G0 3) "bisect_right" (.ref 31) (.ref 32) (.ref 38) (.str "cpy313.bisect" 194) [] .none))),
 (40,oT "tuple" (.seq #[.int 0 223,.none])),
 (41,oT "dict" (.dict #[dE P "key" 224 (.none)] 1)),
 (47,oT "code" (.fields #[.str "insort_left" 225,.str "insort_left" 226,.str "/claim/cut.py" 227,.int 31 0,.int 4 0,.int 0 0,.int 1 0,.int 3 0,.ref 42,.bool true,.int 181 0,.ref 43,.none,.ref 44,.ref 45,.ref 46,.int 233 0,.int 31 0,.str "/claim/cut.py" 234])),
 (48,oT "function" (.func (U0 (G0 4) "insort_left" (.ref 40) (.ref 41) (.ref 47) (.str "cpy313.bisect" 194) [] .none))),
 (49,oT "tuple" (.seq #[.int 0 236,.none])),
 (50,oT "dict" (.dict #[dE P "key" 237 (.none)] 1)),
 (56,oT "code" (.fields #[.str "bisect_left" 238,.str "bisect_left" 239,.str "/claim/cut.py" 240,.int 37 0,.int 4 0,.int 0 0,.int 1 0,.int 3 0,.ref 51,.bool true,.int 181 0,.ref 52,.none,.ref 53,.ref 54,.ref 55,.int 247 0,.int 37 0,.str "/claim/cut.py" 248])),
 (57,oT "function" (.func (U0 (G0 5) "bisect_left" (.ref 49) (.ref 50) (.ref 56) (.str "cpy313.bisect" 194) [] .none))),
 (58,oT "dict" (.dict #[{hash:=1,key:=.int 1 252,val:=.str "OPTIMIZED" 253},{hash:=2,key:=.int 2 254,val:=.str "NEWLOCALS" 255},{hash:=4,key:=.int 4 256,val:=.str "VARARGS" 257},{hash:=8,key:=.int 8 258,val:=.str "VARKEYWORDS" 259},{hash:=16,key:=.int 16 260,val:=.str "NESTED" 261},{hash:=32,key:=.int 32 262,val:=.str "GENERATOR" 263},{hash:=64,key:=.int 64 264,val:=.str "NOFREE" 265},{hash:=128,key:=.int 128 266,val:=.str "COROUTINE" 267},{hash:=256,key:=.int 256 268,val:=.str "ITERABLE_COROUTINE" 269},{hash:=512,key:=.int 512 270,val:=.str "ASYNC_GENERATOR" 271}] 10)),
 (64,oT "code" (.fields #[.str "pretty_flags" 283,.str "pretty_flags" 284,.str "/claim/cut.py" 285,.int 59 0,.int 1 0,.int 0 0,.int 0 0,.int 3 0,.ref 59,.bool true,.int 181 0,.ref 60,.none,.ref 61,.ref 62,.ref 63,.int 290 0,.int 59 0,.str "/claim/cut.py" 291])),
 (65,oT "function" (.func (U0 (G0 8) "pretty_flags" .none .none (.ref 64) (.str "cpy313.dis" 250) [] .none))),
 (71,oT "code" (.fields #[.str "_parse_varint" 293,.str "_parse_varint" 294,.str "/claim/cut.py" 295,.int 71 0,.int 1 0,.int 0 0,.int 0 0,.int 3 0,.ref 66,.bool true,.int 181 0,.ref 67,.none,.ref 68,.ref 69,.ref 70,.int 299 0,.int 71 0,.str "/claim/cut.py" 300])),
 (72,oT "function" (.func (U0 (G0 9) "_parse_varint" .none .none (.ref 71) (.str "cpy313.dis" 250) [] .none))),
 (76,oT "cell" (.cell (some (.ref 151)))),
 (81,oT "tuple" (.seq #[.int 0 318])),
 (88,oT "code" (.fields #[.str "__init__" 319,.str "_Accumulator.__init__" 320,.str "/claim/cut.py" 321,.int 83 0,.int 2 0,.int 0 0,.int 0 0,.int 3 0,.ref 83,.bool true,.int 181 0,.ref 84,.none,.ref 85,.ref 86,.ref 87,.int 325 0,.int 83 0,.str "/claim/cut.py" 326])),
 (89,oT "function" (.func (U0 (W3 0) "_Accumulator.__init__" (.ref 81) .none (.ref 88) (.str "cpy313.email.header" 302) [("__class__",76)] (.ref 82)))),
 (95,oT "code" (.fields #[.str "push" 328,.str "_Accumulator.push" 329,.str "/claim/cut.py" 330,.int 87 0,.int 3 0,.int 0 0,.int 0 0,.int 3 0,.ref 90,.bool true,.int 181 0,.ref 91,.none,.ref 92,.ref 93,.ref 94,.int 334 0,.int 87 0,.str "/claim/cut.py" 335])),
 (96,oT "function" (.func (U0 (W3 1) "_Accumulator.push" .none .none (.ref 95) (.str "cpy313.email.header" 302) [] .none))),
 (97,oT "tuple" (.seq #[.int 0 337])),
 (103,oT "code" (.fields #[.str "pop_from" 338,.str "_Accumulator.pop_from" 339,.str "/claim/cut.py" 340,.int 90 0,.int 2 0,.int 0 0,.int 0 0,.int 3 0,.ref 98,.bool true,.int 181 0,.ref 99,.none,.ref 100,.ref 101,.ref 102,.int 344 0,.int 90 0,.str "/claim/cut.py" 345])),
 (104,oT "function" (.func (U0 (W3 2) "_Accumulator.pop_from" (.ref 97) .none (.ref 103) (.str "cpy313.email.header" 302) [] .none))),
 (113,{cls:=.none,data:=.fields #[]}),
 (117,oT "code" (.fields #[.str "__len__" 354,.str "_Accumulator.__len__" 355,.str "/claim/cut.py" 356,.int 98 0,.int 1 0,.int 0 0,.int 0 0,.int 3 0,.ref 112,.bool true,.int 181 0,.ref 113,.none,.ref 114,.ref 115,.ref 116,.int 358 0,.int 98 0,.str "/claim/cut.py" 359])),
 (118,oT "function" (.func (U0 (W3 4) "_Accumulator.__len__" .none .none (.ref 117) (.str "cpy313.email.header" 302) [] .none))),
 (120,{cls:=.none,data:=.fields #[]}),
 (124,oT "code" (.fields #[.str "__str__" 361,.str "_Accumulator.__str__" 362,.str "/claim/cut.py" 363,.int 101 0,.int 1 0,.int 0 0,.int 0 0,.int 3 0,.ref 119,.bool true,.int 181 0,.ref 120,.none,.ref 121,.ref 122,.ref 123,.int 365 0,.int 101 0,.str "/claim/cut.py" 366])),
 (125,oT "function" (.func (U0 (W3 5) "_Accumulator.__str__" .none .none (.ref 124) (.str "cpy313.email.header" 302) [] .none))),
 (147,oT "code" (.fields #[.str "part_count" 383,.str "_Accumulator.part_count" 384,.str "/claim/cut.py" 385,.int 110 0,.int 1 0,.int 0 0,.int 0 0,.int 3 0,.ref 142,.bool true,.int 181 0,.ref 143,.none,.ref 144,.ref 145,.ref 146,.int 388 0,.int 110 0,.str "/claim/cut.py" 389])),
 (148,oT "function" (.func (U0 (W3 8) "_Accumulator.part_count" .none .none (.ref 147) (.str "cpy313.email.header" 302) [("__class__",76)] (.ref 141)))),
 (150,oT "dict" (.dict #[dE P "__module__" 313 (.str "cpy313.email.header" 302),dE P "__firstlineno__" 317 (.int 81 316),dE P "__init__" 327 (.ref 89),dE P "push" 336 (.ref 96),dE P "pop_from" 346 (.ref 104),dE P "pop" 353 (.ref 111),dE P "__len__" 360 (.ref 118),dE P "__str__" 367 (.ref 125),dE P "reset" 375 (.ref 133),dE P "is_onlyws" 382 (.ref 140),dE P "part_count" 390 (.ref 148),dE P "__static_attributes__" 392 (.ref 149),dE P "__dict__" 395 (.ref 152),dE P "__weakref__" 397 (.ref 153),dE P "__doc__" 398 (.none)] 5)),
 (151,{cls:=.type "type",data:=.cls {name:="_Accumulator",bases:=[.type "list"],mro:=[.ref 151,.type "list",.type "object"],ns:=150,qualname:="_Accumulator"},slots:=#[some (.ref 73),none,some (.str "_Accumulator" 306),some (.str "_Accumulator" 314),some (.builtin "list.__new__"),some (.bool true)]}),
 (159,oT "code" (.fields #[.str "_law_read" 403,.str "_law_read" 404,.str "/claim/cut.py" 405,.int 113 0,.int 1 0,.int 0 0,.int 0 0,.int 3 0,.ref 156,.bool true,.int 181 0,.ref 157,.none,.none,.none,.ref 158,.int 406 0,.int 113 0,.str "/claim/cut.py" 407])),
 (160,oT "function" (.func (U0 (G0 14) "_law_read" .none .none (.ref 159) (.str "law_kl0459_01" 401) [] .none))),
 (164,oT "code" (.fields #[.str "_law_names" 409,.str "_law_names" 410,.str "/claim/cut.py" 411,.int 123 0,.int 0 0,.int 0 0,.int 0 0,.int 3 0,.ref 161,.bool true,.int 181 0,.ref 162,.none,.none,.none,.ref 163,.int 412 0,.int 123 0,.str "/claim/cut.py" 413])),
 (165,oT "function" (.func (U0 (G0 15) "_law_names" .none .none (.ref 164) (.str "law_kl0459_01" 401) [] .none))),
 (169,oT "code" (.fields #[.str "_law_level" 415,.str "_law_level" 416,.str "/claim/cut.py" 417,.int 126 0,.int 3 0,.int 0 0,.int 0 0,.int 3 0,.ref 166,.bool true,.int 181 0,.ref 167,.none,.none,.none,.ref 168,.int 418 0,.int 126 0,.str "/claim/cut.py" 419])),
 (170,oT "function" (.func (U0 (G0 16) "_law_level" .none .none (.ref 169) (.str "law_kl0459_01" 401) [] .none))),
 (174,oT "code" (.fields #[.str "_law_place" 421,.str "_law_place" 422,.str "/claim/cut.py" 423,.int 136 0,.int 5 0,.int 0 0,.int 0 0,.int 3 0,.ref 171,.bool true,.int 181 0,.ref 172,.none,.none,.none,.ref 173,.int 424 0,.int 136 0,.str "/claim/cut.py" 425])),
 (175,oT "function" (.func (U0 (G0 17) "_law_place" .none .none (.ref 174) (.str "law_kl0459_01" 401) [] .none))),
 (179,oT "code" (.fields #[.str "_law_due" 427,.str "_law_due" 428,.str "/claim/cut.py" 429,.int 143 0,.int 2 0,.int 0 0,.int 0 0,.int 3 0,.ref 176,.bool true,.int 181 0,.ref 177,.none,.none,.none,.ref 178,.int 430 0,.int 143 0,.str "/claim/cut.py" 431])),
 (180,oT "function" (.func (U0 (G0 18) "_law_due" .none .none (.ref 179) (.str "law_kl0459_01" 401) [] .none))),
 (184,oT "code" (.fields #[.str "_law_met" 433,.str "_law_met" 434,.str "/claim/cut.py" 435,.int 150 0,.int 3 0,.int 0 0,.int 0 0,.int 3 0,.ref 181,.bool true,.int 181 0,.ref 182,.none,.none,.none,.ref 183,.int 436 0,.int 150 0,.str "/claim/cut.py" 437])),
 (185,oT "function" (.func (U0 (G0 19) "_law_met" .none .none (.ref 184) (.str "law_kl0459_01" 401) [] .none))),
 (189,oT "code" (.fields #[.str "_law_text" 439,.str "_law_text" 440,.str "/claim/cut.py" 441,.int 154 0,.int 3 0,.int 0 0,.int 0 0,.int 3 0,.ref 186,.bool true,.int 181 0,.ref 187,.none,.none,.none,.ref 188,.int 442 0,.int 154 0,.str "/claim/cut.py" 443])),
 (190,oT "function" (.func (U0 (G0 20) "_law_text" .none .none (.ref 189) (.str "law_kl0459_01" 401) [] .none))),
 (192,{cls:=.none,data:=.fields #[]}),
 (194,oT "code" (.fields #[.str "law" 445,.str "law" 446,.str "/claim/cut.py" 447,.int 160 0,.int 1 0,.int 0 0,.int 0 0,.int 3 0,.ref 191,.bool true,.int 181 0,.ref 192,.none,.none,.none,.ref 193,.int 448 0,.int 160 0,.str "/claim/cut.py" 449])),
 (195,oT "function" (.func (U0 (G0 21) "law" .none .none (.ref 194) (.str "law_kl0459_01" 401) [] .none)))]
noncomputable def O9:Program:={PySem.Challenge.pw_kl0459_01 with main:={PySem.Challenge.pw_kl0459_01.main with body:=[G0 0,G0 7,G0 8,G0 9,G0 11,G0 12,G0 14,G0 15,G0 16,G0 17,G0 18,G0 19,G0 20,G0 21]}}
noncomputable def jQ:List Str:=["insort_right","bisect_right","insort_left","bisect_left","COMPILER_FLAG_NAMES","_Accumulator"]
noncomputable def da:RowW:=OpenRow.toRowW PySem.Challenge.rw_kl0459_01.row
noncomputable def mX:List Addr:=[0,2,3,4,22,23,29,30,31,32,38,39,40,41,47,48,49,50,56,57,58,64,65,71,72,76,81,88,89,95,96,97,103,104,113,117,118,120,124,125,147,148,150,151,159,160,164,165,169,170,174,175,179,180,184,185,189,190,192,194,195]
theorem Fx (P:Params):mX=(Y6 P).map (·.1):=rfl
noncomputable def R9 (s:Shared):List (Option Obj):=mX.map s.heap.get?
noncomputable def ai (w:World):List (Option Obj):=(Y6 w.params).map fun p=>some p.2
theorem Ac:LeftO da.prog O9 jQ (fun s=>xlAt O9 [] s && recOk (RowW.records da) s) R9 ai 2424:=by
 apply LeftO.of_split "special-get-raises"
 intro w
 kernel_rfl
end Mine
end
section
open PySem PySem.W PyProof.Rows PySem.W.X
namespace Mine
noncomputable def FZ:Prop:=∀ {prog:Program} {w:World} {s₀ s:Shared} {a fa:Addr} {xs:List Int} {vs:List Value} {c:ClaimW} {cl:Str→Option Addr} {mean:ExcName→Option Value} {args:List WData} {E:Value→Shared→Prop} {mg:Str→Option Value} (y:R9 s₀=ai w)
  (hkeep:∀ b o,s₀.heap.get? b=some o→s.heap.get? b=some o) (hns:s.heap.Ns mainGlobals mg) (hmg:mg "law" = some (.ref fa)) (hfile:((prog.main.file:Str) == "/claim/cut.py")=true) (htop:(prog.main.scope.names.lookup ("super":Str)).isSome=false)
  (hg:s.gens=#[]) (ha:s.heap.get? a=some {cls:=.type "list",data:=.seq vs.toArray}) (hvs:IntsAre vs xs) (hsz:¬(63:Int) < xs.length) (hr:∀ cls,c.raises args cls=false) (hp:c.post args (.bool true) args=true),
  wpAny (model prog w) callerA (call (.ref fa) [.ref a]) (fun v s'=>GoodWG c cl mean args s (.ok (.ret v)) s') E s
end Mine
set_option maxRecDepth 100000 in
set_option maxHeartbeats 8000000 in
theorem Mine.CG (X:Mine.FZ):PySem.Challenge.rw_kl0459_01.Holds:=by
 w_on
 refine holds_law (by kernel_rfl) fun said=>?_
 refine holds_openX (q:=Mine.O9) (loose:=Mine.jQ) (Xt:=fun s=>xlAt Mine.O9 [] s && recOk (RowW.records Mine.da) s) (XP:=XL Mine.O9 []) (Yf:=Mine.R9) (Ya:=Mine.ai) (N:=2424) Mine.Ac (fun s e=>xl_of s (Bool.and_eq_true_iff.mp e).1) XL.keeps (by rfl) (by rfl) (by rfl)
  (fun s e=>recFacts_of (Bool.and_eq_true_iff.mp e).2) (by rfl) (by first | assumption | decide +kernel) (by decide +kernel) ⟨rfl,rfl,rfl,rfl,rfl,by decide +kernel⟩ ?hw ?hc
 case hw=>w_witness2
 k_fill
 intro w s₀ s₁ mg mb G y fa o pm cd doc dV kV ho hd hcd hD hmg hg args vals as L hpre hlay hrd hwl hlo
 refine Ground.open G ?_
 intro T B D TE TW
 wrow_args hpre hlay hrd hwl hlo
 rename IntsAre _ _=>hI
 rename Heap.IsList _ _ _=>hL
 refine X y L.keeps T.g hmg ?file ?top hg (script_obj L hL) hI (by assumption) (fun Z=>rfl) ?post
 case file=>rfl
 case top=>rfl
 case post=>wrow_post
end
section
open PySem PySem.W PyProof.Rows PySem.Calls Mine
set_option maxRecDepth 100000
namespace Mine
theorem B0 {a0:Prop} {a1:Prop} {G:Prop} (h:a0∧a1) (k:a0→a1→G):G:=by
  obtain ⟨h0,h1⟩:=h;exact k h0 h1
theorem o0 {α0:Sort _} {a1:α0→Prop} {G:Prop} (h:∃ x0,a1 x0) (k:∀ x0,a1 x0→G):G:=by
  obtain ⟨x0,h1⟩:=h;exact k x0 h1
theorem V1 {a0:Prop} {a1:Prop} {a2:Prop} {G:Prop} (h:a0∧a1∧a2) (k:a0→a1→a2→G):G:=by
  obtain ⟨h0,h1,h2⟩:=h;exact k h0 h1 h2
theorem P5 {α0:Sort _} {a0:Prop} {a2:α0→Prop} {G:Prop} (h:a0∧∃ x0,a2 x0) (k:a0→∀ x0,a2 x0→G):G:=by
  obtain ⟨h0,x0,h2⟩:=h;exact k h0 x0 h2
theorem z0 {α0:Sort _} {a1:α0→Prop} {a2:α0→Prop} {G:Prop} (h:∃ x0,a1 x0∧a2 x0) (k:∀ x0,a1 x0→a2 x0→G):G:=by
  obtain ⟨x0,h1,h2⟩:=h;exact k x0 h1 h2
theorem i8 {α0 α1:Sort _} {a2:α0→α1→Prop} {G:Prop} (h:∃ x0,∃ x1,a2 x0 x1) (k:∀ x0,∀ x1,a2 x0 x1→G):G:=by
  obtain ⟨x0,x1,h2⟩:=h;exact k x0 x1 h2
theorem P1 {a0:Prop} {a1:Prop} {a2:Prop} {a3:Prop} {G:Prop} (h:a0∧a1∧a2∧a3) (k:a0→a1→a2→a3→G):G:=by
  obtain ⟨h0,h1,h2,h3⟩:=h;exact k h0 h1 h2 h3
theorem Dd {α0:Sort _} {a0:Prop} {a2:α0→Prop} {a3:α0→Prop} {G:Prop} (h:a0∧∃ x0,a2 x0∧a3 x0) (k:a0→∀ x0,a2 x0→a3 x0→G):G:=by
  obtain ⟨h0,x0,h2,h3⟩:=h;exact k h0 x0 h2 h3
theorem cj {α0 α1:Sort _} {a0:Prop} {a3:α0→α1→Prop} {G:Prop} (h:a0∧∃ x0,∃ x1,a3 x0 x1) (k:a0→∀ x0,∀ x1,a3 x0 x1→G):G:=by
  obtain ⟨h0,x0,x1,h3⟩:=h;exact k h0 x0 x1 h3
theorem J2 {α0:Sort _} {a1:α0→Prop} {a2:α0→Prop} {a3:α0→Prop} {G:Prop} (h:∃ x0,a1 x0∧a2 x0∧a3 x0) (k:∀ x0,a1 x0→a2 x0→a3 x0→G):G:=by
  obtain ⟨x0,h1,h2,h3⟩:=h;exact k x0 h1 h2 h3
theorem V0 {α0 α1:Sort _} {a2:α0→α1→Prop} {a3:α0→α1→Prop} {G:Prop} (h:∃ x0,∃ x1,a2 x0 x1∧a3 x0 x1) (k:∀ x0,∀ x1,a2 x0 x1→a3 x0 x1→G):G:=by
  obtain ⟨x0,x1,h2,h3⟩:=h;exact k x0 x1 h2 h3
theorem O8 {α0 α1 α2:Sort _} {a3:α0→α1→α2→Prop} {G:Prop} (h:∃ x0,∃ x1,∃ x2,a3 x0 x1 x2) (k:∀ x0,∀ x1,∀ x2,a3 x0 x1 x2→G):G:=by
  obtain ⟨x0,x1,x2,h3⟩:=h;exact k x0 x1 x2 h3
theorem F9 {a0:Prop} {a1:Prop} {a2:Prop} {a3:Prop} {a4:Prop} {G:Prop} (h:a0∧a1∧a2∧a3∧a4) (k:a0→a1→a2→a3→a4→G):G:=by
  obtain ⟨h0,h1,h2,h3,h4⟩:=h;exact k h0 h1 h2 h3 h4
theorem De {α0:Sort _} {a0:Prop} {a1:Prop} {a3:α0→Prop} {a4:α0→Prop} {G:Prop} (h:a0∧a1∧∃ x0,a3 x0∧a4 x0) (k:a0→a1→∀ x0,a3 x0→a4 x0→G):G:=by
  obtain ⟨h0,h1,x0,h3,h4⟩:=h;exact k h0 h1 x0 h3 h4
theorem Q3 {α0 α1:Sort _} {a0:Prop} {a3:α0→α1→Prop} {a4:α0→α1→Prop} {G:Prop} (h:a0∧∃ x0,∃ x1,a3 x0 x1∧a4 x0 x1) (k:a0→∀ x0,∀ x1,a3 x0 x1→a4 x0 x1→G):G:=by
  obtain ⟨h0,x0,x1,h3,h4⟩:=h;exact k h0 x0 x1 h3 h4
theorem P8 {α0:Sort _} {a1:α0→Prop} {a2:α0→Prop} {a3:α0→Prop} {a4:α0→Prop} {G:Prop} (h:∃ x0,a1 x0∧a2 x0∧a3 x0∧a4 x0) (k:∀ x0,a1 x0→a2 x0→a3 x0→a4 x0→G):G:=by
  obtain ⟨x0,h1,h2,h3,h4⟩:=h;exact k x0 h1 h2 h3 h4
theorem eZ {α0 α1:Sort _} {a2:α0→α1→Prop} {a3:α0→α1→Prop} {a4:α0→α1→Prop} {G:Prop} (h:∃ x0,∃ x1,a2 x0 x1∧a3 x0 x1∧a4 x0 x1) (k:∀ x0,∀ x1,a2 x0 x1→a3 x0 x1→a4 x0 x1→G):G:=by
  obtain ⟨x0,x1,h2,h3,h4⟩:=h;exact k x0 x1 h2 h3 h4
theorem cf {α0 α1 α2:Sort _} {a3:α0→α1→α2→Prop} {a4:α0→α1→α2→Prop} {G:Prop} (h:∃ x0,∃ x1,∃ x2,a3 x0 x1 x2∧a4 x0 x1 x2) (k:∀ x0,∀ x1,∀ x2,a3 x0 x1 x2→a4 x0 x1 x2→G):G:=by
  obtain ⟨x0,x1,x2,h3,h4⟩:=h;exact k x0 x1 x2 h3 h4
theorem w5 {a0:Prop} {a1:Prop} {a2:Prop} {a3:Prop} {a4:Prop} {a5:Prop} {G:Prop} (h:a0∧a1∧a2∧a3∧a4∧a5) (k:a0→a1→a2→a3→a4→a5→G):G:=by
  obtain ⟨h0,h1,h2,h3,h4,h5⟩:=h;exact k h0 h1 h2 h3 h4 h5
theorem Q2 {α0:Sort _} {a0:Prop} {a1:Prop} {a2:Prop} {a4:α0→Prop} {a5:α0→Prop} {G:Prop} (h:a0∧a1∧a2∧∃ x0,a4 x0∧a5 x0) (k:a0→a1→a2→∀ x0,a4 x0→a5 x0→G):G:=by
  obtain ⟨h0,h1,h2,x0,h4,h5⟩:=h;exact k h0 h1 h2 x0 h4 h5
theorem av {α0:Sort _} {a0:Prop} {a2:α0→Prop} {a3:α0→Prop} {a4:α0→Prop} {a5:α0→Prop} {G:Prop} (h:a0∧∃ x0,a2 x0∧a3 x0∧a4 x0∧a5 x0) (k:a0→∀ x0,a2 x0→a3 x0→a4 x0→a5 x0→G):G:=by
  obtain ⟨h0,x0,h2,h3,h4,h5⟩:=h;exact k h0 x0 h2 h3 h4 h5
theorem cg {α0 α1:Sort _} {a0:Prop} {a3:α0→α1→Prop} {f4:α1→α0} {f5:α1} {G:Prop} (h:a0∧∃ x0,∃ x1,a3 x0 x1∧x0=f4 x1∧x1=f5) (k:a0→a3 (f4 f5) f5→G):G:=by
  obtain ⟨h0,x0,x1,h3,rfl,rfl⟩:=h;exact k h0 h3
theorem fb {α0:Sort _} {a1:α0→Prop} {a2:α0→Prop} {a3:α0→Prop} {a4:α0→Prop} {a5:α0→Prop} {G:Prop} (h:∃ x0,a1 x0∧a2 x0∧a3 x0∧a4 x0∧a5 x0) (k:∀ x0,a1 x0→a2 x0→a3 x0→a4 x0→a5 x0→G):G:=by
  obtain ⟨x0,h1,h2,h3,h4,h5⟩:=h;exact k x0 h1 h2 h3 h4 h5
theorem lF {α0 α1:Sort _} {a2:α0→α1→Prop} {a3:α0→α1→Prop} {a4:α0→α1→Prop} {a5:α0→α1→Prop} {G:Prop} (h:∃ x0,∃ x1,a2 x0 x1∧a3 x0 x1∧a4 x0 x1∧a5 x0 x1) (k:∀ x0,∀ x1,a2 x0 x1→a3 x0 x1→a4 x0 x1→a5 x0 x1→G):G:=by
  obtain ⟨x0,x1,h2,h3,h4,h5⟩:=h;exact k x0 x1 h2 h3 h4 h5
theorem CX {α0 α1 α2:Sort _} {a3:α0→α1→α2→Prop} {a4:α0→α1→α2→Prop} {a5:α0→α1→α2→Prop} {G:Prop} (h:∃ x0,∃ x1,∃ x2,a3 x0 x1 x2∧a4 x0 x1 x2∧a5 x0 x1 x2) (k:∀ x0,∀ x1,∀ x2,a3 x0 x1 x2→a4 x0 x1 x2→a5 x0 x1 x2→G):G:=by
  obtain ⟨x0,x1,x2,h3,h4,h5⟩:=h;exact k x0 x1 x2 h3 h4 h5
theorem aq {α0 α1 α2 α3:Sort _} {a4:α0→α1→α2→α3→Prop} {a5:α0→α1→α2→α3→Prop} {G:Prop} (h:∃ x0,∃ x1,∃ x2,∃ x3,a4 x0 x1 x2 x3∧a5 x0 x1 x2 x3) (k:∀ x0,∀ x1,∀ x2,∀ x3,a4 x0 x1 x2 x3→a5 x0 x1 x2 x3→G):G:=by
  obtain ⟨x0,x1,x2,x3,h4,h5⟩:=h;exact k x0 x1 x2 x3 h4 h5
theorem fj {a0:Prop} {a1:Prop} {a2:Prop} {a3:Prop} {a4:Prop} {a5:Prop} {a6:Prop} {G:Prop} (h:a0∧a1∧a2∧a3∧a4∧a5∧a6) (k:a0→a1→a2→a3→a4→a5→a6→G):G:=by
  obtain ⟨h0,h1,h2,h3,h4,h5,h6⟩:=h;exact k h0 h1 h2 h3 h4 h5 h6
theorem Dl {α0:Sort _} {a0:Prop} {a1:Prop} {a2:Prop} {a4:α0→Prop} {a5:α0→Prop} {a6:α0→Prop} {G:Prop} (h:a0∧a1∧a2∧∃ x0,a4 x0∧a5 x0∧a6 x0) (k:a0→a1→a2→∀ x0,a4 x0→a5 x0→a6 x0→G):G:=by
  obtain ⟨h0,h1,h2,x0,h4,h5,h6⟩:=h;exact k h0 h1 h2 x0 h4 h5 h6
theorem Dg {α0 α1:Sort _} {a0:Prop} {a1:Prop} {a2:Prop} {a4:α0→Prop} {f6:α1→α0} {G:Prop} (h:a0∧a1∧a2∧∃ x0,a4 x0∧∃ x1,x0=f6 x1) (k:∀ x1,a0→a1→a2→a4 (f6 x1)→G):G:=by
  obtain ⟨h0,h1,h2,x0,h4,x1,rfl⟩:=h;exact k x1 h0 h1 h2 h4
theorem ci {α0 α1:Sort _} {a0:Prop} {a3:α0→α1→Prop} {a4:α0→α1→Prop} {a5:α0→α1→Prop} {a6:α0→α1→Prop} {G:Prop} (h:a0∧∃ x0,∃ x1,a3 x0 x1∧a4 x0 x1∧a5 x0 x1∧a6 x0 x1) (k:a0→∀ x0,∀ x1,a3 x0 x1→a4 x0 x1→a5 x0 x1→a6 x0 x1→G):G:=by
  obtain ⟨h0,x0,x1,h3,h4,h5,h6⟩:=h;exact k h0 x0 x1 h3 h4 h5 h6
theorem ff {α0 α1:Sort _} {a0:Prop} {a3:α0→α1→Prop} {a4:α0→α1→Prop} {f5:α1→α0} {f6:α1} {G:Prop} (h:a0∧∃ x0,∃ x1,a3 x0 x1∧a4 x0 x1∧x0=f5 x1∧x1=f6) (k:a0→a3 (f5 f6) f6→a4 (f5 f6) f6→G):G:=by
  obtain ⟨h0,x0,x1,h3,h4,rfl,rfl⟩:=h;exact k h0 h3 h4
theorem G7 {α0 α1 α2:Sort _} {a0:Prop} {a3:α0→α1→Prop} {a5:α0→α1→α2→Prop} {a6:α0→α1→α2→Prop} {G:Prop} (h:a0∧∃ x0,∃ x1,a3 x0 x1∧∃ x2,a5 x0 x1 x2∧a6 x0 x1 x2) (k:a0→∀ x0,∀ x1,a3 x0 x1→∀ x2,a5 x0 x1 x2→a6 x0 x1 x2→G):G:=by
  obtain ⟨h0,x0,x1,h3,x2,h5,h6⟩:=h;exact k h0 x0 x1 h3 x2 h5 h6
theorem lG {α0:Sort _} {a1:α0→Prop} {a2:α0→Prop} {a3:α0→Prop} {a4:α0→Prop} {a5:α0→Prop} {a6:α0→Prop} {G:Prop} (h:∃ x0,a1 x0∧a2 x0∧a3 x0∧a4 x0∧a5 x0∧a6 x0) (k:∀ x0,a1 x0→a2 x0→a3 x0→a4 x0→a5 x0→a6 x0→G):G:=by
  obtain ⟨x0,h1,h2,h3,h4,h5,h6⟩:=h;exact k x0 h1 h2 h3 h4 h5 h6
theorem lE {α0 α1:Sort _} {a2:α0→α1→Prop} {a3:α0→α1→Prop} {a4:α0→α1→Prop} {a5:α0→α1→Prop} {a6:α0→α1→Prop} {G:Prop} (h:∃ x0,∃ x1,a2 x0 x1∧a3 x0 x1∧a4 x0 x1∧a5 x0 x1∧a6 x0 x1) (k:∀ x0,∀ x1,a2 x0 x1→a3 x0 x1→a4 x0 x1→a5 x0 x1→a6 x0 x1→G):G:=by
  obtain ⟨x0,x1,h2,h3,h4,h5,h6⟩:=h;exact k x0 x1 h2 h3 h4 h5 h6
theorem eY {α0 α1 α2:Sort _} {a3:α0→α1→α2→Prop} {a4:α0→α1→α2→Prop} {a5:α0→α1→α2→Prop} {a6:α0→α1→α2→Prop} {G:Prop} (h:∃ x0,∃ x1,∃ x2,a3 x0 x1 x2∧a4 x0 x1 x2∧a5 x0 x1 x2∧a6 x0 x1 x2) (k:∀ x0,∀ x1,∀ x2,a3 x0 x1 x2→a4 x0 x1 x2→a5 x0 x1 x2→a6 x0 x1 x2→G):G:=by
  obtain ⟨x0,x1,x2,h3,h4,h5,h6⟩:=h;exact k x0 x1 x2 h3 h4 h5 h6
theorem an {α0 α1 α2 α3:Sort _} {a4:α0→α1→α2→α3→Prop} {a5:α0→α1→α2→α3→Prop} {a6:α0→α1→α2→α3→Prop} {G:Prop} (h:∃ x0,∃ x1,∃ x2,∃ x3,a4 x0 x1 x2 x3∧a5 x0 x1 x2 x3∧a6 x0 x1 x2 x3) (k:∀ x0,∀ x1,∀ x2,∀ x3,a4 x0 x1 x2 x3→a5 x0 x1 x2 x3→a6 x0 x1 x2 x3→G):G:=by
  obtain ⟨x0,x1,x2,x3,h4,h5,h6⟩:=h;exact k x0 x1 x2 x3 h4 h5 h6
theorem cn {a0:Prop} {a1:Prop} {a2:Prop} {a3:Prop} {a4:Prop} {a5:Prop} {a6:Prop} {a7:Prop} {G:Prop} (h:a0∧a1∧a2∧a3∧a4∧a5∧a6∧a7) (k:a0→a1→a2→a3→a4→a5→a6→a7→G):G:=by
  obtain ⟨h0,h1,h2,h3,h4,h5,h6,h7⟩:=h;exact k h0 h1 h2 h3 h4 h5 h6 h7
theorem lN {α0:Sort _} {a0:Prop} {a1:Prop} {a2:Prop} {a3:Prop} {a4:Prop} {a6:α0→Prop} {a7:α0→Prop} {G:Prop} (h:a0∧a1∧a2∧a3∧a4∧∃ x0,a6 x0∧a7 x0) (k:a0→a1→a2→a3→a4→∀ x0,a6 x0→a7 x0→G):G:=by
  obtain ⟨h0,h1,h2,h3,h4,x0,h6,h7⟩:=h;exact k h0 h1 h2 h3 h4 x0 h6 h7
theorem Do {α0:Sort _} {a0:Prop} {a1:Prop} {a2:Prop} {a3:Prop} {a5:α0→Prop} {a6:α0→Prop} {a7:α0→Prop} {G:Prop} (h:a0∧a1∧a2∧a3∧∃ x0,a5 x0∧a6 x0∧a7 x0) (k:a0→a1→a2→a3→∀ x0,a5 x0→a6 x0→a7 x0→G):G:=by
  obtain ⟨h0,h1,h2,h3,x0,h5,h6,h7⟩:=h;exact k h0 h1 h2 h3 x0 h5 h6 h7
theorem Dj {α0:Sort _} {a0:Prop} {a1:Prop} {a2:Prop} {a4:α0→Prop} {a5:α0→Prop} {a6:α0→Prop} {a7:α0→Prop} {G:Prop} (h:a0∧a1∧a2∧∃ x0,a4 x0∧a5 x0∧a6 x0∧a7 x0) (k:a0→a1→a2→∀ x0,a4 x0→a5 x0→a6 x0→a7 x0→G):G:=by
  obtain ⟨h0,h1,h2,x0,h4,h5,h6,h7⟩:=h;exact k h0 h1 h2 x0 h4 h5 h6 h7
theorem Di {α0 α1:Sort _} {a0:Prop} {a1:Prop} {a2:Prop} {a4:α0→Prop} {a6:α0→α1→Prop} {a7:α0→α1→Prop} {G:Prop} (h:a0∧a1∧a2∧∃ x0,a4 x0∧∃ x1,a6 x0 x1∧a7 x0 x1) (k:a0→a1→a2→∀ x0,a4 x0→∀ x1,a6 x0 x1→a7 x0 x1→G):G:=by
  obtain ⟨h0,h1,h2,x0,h4,x1,h6,h7⟩:=h;exact k h0 h1 h2 x0 h4 x1 h6 h7
theorem lM {α0 α1 α2:Sort _} {a0:Prop} {a1:Prop} {a2:Prop} {a4:α0→Prop} {a7:α0→α1→α2→Prop} {G:Prop} (h:a0∧a1∧a2∧∃ x0,a4 x0∧∃ x1,∃ x2,a7 x0 x1 x2) (k:a0→a1→a2→∀ x0,a4 x0→∀ x1,∀ x2,a7 x0 x1 x2→G):G:=by
  obtain ⟨h0,h1,h2,x0,h4,x1,x2,h7⟩:=h;exact k h0 h1 h2 x0 h4 x1 x2 h7
theorem fh {α0 α1:Sort _} {a0:Prop} {a1:Prop} {a2:Prop} {a4:α0→Prop} {f6:α1→α0} {a7:α0→α1→Prop} {G:Prop} (h:a0∧a1∧a2∧∃ x0,a4 x0∧∃ x1,x0=f6 x1∧a7 x0 x1) (k:∀ x1,a0→a1→a2→a4 (f6 x1)→a7 (f6 x1) x1→G):G:=by
  obtain ⟨h0,h1,h2,x0,h4,x1,rfl,h7⟩:=h;exact k x1 h0 h1 h2 h4 h7
theorem E9 {α0:Sort _} {a0:Prop} {a1:Prop} {a3:α0→Prop} {a4:α0→Prop} {a5:α0→Prop} {a6:α0→Prop} {a7:α0→Prop} {G:Prop} (h:a0∧a1∧∃ x0,a3 x0∧a4 x0∧a5 x0∧a6 x0∧a7 x0) (k:a0→a1→∀ x0,a3 x0→a4 x0→a5 x0→a6 x0→a7 x0→G):G:=by
  obtain ⟨h0,h1,x0,h3,h4,h5,h6,h7⟩:=h;exact k h0 h1 x0 h3 h4 h5 h6 h7
theorem fg {α0 α1 α2:Sort _} {a0:Prop} {a3:α0→α1→Prop} {a4:α0→α1→Prop} {a5:α0→α1→Prop} {f7:α0→α2→α1} {G:Prop} (h:a0∧∃ x0,∃ x1,a3 x0 x1∧a4 x0 x1∧a5 x0 x1∧∃ x2,x1=f7 x0 x2) (k:∀ x0,∀ x2,a0→a3 x0 (f7 x0 x2)→a4 x0 (f7 x0 x2)→a5 x0 (f7 x0 x2)→G):G:=by
  obtain ⟨h0,x0,x1,h3,h4,h5,x2,rfl⟩:=h;exact k x0 x2 h0 h3 h4 h5
theorem Db {α0 α1 α2:Sort _} {a0:Prop} {a3:α0→α1→Prop} {a5:α0→α1→α2→Prop} {a6:α0→α1→α2→Prop} {a7:α0→α1→α2→Prop} {G:Prop} (h:a0∧∃ x0,∃ x1,a3 x0 x1∧∃ x2,a5 x0 x1 x2∧a6 x0 x1 x2∧a7 x0 x1 x2) (k:a0→∀ x0,∀ x1,a3 x0 x1→∀ x2,a5 x0 x1 x2→a6 x0 x1 x2→a7 x0 x1 x2→G):G:=by
  obtain ⟨h0,x0,x1,h3,x2,h5,h6,h7⟩:=h;exact k h0 x0 x1 h3 x2 h5 h6 h7
theorem ch {α0 α1 α2 α3:Sort _} {a0:Prop} {a3:α0→α1→Prop} {a5:α0→α1→α2→Prop} {a7:α0→α1→α2→α3→Prop} {G:Prop} (h:a0∧∃ x0,∃ x1,a3 x0 x1∧∃ x2,a5 x0 x1 x2∧∃ x3,a7 x0 x1 x2 x3) (k:a0→∀ x0,∀ x1,a3 x0 x1→∀ x2,a5 x0 x1 x2→∀ x3,a7 x0 x1 x2 x3→G):G:=by
  obtain ⟨h0,x0,x1,h3,x2,h5,x3,h7⟩:=h;exact k h0 x0 x1 h3 x2 h5 x3 h7
theorem Da {α0 α1 α2 α3 α4:Sort _} {a0:Prop} {a3:α0→α1→Prop} {a7:α0→α1→α2→α3→α4→Prop} {G:Prop} (h:a0∧∃ x0,∃ x1,a3 x0 x1∧∃ x2,∃ x3,∃ x4,a7 x0 x1 x2 x3 x4) (k:a0→∀ x0,∀ x1,a3 x0 x1→∀ x2,∀ x3,∀ x4,a7 x0 x1 x2 x3 x4→G):G:=by
  obtain ⟨h0,x0,x1,h3,x2,x3,x4,h7⟩:=h;exact k h0 x0 x1 h3 x2 x3 x4 h7
theorem lJ {α0 α1 α2:Sort _} {a0:Prop} {a3:α0→α1→Prop} {f5:α0→α2→α1} {a6:α0→α1→α2→Prop} {a7:α0→α1→α2→Prop} {G:Prop} (h:a0∧∃ x0,∃ x1,a3 x0 x1∧∃ x2,x1=f5 x0 x2∧a6 x0 x1 x2∧a7 x0 x1 x2) (k:∀ x0,∀ x2,a0→a3 x0 (f5 x0 x2)→a6 x0 (f5 x0 x2) x2→a7 x0 (f5 x0 x2) x2→G):G:=by
  obtain ⟨h0,x0,x1,h3,x2,rfl,h6,h7⟩:=h;exact k x0 x2 h0 h3 h6 h7
theorem lH {α0 α1 α2 α3:Sort _} {a0:Prop} {a5:α0→α1→α2→α3→Prop} {a6:α0→α1→α2→α3→Prop} {a7:α0→α1→α2→α3→Prop} {G:Prop} (h:a0∧∃ x0,∃ x1,∃ x2,∃ x3,a5 x0 x1 x2 x3∧a6 x0 x1 x2 x3∧a7 x0 x1 x2 x3) (k:a0→∀ x0,∀ x1,∀ x2,∀ x3,a5 x0 x1 x2 x3→a6 x0 x1 x2 x3→a7 x0 x1 x2 x3→G):G:=by
  obtain ⟨h0,x0,x1,x2,x3,h5,h6,h7⟩:=h;exact k h0 x0 x1 x2 x3 h5 h6 h7
theorem CY {α0 α1 α2 α3 α4:Sort _} {a0:Prop} {a6:α0→α1→α2→α3→α4→Prop} {a7:α0→α1→α2→α3→α4→Prop} {G:Prop} (h:a0∧∃ x0,∃ x1,∃ x2,∃ x3,∃ x4,a6 x0 x1 x2 x3 x4∧a7 x0 x1 x2 x3 x4) (k:a0→∀ x0,∀ x1,∀ x2,∀ x3,∀ x4,a6 x0 x1 x2 x3 x4→a7 x0 x1 x2 x3 x4→G):G:=by
  obtain ⟨h0,x0,x1,x2,x3,x4,h6,h7⟩:=h;exact k h0 x0 x1 x2 x3 x4 h6 h7
theorem i6 {α0 α1:Sort _} {a2:α0→α1→Prop} {a3:α0→α1→Prop} {a4:α0→α1→Prop} {a5:α0→α1→Prop} {a6:α0→α1→Prop} {a7:α0→α1→Prop} {G:Prop} (h:∃ x0,∃ x1,a2 x0 x1∧a3 x0 x1∧a4 x0 x1∧a5 x0 x1∧a6 x0 x1∧a7 x0 x1) (k:∀ x0,∀ x1,a2 x0 x1→a3 x0 x1→a4 x0 x1→a5 x0 x1→a6 x0 x1→a7 x0 x1→G):G:=by
  obtain ⟨x0,x1,h2,h3,h4,h5,h6,h7⟩:=h;exact k x0 x1 h2 h3 h4 h5 h6 h7
theorem au {α0 α1 α2:Sort _} {a3:α0→α1→α2→Prop} {a4:α0→α1→α2→Prop} {a5:α0→α1→α2→Prop} {a6:α0→α1→α2→Prop} {a7:α0→α1→α2→Prop} {G:Prop} (h:∃ x0,∃ x1,∃ x2,a3 x0 x1 x2∧a4 x0 x1 x2∧a5 x0 x1 x2∧a6 x0 x1 x2∧a7 x0 x1 x2) (k:∀ x0,∀ x1,∀ x2,a3 x0 x1 x2→a4 x0 x1 x2→a5 x0 x1 x2→a6 x0 x1 x2→a7 x0 x1 x2→G):G:=by
  obtain ⟨x0,x1,x2,h3,h4,h5,h6,h7⟩:=h;exact k x0 x1 x2 h3 h4 h5 h6 h7
theorem D9 {α0 α1 α2 α3:Sort _} {a4:α0→α1→α2→α3→Prop} {a5:α0→α1→α2→α3→Prop} {a6:α0→α1→α2→α3→Prop} {a7:α0→α1→α2→α3→Prop} {G:Prop} (h:∃ x0,∃ x1,∃ x2,∃ x3,a4 x0 x1 x2 x3∧a5 x0 x1 x2 x3∧a6 x0 x1 x2 x3∧a7 x0 x1 x2 x3) (k:∀ x0,∀ x1,∀ x2,∀ x3,a4 x0 x1 x2 x3→a5 x0 x1 x2 x3→a6 x0 x1 x2 x3→a7 x0 x1 x2 x3→G):G:=by
  obtain ⟨x0,x1,x2,x3,h4,h5,h6,h7⟩:=h;exact k x0 x1 x2 x3 h4 h5 h6 h7
theorem e8 {α0 α1 α2 α3 α4:Sort _} {a5:α0→α1→α2→α3→α4→Prop} {a6:α0→α1→α2→α3→α4→Prop} {a7:α0→α1→α2→α3→α4→Prop} {G:Prop} (h:∃ x0,∃ x1,∃ x2,∃ x3,∃ x4,a5 x0 x1 x2 x3 x4∧a6 x0 x1 x2 x3 x4∧a7 x0 x1 x2 x3 x4) (k:∀ x0,∀ x1,∀ x2,∀ x3,∀ x4,a5 x0 x1 x2 x3 x4→a6 x0 x1 x2 x3 x4→a7 x0 x1 x2 x3 x4→G):G:=by
  obtain ⟨x0,x1,x2,x3,x4,h5,h6,h7⟩:=h;exact k x0 x1 x2 x3 x4 h5 h6 h7
theorem V4 {α0 α1 α2 α3 α4 α5 α6:Sort _} {a7:α0→α1→α2→α3→α4→α5→α6→Prop} {G:Prop} (h:∃ x0,∃ x1,∃ x2,∃ x3,∃ x4,∃ x5,∃ x6,a7 x0 x1 x2 x3 x4 x5 x6) (k:∀ x0,∀ x1,∀ x2,∀ x3,∀ x4,∀ x5,∀ x6,a7 x0 x1 x2 x3 x4 x5 x6→G):G:=by
  obtain ⟨x0,x1,x2,x3,x4,x5,x6,h7⟩:=h;exact k x0 x1 x2 x3 x4 x5 x6 h7
theorem lL {α0 α1 α2 α3:Sort _} {a0:Prop} {a1:Prop} {a2:Prop} {a4:α0→Prop} {f8:α1→α2→α3→α0} {G:Prop} (h:a0∧a1∧a2∧∃ x0,a4 x0∧∃ x1,∃ x2,∃ x3,x0=f8 x1 x2 x3) (k:∀ x1,∀ x2,∀ x3,a0→a1→a2→a4 (f8 x1 x2 x3)→G):G:=by
  obtain ⟨h0,h1,h2,x0,h4,x1,x2,x3,rfl⟩:=h;exact k x1 x2 x3 h0 h1 h2 h4
theorem ck {α0 α1 α2:Sort _} {a0:Prop} {a1:Prop} {a2:Prop} {a4:α0→Prop} {f7:α1→α2→α0} {a8:α0→α1→α2→Prop} {G:Prop} (h:a0∧a1∧a2∧∃ x0,a4 x0∧∃ x1,∃ x2,x0=f7 x1 x2∧a8 x0 x1 x2) (k:∀ x1,∀ x2,a0→a1→a2→a4 (f7 x1 x2)→a8 (f7 x1 x2) x1 x2→G):G:=by
  obtain ⟨h0,h1,h2,x0,h4,x1,x2,rfl,h8⟩:=h;exact k x1 x2 h0 h1 h2 h4 h8
theorem fe {α0 α1 α2:Sort _} {a0:Prop} {a3:α0→α1→Prop} {a5:α0→α1→α2→Prop} {a6:α0→α1→α2→Prop} {f7:α1→α2→α0} {f8:α2→α1} {G:Prop} (h:a0∧∃ x0,∃ x1,a3 x0 x1∧∃ x2,a5 x0 x1 x2∧a6 x0 x1 x2∧x0=f7 x1 x2∧x1=f8 x2) (k:∀ x2,a0→a3 (f7 (f8 x2) x2) (f8 x2)→a5 (f7 (f8 x2) x2) (f8 x2) x2→a6 (f7 (f8 x2) x2) (f8 x2) x2→G):G:=by
  obtain ⟨h0,x0,x1,h3,x2,h5,h6,rfl,rfl⟩:=h;exact k x2 h0 h3 h5 h6
theorem fc {α0 α1 α2 α3:Sort _} {a0:Prop} {a3:α0→α1→Prop} {a6:α0→α1→α2→α3→Prop} {f7:α0→α2→α3→α1} {a8:α0→α1→α2→α3→Prop} {G:Prop} (h:a0∧∃ x0,∃ x1,a3 x0 x1∧∃ x2,∃ x3,a6 x0 x1 x2 x3∧x1=f7 x0 x2 x3∧a8 x0 x1 x2 x3) (k:∀ x0,∀ x2,∀ x3,a0→a3 x0 (f7 x0 x2 x3)→a6 x0 (f7 x0 x2 x3) x2 x3→a8 x0 (f7 x0 x2 x3) x2 x3→G):G:=by
  obtain ⟨h0,x0,x1,h3,x2,x3,h6,rfl,h8⟩:=h;exact k x0 x2 x3 h0 h3 h6 h8
theorem lI {α0 α1 α2:Sort _} {a0:Prop} {a3:α0→α1→Prop} {f5:α0→α2→α1} {a6:α0→α1→α2→Prop} {f7:α2→α0} {a8:α0→α1→α2→Prop} {G:Prop} (h:a0∧∃ x0,∃ x1,a3 x0 x1∧∃ x2,x1=f5 x0 x2∧a6 x0 x1 x2∧x0=f7 x2∧a8 x0 x1 x2) (k:∀ x2,a0→a3 (f7 x2) (f5 (f7 x2) x2)→a6 (f7 x2) (f5 (f7 x2) x2) x2→a8 (f7 x2) (f5 (f7 x2) x2) x2→G):G:=by
  obtain ⟨h0,x0,x1,h3,x2,rfl,h6,rfl,h8⟩:=h;exact k x2 h0 h3 h6 h8
theorem Dh {α0 α1 α2 α3 α4:Sort _} {a0:Prop} {a1:Prop} {a2:Prop} {a4:α0→Prop} {f9:α1→α2→α3→α4→α0} {G:Prop} (h:a0∧a1∧a2∧∃ x0,a4 x0∧∃ x1,∃ x2,∃ x3,∃ x4,x0=f9 x1 x2 x3 x4) (k:∀ x1,∀ x2,∀ x3,∀ x4,a0→a1→a2→a4 (f9 x1 x2 x3 x4)→G):G:=by
  obtain ⟨h0,h1,h2,x0,h4,x1,x2,x3,x4,rfl⟩:=h;exact k x1 x2 x3 x4 h0 h1 h2 h4
theorem lK {α0 α1 α2 α3 α4 α5:Sort _} {a0:Prop} {a3:α0→α1→Prop} {f8:α0→α2→α3→α4→α5→α1} {a9:α0→α1→α2→α3→α4→α5→Prop} {G:Prop} (h:a0∧∃ x0,∃ x1,a3 x0 x1∧∃ x2,∃ x3,∃ x4,∃ x5,x1=f8 x0 x2 x3 x4 x5∧a9 x0 x1 x2 x3 x4 x5) (k:∀ x0,∀ x2,∀ x3,∀ x4,∀ x5,a0→a3 x0 (f8 x0 x2 x3 x4 x5)→a9 x0 (f8 x0 x2 x3 x4 x5) x2 x3 x4 x5→G):G:=by
  obtain ⟨h0,x0,x1,h3,x2,x3,x4,x5,rfl,h9⟩:=h;exact k x0 x2 x3 x4 x5 h0 h3 h9
theorem bZ {α0 α1 α2 α3:Sort _} {a4:α0→α1→α2→α3→Prop} {a5:α0→α1→α2→α3→Prop} {a6:α0→α1→α2→α3→Prop} {a7:α0→α1→α2→α3→Prop} {f8:α1→α2→α3→α0} {a9:α0→α1→α2→α3→Prop} {G:Prop} (h:∃ x0,∃ x1,∃ x2,∃ x3,a4 x0 x1 x2 x3∧a5 x0 x1 x2 x3∧a6 x0 x1 x2 x3∧a7 x0 x1 x2 x3∧x0=f8 x1 x2 x3∧a9 x0 x1 x2 x3) (k:∀ x1,∀ x2,∀ x3,a4 (f8 x1 x2 x3) x1 x2 x3→a5 (f8 x1 x2 x3) x1 x2 x3→a6 (f8 x1 x2 x3) x1 x2 x3→a7 (f8 x1 x2 x3) x1 x2 x3→a9 (f8 x1 x2 x3) x1 x2 x3→G):G:=by
  obtain ⟨x0,x1,x2,x3,h4,h5,h6,h7,rfl,h9⟩:=h;exact k x1 x2 x3 h4 h5 h6 h7 h9
theorem CZ {α0 α1 α2 α3 α4 α5:Sort _} {a0:Prop} {a3:α0→α1→Prop} {f8:α0→α2→α3→α4→α5→α1} {a9:α0→α1→α2→α3→α4→α5→Prop} {a10:α0→α1→α2→α3→α4→α5→Prop} {a11:α0→α1→α2→α3→α4→α5→Prop} {f12:α0→α3→α4→α5→α2} {a13:α0→α1→α2→α3→α4→α5→Prop} {G:Prop} (h:a0∧∃ x0,∃ x1,a3 x0 x1∧∃ x2,∃ x3,∃ x4,∃ x5,x1=f8 x0 x2 x3 x4 x5∧a9 x0 x1 x2 x3 x4 x5∧a10 x0 x1 x2 x3 x4 x5∧a11 x0 x1 x2 x3 x4 x5∧x2=f12 x0 x3 x4 x5∧a13 x0 x1 x2 x3 x4 x5) (k:∀ x0,∀ x3,∀ x4,∀ x5,a0→a3 x0 (f8 x0 (f12 x0 x3 x4 x5) x3 x4 x5)→a9 x0 (f8 x0 (f12 x0 x3 x4 x5) x3 x4 x5) (f12 x0 x3 x4 x5) x3 x4 x5→a10 x0 (f8 x0 (f12 x0 x3 x4 x5) x3 x4 x5) (f12 x0 x3 x4 x5) x3 x4 x5→a11 x0 (f8 x0 (f12 x0 x3 x4 x5) x3 x4 x5) (f12 x0 x3 x4 x5) x3 x4 x5→a13 x0 (f8 x0 (f12 x0 x3 x4 x5) x3 x4 x5) (f12 x0 x3 x4 x5) x3 x4 x5→G):G:=by
  obtain ⟨h0,x0,x1,h3,x2,x3,x4,x5,rfl,h9,h10,h11,rfl,h13⟩:=h;exact k x0 x3 x4 x5 h0 h3 h9 h10 h11 h13
theorem v0 {a b c d e f q r:Nat} (ca:c≤a) (fd:f≤d) (rb:r < b) (re:r < e) (ar:a < r) (dr:d < r) (n1:¬(c≤d∧d < b)) (n2:¬(f≤a∧a < e)):False:=
  (Nat.le_total a d).elim (fun h=>n1 ⟨Nat.le_trans ca h,Nat.lt_trans dr rb⟩) fun h=>n2 ⟨Nat.le_trans fd h,Nat.lt_trans ar re⟩
theorem v1 {a b c d e f q:Nat} (ab:a < b) (de:d < e) (cq:c < q) (fq:f < q) (qa:q≤a) (qd:q≤d) (n1:¬(c≤d∧d < b)) (n2:¬(f≤a∧a < e)):False:=
  (Nat.le_total a d).elim (fun h=>n2 ⟨Nat.le_of_lt (Nat.lt_of_lt_of_le fq qa),Nat.lt_of_le_of_lt h de⟩) fun h=>n1 ⟨Nat.le_of_lt (Nat.lt_of_lt_of_le cq qd),Nat.lt_of_le_of_lt h ab⟩
theorem v2 {a q r:Nat} (h:¬(r≤a∧a < q)):a < r∨q≤a:=
  (Nat.lt_or_ge a r).imp_right fun w=>Nat.le_of_not_lt fun y=>h ⟨w,y⟩
section
variable {a b c d e f g h p q r:Nat}
theorem tH (x0:a < b) (x1:c≤a) (x2:d < e) (x3:¬(c≤d∧d < b)) (x4:f≤d) (x5:¬(f≤a∧a < e)) (x6:g < h) (x7:¬(c≤g∧g < b)) (x8:¬(f≤g∧g < e)) (x9:p≤g) (y0:¬(p≤a∧a < h)) (y1:¬(p≤d∧d < h)) (y2:c < q∧r < b) (y3:f < q∧r < e) (y4:p < q∧r < h) (y5:¬(r≤a∧a < q)) (y6:¬(r≤d∧d < q)) (y7:¬(r≤g∧g < q)):False:=
  (v2 y5).elim (fun A=>(v2 y6).elim (fun D=>v0 (q:=q) x1 x4 y2.2 y3.2 A D x3 x5) fun D=>(v2 y7).elim (fun G=>v0 (q:=q) x1 x9 y2.2 y4.2 A G x7 y0) fun G=>v1 x2 x6 y3.1 y4.1 D G x8 y1)
    fun A=>(v2 y6).elim (fun D=>(v2 y7).elim (fun G=>v0 (q:=q) x4 x9 y3.2 y4.2 D G x8 y1) fun G=>v1 x0 x6 y2.1 y4.1 A G x7 y0) fun D=>v1 x0 x2 y2.1 y3.1 A D x3 x5
end
section
variable {a b c d e f g h p q r s t u:Nat} {i j k l m n v w y z:Int}
theorem v3 (h:c < a):c≤a - (b+1)+a - 1:=Nat.le_trans (Nat.le_sub_one_of_lt h) (Nat.sub_le_sub_right (Nat.le_add_left a _) 1)
theorem ve (x:c < a) (y:d < c) (z:i=k) (w:j=k):i < j∨i=j∧a - (b+1)+a - 1 - c < a - (b+1)+a - 1 - d:=
  .inr ⟨z.trans w.symm,Nat.sub_lt_sub_left (Nat.lt_of_lt_of_le y (v3 x)) y⟩
theorem bz (h:c < a):a - b - 1≤a - (b+1)+a - 1 - c:=
  Nat.le_sub_of_add_le (Nat.le_sub_of_add_le (Nat.add_le_add_left (Nat.succ_le_of_lt h) (a - (b+1))))
theorem vi (x:d < a) (y:c < d):a - b - 1≤a - (b+1)+a - 1 - c:=bz (Nat.lt_trans y x)
theorem vc:a - b - 1≤a - (b+1)+a - 1 - (a - 1):=by
  cases a with
  | zero=>exact Nat.le_trans (Nat.le_of_eq (congrArg Nat.pred (Nat.zero_sub b))) (Nat.zero_le _)
  | succ a=>exact bz (Nat.lt_succ_self a)
theorem v4 (h:0 < a) (w:a - b - 1≤c):a - (b+1)+a - 1 - c < a:=by
  cases a with
  | zero=>exact absurd h (Nat.lt_irrefl _)
  | succ a=>exact Nat.lt_succ_of_le (Nat.sub_le_of_le_add (Nat.le_trans (Nat.add_le_add_right (show a+1 - (b+1)≤c from w) a) (Nat.le_of_eq (Nat.add_comm c a))))
theorem vf (_:c < a) (x:d < c) (y:a - b - 1≤d):a - (b+1)+a - 1 - c < a:=v4 (Nat.lt_of_le_of_lt (Nat.zero_le c) ‹c < a›) (Nat.le_trans y (Nat.le_of_lt x))
theorem vg (x:a - b - 1≤c) (y:d < a):a - (b+1)+a - 1 - c < a:=v4 (Nat.lt_of_le_of_lt (Nat.zero_le d) y) x
theorem vm (x:a - b - 1≤c) (y:d < a - b - 1):a - (b+1)+a - 1 - c < a:=v4 (Nat.lt_of_lt_of_le (Nat.lt_of_le_of_lt (Nat.zero_le d) y) (Nat.le_trans (Nat.sub_le _ 1) (Nat.sub_le a b))) x
theorem uZ (h:b < a):a - (b+1)+a - 1 - (a - 1) < a:=by
  cases a with
  | zero=>exact absurd h (Nat.not_lt_zero b)
  | succ a=>exact Nat.lt_of_le_of_lt (Nat.le_of_eq (Nat.add_sub_cancel (n:=a+1 - (b+1)) (m:=a))) (Nat.sub_lt (Nat.succ_pos a) (Nat.succ_pos b))
theorem v5 {x y:Int} (x0:0≤x) (x1:x < 16) (y0:0≤y) (y1:y < 8):x.toNat < (x+1+y).toNat∧x.toNat≤15∧(x+1+y).toNat≤23:=
  (Int.eq_ofNat_of_zero_le x0).elim fun n hn=>(Int.eq_ofNat_of_zero_le y0).elim fun m hm=>hn▸hm▸
    ⟨show n < n+1+m from Nat.lt_of_lt_of_le (Nat.lt_succ_self n) (Nat.le_add_right _ m),Nat.le_of_lt_succ (Int.ofNat_lt.mp (hn▸x1)),Nat.add_le_add (Int.ofNat_lt.mp (hn▸x1)) (Nat.le_of_lt_succ (Int.ofNat_lt.mp (hm▸y1)))⟩
theorem um:(i % 16).toNat < (i % 16+1+i / 16 % 8).toNat∧(i % 16).toNat≤15∧(i % 16+1+i / 16 % 8).toNat≤23:=
  v5 (Int.emod_nonneg i (by decide)) (Int.emod_lt_of_pos i (by decide)) (Int.emod_nonneg _ (by decide)) (Int.emod_lt_of_pos _ (by decide))
theorem v6 (x:0≤j) (y:l < 1000) (z:i < k) (w:0≤l) (v:j < 1000):i*1000+j < k*1000+l:=
  Int.lt_of_lt_of_le (Int.lt_of_lt_of_le (Int.add_lt_add_left v _) (Int.le_trans (Int.le_of_eq (Int.add_mul i 1 1000).symm) (Int.mul_le_mul_of_nonneg_right z (by decide)))) (Int.le_add_of_nonneg_right w)
theorem uz (x:0≤j) (y:0≤l) (z:j < 1000) (w:l < 1000):i*1000+j < k*1000+l↔i < k∨i=k∧j < l:=
  ⟨fun h=>(Int.lt_trichotomy i k).imp id fun o=>o.elim (fun e=>⟨e,Int.lt_of_add_lt_add_left (e▸h)⟩) fun o=>absurd h (Int.lt_asymm (v6 y z o x w)),
   fun h=>h.elim (fun h=>v6 x w h y z) fun h=>h.1▸Int.add_lt_add_left h.2 _⟩
theorem uf (h:a < 30):(max 0 (min ((a:Int)+3) ↑32)).toNat=a+3:=
  congrArg Int.toNat ((congrArg (max 0) (Int.min_eq_left (Int.ofNat_le.mpr (show a+3≤32 from Nat.le_of_lt_succ (Nat.add_lt_add_right h 3)):(a:Int)+3≤↑32))).trans (Int.max_eq_right (Int.natCast_nonneg (a+3))))
theorem tX (h:1≤a∧a≤10):3*(a:Int) - 2=(Nat.cast (3*a - 2):Int):=
  (Int.ofNat_sub (Nat.le_trans (by decide:2≤3*1) (Nat.mul_le_mul_left 3 h.1))).symm
theorem rJ (h:0 < (a:Int)) (w:0≤i):3*(a:Int) - 2+i=(Nat.cast (3*a - 2+i.toNat):Int):=
  (congr (congrArg HAdd.hAdd (Int.ofNat_sub (Nat.le_trans (by decide:2≤3*1) (Nat.mul_le_mul_left 3 (Int.ofNat_lt.mp h)))).symm) (Int.toNat_of_nonneg w).symm:_)
theorem v7 (x:c < 3) (y:d < 3) (h:3*a+c=3*b+d):a=b:=by
  have:=congrArg (· / 3) h
  rwa [Nat.mul_add_div (by decide:0 < 3),Nat.mul_add_div (by decide),Nat.div_eq_of_lt x,Nat.div_eq_of_lt y] at this
theorem gD (x:a≠0) (y:b≠0) (z:c < 3) (h:3*a - 2+c=3*b - 2+d) (w:d < 3):a=b:=by
  cases a with
  | zero=>exact absurd rfl x
  | succ a=>cases b with
    | zero=>exact absurd rfl y
    | succ b=>exact congrArg Nat.succ (v7 z w (Nat.add_right_cancel (((Nat.add_right_comm (3*a) c 1).trans h).trans (Nat.add_right_comm (3*b) 1 d))))
theorem sm (x:a < 3) (y:b < 3) (z:c≠0) (h:3*d - 2+a=3*c - 2+b) (w:d≠0):a=b:=
  Nat.add_left_cancel (h.trans (congrArg (3*· - 2+b) (gD w z x h y).symm))
theorem v8 (x:i % 64=l) (y:i / 4096=j) (z:i / 64 % 64=k):(j*64+k)*64+l=i:=by
  rw [←x,←y,←z,show i / 4096=i / 64 / 64 from (Int.ediv_ediv_of_nonneg (z:=64) (by decide:(0:Int)≤64)).symm,Int.mul_comm (i / 64 / 64),Int.mul_ediv_add_emod,Int.mul_comm,Int.mul_ediv_add_emod]
theorem ww (x:i % 64=(c:Int)) (y:i / 4096=(a:Int)) (z:i / 64 % 64=(b:Int)):((a:Int)*64+(b:Int))*64+(c:Int)=i:=v8 x y z
theorem v9 (h:¬0 < (c:Int)):(c:Int)=0:=congrArg Int.ofNat (Nat.le_zero.mp (Nat.le_of_not_lt fun w=>h (Int.ofNat_lt.mpr w)))
theorem gE (x:i % 64=(b:Int)) (y:i / 64 % 64=(a:Int)) (z:i / 4096=(c:Int)) (w:¬0 < (c:Int)):(a:Int)*64+(b:Int)=i:=
  (congrArg (·*64+(b:Int)) (Int.zero_add (a:Int)).symm).trans (v8 x (z.trans (v9 w)) y)
theorem wu (x:i % 64=(a:Int)) (y:i / 4096=(b:Int)) (z:¬0 < (b:Int)) (w:i / 64 % 64=(c:Int)) (v:¬0 < (c:Int)):(a:Int)=i:=
  (Int.zero_add (a:Int)).symm.trans (gE x (w.trans (v9 v)) y z |> (·))
theorem nP {M:Nat} (h:a - b≤c+1) (hm:b+a < 2*M):a≤c+M:=Nat.le_of_not_lt fun w=>
  have w':c+1+M≤a:=Nat.succ_add c M▸w
  Nat.lt_irrefl _ (Nat.lt_of_le_of_lt (Nat.le_trans (Nat.add_le_add (Nat.le_add_right (c+1) (c+1)) (Nat.le_of_eq (Nat.two_mul M))) (Nat.le_trans (Nat.le_of_eq (Nat.add_add_add_comm (c+1) (c+1) M M)) (Nat.le_trans (Nat.add_le_add w' w') (Nat.le_trans (Nat.add_le_add_right (Nat.le_add_of_sub_le h) a) (Nat.le_of_eq (Nat.add_assoc (c+1) b a)))))) (Nat.add_lt_add_left hm (c+1)))
theorem vL (h0:a - b≤c+1):a - ((b+a) / 2+1)≤c:=Nat.sub_le_of_le_add (nP h0 (Nat.lt_mul_div_succ _ (by decide)))
theorem vQ (h0:b - a≤c+1):(a+b) / 2 - a≤c:=
  Nat.sub_le_of_le_add (Nat.le_of_lt_succ ((Nat.div_lt_iff_lt_mul (by decide)).mpr (Nat.mul_two (c+a+1)▸Nat.add_lt_add_of_lt_of_le (Nat.lt_succ_of_le (Nat.le_add_left a c)) (Nat.add_right_comm c 1 a▸Nat.le_add_of_sub_le h0))))
theorem nO (h:b+1≤a) (w:d < 10):b*1000+d < a*1000+c:=
  Nat.lt_of_lt_of_le (Nat.add_lt_add_left (Nat.lt_trans w (by decide:10 < 1000)) _) (Nat.le_trans (Nat.le_of_eq (Nat.succ_mul b 1000).symm) (Nat.le_trans (Nat.mul_le_mul_right 1000 h) (Nat.le_add_right _ c)))
theorem nN (w:d < 10) (h:a*1000+c < b*1000+d∨a*1000+c=b*1000+d∧c < d):a < b∨a=b∧c < d:=
  (Nat.lt_trichotomy a b).imp id fun o=>o.elim (fun e=>⟨e,h.elim (fun h=>Nat.lt_of_add_lt_add_left (show a*1000+c < a*1000+d from by subst e;exact h)) (·.2)⟩) fun o=>absurd (nO (c:=c) o w) (h.elim (fun h=>Nat.lt_asymm h) fun e=>Nat.not_lt_of_ge (Nat.le_of_eq e.1))
theorem qe (h:d < 10) (w:(a:Int)*1000+(c:Int) < (b:Int)*1000+(d:Int)∨(a:Int)*1000+(c:Int)=(b:Int)*1000+(d:Int)∧c < d):a < b∨a=b∧c < d:=
  nN h (w.imp (fun h=>Int.ofNat_lt.mp h) fun h=>⟨Int.ofNat.inj h.1,h.2⟩)
theorem tE (h:(a:Int) - (b:Int)=(c:Int)):(Nat.cast (a+(0+1)):Int) - (Nat.cast (b+(0+0)):Int)=(Nat.cast (c+(0+1)):Int):=
  (Int.add_right_comm (a:Int) 1 (-(b:Int))).trans (congrArg (·+1) h)
theorem sL (h:c - a=b+(2+d)):a+b+2≤c:=Nat.add_lt_of_lt_sub' (b:=b+1) (h▸Nat.add_le_add_left (Nat.le_add_right 2 d) b)
theorem rk:a≤b+1*(a - b)+1*c:=by
  rw [Nat.one_mul,Nat.add_comm b];exact Nat.le_trans (Nat.le_add_of_sub_le (Nat.le_refl _)) (Nat.le_add_right _ _)
theorem uJ (h:1 < a):0≤a - 1∧a - 1 < a:=⟨Nat.zero_le _,Nat.sub_lt (Nat.lt_trans Nat.zero_lt_one h) Nat.zero_lt_one⟩
theorem uH (h:1 < a):0 < a - 1:=Nat.sub_pos_of_lt h
theorem rR (h0:1≤a) (h1:b < 3):((Nat.cast (3*a - 2+b):Int) - 1) % 3=(b:Int):=by
  cases a with
  | zero=>exact nomatch h0
  | succ k=>exact Eq.trans (congrArg (· % 3) ((congrArg (fun n:Nat=>(n:Int) - 1) (((Nat.add_right_comm (3*k) 1 b).trans (congrArg Nat.succ (Nat.add_comm (3*k) b))))).trans (Int.add_sub_cancel (Nat.cast (b+3*k)) 1))) (by rw [show (Nat.cast (b+3*k):Int)=(b:Int)+3*(k:Int) from rfl,Int.add_mul_emod_self_left];exact Int.emod_eq_of_lt (Int.natCast_nonneg b) (Int.ofNat_lt.mpr h1))
end
section
variable {n m:Nat} {i z:Int}
theorem u3 (w:n≤16777216):(n:Int) < 2 ^ 63:=Int.lt_of_le_of_lt (Int.ofNat_le.mpr w) (by decide)
theorem u4 (w:n≤100000):(n:Int) < 2 ^ 63:=u3 (Nat.le_trans w (by decide))
theorem u1 (h:i < n) (w:n≤16777216):i < 2 ^ 63:=Int.lt_trans h (u3 w)
theorem u2 (h:i < n) (w:n≤100000):i < 2 ^ 63:=Int.lt_trans h (u4 w)
theorem u6 (w:n≤16777216):¬(n:Int)≥2 ^ 63:=Int.not_le.mpr (u3 w)
theorem aL (h:0≤i):i=(i.toNat:Int):=(Int.toNat_of_nonneg h).symm
theorem u0 (n:Nat):(max 0 (min (if (-1:Int) < 0 then -1+(n:Int) else -1) (n:Int))).toNat=n - 1:=by
  rw [if_pos (by decide)]
  cases n with
  | zero=>rfl
  | succ n=>
    have e:-1+((n+1:Nat):Int)=n:=(Int.add_comm _ _).trans (Int.add_sub_cancel n 1)
    rw [e,Int.min_eq_left (Int.ofNat_le.mpr (Nat.le_succ n)),Int.max_eq_right (Int.natCast_nonneg n)];rfl
theorem u5 {a b x:Int} (h:a≤x∧x < b):a+((x - a).toNat:Int)=x:=by
  rw [Int.toNat_of_nonneg (Int.sub_nonneg_of_le h.1),Int.add_comm,Int.sub_add_cancel]
theorem u7 {k p:Nat} {h t:Int} (hh:h≤100) (ht:t≤200*(m:Int)) (w:m≤k+n) (hk:k≤p) (hp:p≤50) {q:Nat} (hn:n < q) (hq:q≤51):h+t < 2 ^ 60:=
  Int.lt_of_le_of_lt (Int.add_le_add hh (Int.le_trans ht (Int.mul_le_mul_of_nonneg_left (Int.ofNat_le.mpr (Nat.le_trans w (Nat.add_le_add (Nat.le_trans hk hp) (Nat.le_of_lt (Nat.lt_of_lt_of_le hn hq))))) (by decide)))) (by decide)
theorem u8 {k l b:Nat} (h:l≤k) (w:b < l):¬b=k - (k - l):=fun e=>Nat.ne_of_lt w (e.trans (Nat.sub_sub_self h))
theorem u9 (h:n < m) (w:m≤1000):(n:Int) < 2 ^ 63 - 1:=Int.lt_of_lt_of_le (Int.ofNat_lt.mpr h) (Int.le_trans (Int.ofNat_le.mpr w) (by decide))
theorem oa {L f:Nat} (h:L < f):0 < 3*f - 2:=by
  cases f with
  | zero=>exact absurd h (Nat.not_lt_zero L)
  | succ f=>exact Nat.succ_pos (3*f)
theorem nZ {L f g:Nat} (h:L < f) (w:g < 3) (z:¬L=0):3*L - 2+g < 3*f - 2:=by
  cases L with
  | zero=>exact absurd rfl z
  | succ L=>cases f with
    | zero=>exact absurd h (Nat.not_lt_zero _)
    | succ f=>exact Nat.lt_succ_of_le (Nat.le_trans (Nat.le_of_eq (Nat.add_right_comm (3*L) 1 g)) (Nat.le_trans (Nat.add_lt_add_left w (3*L)) (Nat.mul_le_mul_left 3 (Nat.lt_of_succ_lt_succ h))))
theorem fS (a b c:Int):(a - b)+(b - c)=a - c:=(Int.add_sub_assoc _ _ _).symm.trans (congrArg (· - c) (Int.sub_add_cancel a b))
theorem nY {l h e:Nat} {x:Int} (a:e≤l) (b:l < h):(((l:Int) - e).toNat:Int)+(((h:Int) - l).toNat:Int)+(x - h)=x - e:=by
  rw [Int.toNat_of_nonneg (Int.sub_nonneg_of_le (Int.ofNat_le.mpr a)),Int.toNat_of_nonneg (Int.sub_nonneg_of_le (Int.ofNat_le.mpr (Nat.le_of_lt b))),Int.add_comm (_ - _) ((h:Int) - _),fS,Int.add_comm,fS]
theorem nX {l f:Nat} (h:l < 3*f - 2) (w:f≤10):(l:Int) < 2 ^ 63:=u4 (Nat.le_trans (Nat.le_of_lt h) (Nat.le_trans (Nat.sub_le _ _) (Nat.le_trans (Nat.mul_le_mul_left 3 w) (by decide))))
theorem nW (h:1≤i∧i≤3) (w:n≤23):i+(n:Int) < 2 ^ 60:=Int.lt_of_le_of_lt (Int.add_le_add h.2 (Int.ofNat_le.mpr w)) (by decide)
theorem nV (h:-4000000 < z) (w:z < 4000000):-2 ^ 63≤z∧z < 2 ^ 63:=⟨Int.le_trans (by decide) (Int.le_of_lt h),Int.lt_trans w (by decide)⟩
theorem nU {a b:Int} (h:a < b):((b - a).toNat:Int) - ((0:Nat):Int)=b - a:=(Int.sub_zero _).trans (Int.toNat_of_nonneg (Int.sub_nonneg_of_le (Int.le_of_lt h)))
theorem nR {a b:Int} (h:¬a < b):((b - a).toNat:Int) - ((0:Nat):Int)=0:=(Int.sub_zero _).trans (congrArg Int.ofNat (Int.toNat_of_nonpos (Int.sub_nonpos_of_le (Int.not_lt.mp h))))
theorem nQ (h:z=(n:Int)) (w:n≤m) (v:m≤100000):-2 ^ 63≤z∧z < 2 ^ 63:=h▸⟨Int.le_trans (by decide) (Int.natCast_nonneg n),u4 (Nat.le_trans w v)⟩
end
section
variable {a b c d e f g h p q r s t u:Nat} {i j k l m n v w y z:Int}
theorem q0:0≤(a:Int):=by simp
theorem q1 (_:c=b) (_:a < c):a < b:=by subst_vars;assumption
theorem q2 (_:a < b+1) (_:b≤a):a=b:=by lia
theorem q3 (_:a≤100):a≤100000:=by exact Nat.le_trans (by assumption) (by decide)
theorem q4 (_:a=10):a≤100000:=by simp +arith [*]
theorem q5 (_:a < b):a < b:=by omega
theorem q6 (_:a < 10) (_:b=10):a < b:=by subst_vars;assumption
theorem q7 (_:a+20 < b):a < b:=by lia
theorem q8 (_:a < c) (_:b=c):a < b:=by subst_vars;assumption
theorem q9 (_:a≤1000):a≤100000:=by exact Nat.le_trans (by assumption) (by decide)
theorem T7 (_:a≤b) (_:¬a < b):a=b:=by lia
theorem S7 (h0:a+1 < b):a < b:=Nat.le_of_lt h0
theorem D8 (h0:a < b):a≤b:=Nat.le_of_lt h0
theorem C8 (h0:b < a):a - (b+1) < a - b:=Nat.sub_lt_sub_left h0 (Nat.lt_succ_self b)
theorem B8 (h0:b≤100000) (h1:a=b):a≤16777216:=Nat.le_trans (Nat.le_of_eq h1) (Nat.le_trans h0 (by decide))
theorem A8 (_:c≤b) (_:a≤c):a≤b:=by grind
theorem z8 (h0:c < b) (h1:a < c):a < b:=Nat.lt_trans h1 h0
theorem w8 (h0:a+100 < b):a+10 < b:=Nat.lt_of_le_of_lt (Nat.add_le_add_left (by decide) a) h0
theorem k9 (_:b=a+1):a < b:=by subst_vars;exact Nat.lt_succ_self _
theorem j9 (_:0≤i) (_:i < (a:Int)):i.toNat < a:=by simp +arith [*]
theorem i9 (_:a < b):(a:Int) < (b:Int):=by exact_mod_cast (by assumption)
theorem e9 (_:b≤100) (_:a≤b):a≤100000:=by exact Nat.le_trans (Nat.le_trans (by assumption) (by assumption)) (by decide)
theorem d9 (h0:a=c) (h1:b=c):a=b:=Eq.trans h0 (id (Eq.symm h1))
theorem aa (_:a≤100):a≤1000:=by exact Nat.le_trans (by assumption) (by decide)
theorem Z9 (_:0≤i):0≤i:=by omega
theorem Y9 (_:a≤1000):a≤16777216:=by exact Nat.le_trans (by assumption) (by decide)
theorem X9 (_:a+(b+1)=c):a+1+b=c:=by grind
theorem W9 (h0:a < 30) (h1:b < 3):a+b < 32:=Nat.lt_of_le_of_lt (Nat.add_le_add (Nat.le_of_lt_succ h0) (Nat.le_of_lt_succ h1)) (by decide)
theorem V9 (h0:a < b):a≠b:=Nat.ne_of_lt h0
theorem bx (_:a≤100000):a≤16777216:=by exact Nat.le_trans (by assumption) (by decide)
theorem bw (h0:b≤100) (h1:a≤b):-1000000 < (a:Int)∧(a:Int) < 1000000:=⟨Int.lt_of_lt_of_le (by decide) (Int.natCast_nonneg a),Int.lt_of_le_of_lt (Int.ofNat_le.mpr (Nat.le_trans h1 h0)) (by decide)⟩
theorem bv (h0:b≤a) (h1:i < (b:Int)):i < (a:Int):=Int.lt_of_lt_of_le h1 (Int.ofNat_le.mpr h0)
theorem bu (_:a≤b):(a:Int)≤(b:Int):=by exact_mod_cast (by assumption)
theorem bt (h0:a≤100):-1000000 < (a:Int)∧(a:Int) < 1000000:=⟨Int.lt_of_lt_of_le (by decide) (Int.natCast_nonneg a),Int.lt_of_le_of_lt (Int.ofNat_le.mpr h0) (by decide)⟩
theorem br (h0:c+2 < b) (h1:a=c+1):a < b:=Eq.symm h1▸Nat.le_of_lt h0
theorem bq (_:j≤(a:Int)) (_:i≤j):i≤(a:Int):=by lia
theorem bp (_:c+2 < b) (_:a=c+1):a+1 < b:=by subst_vars;assumption
theorem bo (_:(a:Int)=(b:Int)):a=b:=by norm_cast at *
theorem bn (_:a < b+1):a≤b:=by subst_vars;omega
theorem bl (_:a≤c) (_:b=c):a≤b:=by subst_vars;assumption
theorem bk (_:a+1 < b):a+1 < b:=by omega
theorem bj:a < a+1:=by subst_vars;exact Nat.lt_succ_self _
theorem bh (h0:0≤i):(Nat.cast i.toNat:Int)=i:=Int.toNat_of_nonneg h0
theorem bf (_:b≤1000) (_:a=b):a≤16777216:=by lia
theorem be:0≤((a:Int)+(b:Int)) / 2:=Int.NonNeg.mk ((a+b) / 2+0)
theorem bd (_:c+1 < b) (_:a=c+1):a < b:=by subst_vars;assumption
theorem bc (h0:a < c) (h1:(b:Int)=((a:Int)+(c:Int)) / 2):a≤b:=Int.ofNat_le.mp (by rw [h1];exact (Int.le_ediv_iff_mul_le (by decide)).mpr (by have:=Int.ofNat_lt.mpr h0;omega))
theorem bb (h0:c < b) (h1:(a:Int)=((c:Int)+(b:Int)) / 2):a < b:=Int.ofNat_lt.mp (by rw [h1];exact Int.ediv_lt_of_lt_mul (by decide) (by rw [Int.mul_comm,Int.two_mul];exact Int.add_lt_add_right (Int.ofNat_lt.mpr h0) _))
theorem ba (h0:a < c) (h1:b≤a):a - b < c - b:=Nat.sub_lt_sub_right h1 h0
theorem aZ (h0:a≤b) (h1:b≤a):a=b:=Nat.le_antisymm h0 h1
theorem aY (h0:b < a) (h1:c≤b):a - (b+1) < a - c:=Nat.lt_of_lt_of_le (Nat.sub_lt_sub_left h0 (Nat.lt_succ_self b)) (Nat.sub_le_sub_left h1 a)
theorem aX (h0:c≤b) (h1:¬c < a):a≤b:=Nat.le_trans (Nat.not_lt.mp h1) h0
theorem aW (h0:b=a):a=b:=id (Eq.symm h0)
theorem aV (_:a+20 < b):a+1 < b:=by lia
theorem aU (_:a < c) (_:b=c+1):a < b:=by subst_vars;omega
theorem aT (_:a < 10):a≤99999:=by exact Nat.le_of_lt (Nat.lt_of_lt_of_le (by assumption) (by decide))
theorem aS (h0:a≤23):a≤24:=Nat.le_of_lt (Nat.lt_succ_of_le h0)
theorem aR (_:a < 3*c - 2) (_:b=3*c - 2):a < b:=by subst_vars;assumption
theorem aQ (h0:a < b∨a=b∧c < d):(a:Int)≤(b:Int):=h0.elim (fun x=>Int.ofNat_le.mpr (Nat.le_of_lt x)) fun x=>Int.le_of_eq (congrArg Int.ofNat x.1)
theorem dP (_:a≤b):a≤b:=by omega
theorem dO (_:a - b=0):a - b=0:=by omega
theorem dN (_:a≤100):a≤16777216:=by exact Nat.le_trans (by assumption) (by decide)
theorem dM (h0:d≤c) (h1:(a:Int)+(b:Int) < (d:Int)):a+b < c:=Nat.lt_of_lt_of_le (Int.ofNat_lt.mp h1) h0
theorem dK:a≤a+b:=by simp
theorem dJ (h0:a+2 < b):a < b:=Nat.le_of_lt (Nat.le_of_lt h0)
theorem dI (_:a≤100):a≤100000+b:=by lia
theorem dH (h0:0≤i) (h1:b≤a) (h2:i < (b:Int)):i.toNat < a:=(Int.toNat_lt h0).mpr (Int.lt_of_lt_of_le h2 (Int.ofNat_le.mpr h1))
theorem dG (_:(a:Int)≤(b:Int)):a≤b:=by apply Int.ofNat_le.mp;omega
theorem dF (_:a < c) (_:b=d) (_:c=d):a < b:=by subst_vars;assumption
theorem dD (_:a < b):a < b+1:=by lia
theorem dC (h0:c+3 < b) (h1:a=c+1):a < b:=Eq.symm h1▸Nat.le_of_lt (Nat.le_of_lt h0)
theorem dB (_:a≤b):a < b+1:=by simp +arith [*]
theorem dA (h0:i % 64=(a:Int)):a < 64:=Int.ofNat_lt.mp (by rw [←h0];exact Int.emod_lt_of_pos _ (by decide))
theorem dz (h0:a+(c+1)=b):a < b:=Nat.lt_of_lt_of_le (Nat.lt_add_of_pos_right (Nat.succ_pos c)) (Nat.le_of_eq h0)
theorem dy (h0:a < b+1) (h1:c < a):a - 1 < b:=Nat.lt_of_lt_of_le (Nat.sub_lt (Nat.lt_of_le_of_lt (Nat.zero_le c) h1) Nat.one_pos) (Nat.le_of_lt_succ h0)
theorem dx (_:1≤a):a - 1 < a:=by omega
theorem dw (_:b < a):1≤a:=by lia
theorem dv (_:a < b+1 - (c+1) - 1):a < b - c - 1:=by simp at *;assumption
theorem du (_:2≤b) (_:a=b):2≤a:=by subst_vars;assumption
theorem dt (h0:a≤b∧b < c∧d≤e):a≤b∧b < c∧d≤e+1:=⟨h0.1,h0.2.1,Nat.le_succ_of_le h0.2.2⟩
theorem dq (_:1≤b) (_:a=b):1≤a:=by subst_vars;assumption
theorem gC (h0:a < c) (h1:b < c):max a b < c:=Nat.max_lt.mpr ⟨h0,h1⟩
theorem dp (h0:a+20 < b):a+2 < b:=Nat.lt_of_le_of_lt (Nat.add_le_add_left (by decide) a) h0
theorem dn (_:a≤23):a≤100:=by exact Nat.le_trans (by assumption) (by decide)
theorem dm (_:b < 10) (_:a≤b):a≤100:=by lia
theorem dl (_:a < 10):a≤100000:=by exact Nat.le_of_lt (Nat.lt_of_lt_of_le (by assumption) (by decide))
theorem dk:(a:Int) < (a:Int)+1:=by simp +arith
theorem dj (h0:c≤b) (h1:d < c) (h2:a≤d):a≤b:=Nat.le_trans h2 (Nat.le_trans (Nat.le_of_lt h1) h0)
theorem di (h0:a=0):a≠3:=Eq.symm h0▸Nat.ne_of_lt (Nat.lt_succ_of_le (Nat.zero_le 2))
theorem dh (h0:a=0):a≠4:=Eq.symm h0▸Nat.ne_of_lt (Nat.lt_succ_of_le (Nat.zero_le 3))
theorem dg (h0:a=0):a≠10:=Eq.symm h0▸Nat.ne_of_lt (Nat.lt_succ_of_le (Nat.zero_le 9))
theorem df:(9 - (a:Int)).toNat=9 - a:=by simp
theorem dc (_:a < b) (_:b=a):False:=by simp_all
theorem gB (_:a=b):a≤b:=by simp +arith [*]
theorem gA (h0:a < b):a≤b - 1:=Nat.le_sub_one_of_lt h0
theorem gz (_:c≤b):¬(a≤b∧b < c):=by simp +arith [*]
theorem gy (h0:b≤100) (h1:c≤b) (h2:a < c):-1000000 < (a:Int)∧(a:Int) < 1000000:=⟨Int.lt_of_lt_of_le (by decide) (Int.natCast_nonneg a),Int.lt_of_lt_of_le (Int.ofNat_lt.mpr h2) (Int.le_trans (Int.ofNat_le.mpr (Nat.le_trans h1 h0)) (by decide))⟩
theorem gx:(a:Int)≤(a:Int):=by simp
theorem gw (h0:(a:Int)≤i):a≤i.toNat:=(Int.le_toNat (Int.le_trans (Int.natCast_nonneg a) h0)).mpr h0
theorem gu (h0:i < (a:Int)) (h1:b < a):i.toNat < a:=by cases i with | ofNat x=>exact Int.ofNat_lt.mp h0 | negSucc x=>exact Nat.lt_of_le_of_lt (Nat.zero_le b) h1
theorem jw:((a:Int)+(b:Int)).toNat=a+b:=Eq.refl (Int.toNat (↑a+↑b))
theorem jv (h0:b≤100) (h1:a < b):-1000000 < (a:Int)∧(a:Int) < 1000000:=⟨Int.lt_of_lt_of_le (by decide) (Int.natCast_nonneg a),Int.lt_of_lt_of_le (Int.ofNat_lt.mpr h1) (Int.le_trans (Int.ofNat_le.mpr h0) (by decide))⟩
theorem zb (_:(a:Int) < (b:Int)):(a:Int) < (b:Int):=by omega
theorem ju (_:b=c) (_:(a:Int) < (c:Int)):a < b:=by simp_all
theorem jt (_:b=c) (_:(a:Int) < (c:Int)):(a:Int) < (b:Int):=by subst_vars;assumption
theorem js (_:b≤100) (_:a=b):a≤100000:=by lia
theorem jr (_:c=a) (_:c≤b):a≤b:=by subst_vars;assumption
theorem jq (_:b≤100) (_:a≤b):a≤16777216:=by exact Nat.le_trans (Nat.le_trans (by assumption) (by assumption)) (by decide)
theorem jp (_:i < (a:Int)):i < (a:Int):=by omega
theorem jo (_:b≤100) (_:a≤b):a≤100:=by exact Nat.le_trans (Nat.le_trans (by assumption) (by assumption)) (by decide)
theorem jn (_:(a:Int) < 32):a < 32:=by apply Int.ofNat_lt.mp;omega
theorem jl:a+1 - 1=a:=by simp
theorem jk:1≤a+1:=by simp
theorem jj (_:b≤50) (_:a=b):a≤1000:=by grind
theorem ji (_:a≤50):a≤1000:=by exact Nat.le_trans (by assumption) (by decide)
theorem jh (h0:c+3 < b) (h1:a=c+1):a+1 < b:=Eq.symm h1▸Nat.le_of_lt h0
theorem jg (h0:a≤100∧b≤100):a≤100000∧b≤100000:=⟨Nat.le_trans h0.1 (by decide),Nat.le_trans h0.2 (by decide)⟩
theorem jf (h0:a < b) (h1:b≤d) (h2:c=d):((a:Int)+(b:Int)) / 2 < (c:Int):=(Int.ediv_lt_iff_lt_mul (by decide)).mpr (by have:=Int.ofNat_lt.mpr h0;have:=Int.ofNat_le.mpr h1;rw [h2];omega)
theorem je (_:b≤1000) (_:a=b):a≤100000:=by apply Int.ofNat_le.mp;omega
theorem za (_:c < b) (_:a≤c):a≤b:=by lia
theorem jd (_:0 < i):i≠0:=by grind
theorem jc (_:0≤i) (_:i < 0):False:=by lia
theorem jb (_:0≤i) (_:i.toNat < a):0≤i∧i < (a:Int):=by simp_all
theorem ja (_:0≤j) (_:j < i):-i≤j:=by lia
theorem iZ (_:b≤2) (_:a=b+1):a≤100000:=by lia
theorem iY (_:a≤c) (_:b=d) (_:c≤d):a≤b:=by lia
theorem iX:a - b≤a:=by simp
theorem iW (h0:b≤c) (h1:¬a≥b):(a+b) / 2 < c:=Nat.lt_of_lt_of_le ((Nat.div_lt_iff_lt_mul (by decide)).mpr (by rw [Nat.mul_two];exact Nat.add_lt_add_right (Nat.not_le.mp h1) b)) h0
theorem iV (h0:c < b):¬(a - (a - b) < c∧c≤a):=fun e=>(Nat.le_total b a).elim (fun x=>Nat.lt_irrefl c (Nat.lt_trans h0 (Nat.sub_sub_self x▸e.1))) fun x=>Nat.lt_irrefl c (by have y:=e.1;rw [Nat.sub_eq_zero_of_le x] at y;exact Nat.lt_of_le_of_lt e.2 y)
theorem iU (h0:c < a):a≠b - (b - c):=fun e=>Nat.lt_irrefl a ((Nat.le_total c b).elim (fun x=>by rw [Nat.sub_sub_self x] at e;exact absurd h0 (e▸Nat.lt_irrefl _)) fun x=>by rw [Nat.sub_eq_zero_of_le x,Nat.sub_zero] at e;exact absurd (Nat.lt_of_le_of_lt x h0) (e▸Nat.lt_irrefl _))
theorem iT (_:c < a - b - 1):¬(a - (b+1)≤c∧c < a):=by lia
theorem iS (_:a < b+1) (_:b+1 - 0 - 1≤a):a=b:=by lia
theorem iR:a - b - 1≤a - 1:=Nat.sub_le_sub_right (Nat.sub_le a b) 1
theorem iQ (h0:b < a):a - 1 < a:=Nat.sub_lt (Nat.lt_of_le_of_lt (Nat.zero_le b) h0) Nat.one_pos
theorem iP (h0:a < b):a - 1 < b:=Nat.lt_of_le_of_lt (Nat.sub_le a 1) h0
theorem iO (_:¬a > 0):a=0:=by simp at *;assumption
theorem iN (_:a < b):a+1+1≤b+1:=by simp at *;assumption
theorem iM (h0:a+1 - (b+1) - 1≤c):a - b - 1≤c:=Nat.le_trans (Nat.le_of_eq (by rw [Nat.add_sub_add_right])) h0
theorem iL (_:c < b) (_:a < c):0≤a∧a < b:=by lia
theorem iK (h0:a < b):0≤a∧a < b:=⟨Nat.zero_le a,h0⟩
theorem iJ (h0:b < a) (h1:c < b):0+a - 1 - b < 0+a - 1 - c:=Nat.sub_lt_sub_left (Nat.lt_of_lt_of_le h1 (Nat.le_sub_one_of_lt (Nat.lt_of_lt_of_le h0 (Nat.le_of_eq (Nat.zero_add a).symm)))) h1
theorem iI (h0:c < a):0+a - 1 - b < a:=Nat.lt_of_le_of_lt (Nat.le_trans (Nat.sub_le _ _) (Nat.sub_le_sub_right (Nat.le_of_eq (Nat.zero_add a)) 1)) (Nat.sub_lt (Nat.lt_of_le_of_lt (Nat.zero_le c) h0) Nat.one_pos)
theorem iH (h0:1 < a):a - 1 < a:=Nat.sub_lt (Nat.lt_trans Nat.one_pos h0) Nat.one_pos
theorem iG (h0:a+10 < b):a < b:=Nat.lt_of_le_of_lt (Nat.le_add_right a 10) h0
theorem iF (_:b < 64) (_:a=b):a < 64:=by subst_vars;assumption
theorem iE (h0:2≤a):1≤a:=Nat.le_of_lt h0
theorem iD:¬(a:Int) < 0:=by simp
theorem iC (h0:a=10):9 < (a:Int):=Eq.symm h0▸Int.NonNeg.mk (10 - Nat.succ 9)
theorem iB (_:1≤a∧a≤10):a≤1000:=by lia
theorem iA (_:a≤b):a≤b+c:=by grind
theorem iz (h0:a≤b+1) (h1:b < a):a=b+1:=Nat.le_antisymm h0 h1
theorem iy (_:d=e+1):¬(a≤b∧b < c∧d≤e):=by simp +arith [*]
theorem ix (_:a≤b) (_:b < c) (_:d=e+1):a≤b∧b < c∧d≤e+1:=by simp +arith [*]
theorem iw (_:a≤b) (_:b≠a):a < b:=by lia
theorem iu (_:a≤b):(a:Int) < (b:Int)+1:=by lia
theorem ir (_:(a:Int) - (b:Int)=(c:Int)):(Nat.cast (a+(0+0)):Int) - (Nat.cast (b+(0+0)):Int)=(Nat.cast (c+(0+0)):Int):=by omega
theorem iq (_:a≤b∧b < c) (_:d≤e):a≤b∧b < c∧d≤e:=by simp +arith [*]
theorem ip (_:¬d≤e):¬(a≤b∧b < c∧d≤e):=by simp +arith [*]
theorem io:a+b+0=a+0+(b+(0+0)):=by norm_cast at *
theorem im (h0:¬(a≤b∧b < c)):¬(a≤b∧b < c∧d≤e):=fun x=>h0 ⟨x.1,x.2.1⟩
theorem il:0+(a:Int)=(a:Int):=by simp
theorem ik:(a:Int)+(b:Int)=(Nat.cast (a+b):Int):=by simp
theorem ij (h0:j < (a:Int)) (h1:i≤j):i < (a:Int):=Int.lt_of_le_of_lt h1 h0
theorem ii (_:b≤24) (_:a < b):a < 24:=by exact Nat.le_trans (Nat.le_trans (by assumption) (by assumption)) (by decide)
theorem ig (_:b≤a):a=b+(a - b):=by simp +arith [*]
theorem ie (_:a=0):a≤b:=by simp +arith [*]
theorem ic (h0:a < b) (h1:b≤c):((a:Int)+(b:Int)) / 2 < (c:Int):=Int.ediv_lt_of_lt_mul (by decide) (by rw [Int.mul_comm,Int.two_mul];exact Int.add_lt_add_of_lt_of_le (Int.lt_of_lt_of_le (Int.ofNat_lt.mpr h0) (Int.ofNat_le.mpr h1)) (Int.ofNat_le.mpr h1))
theorem yZ:a≤max a b:=Nat.le_max_left a b
theorem yY (h0:a < b) (h1:c < b) (h2:¬(a≤max c a∧max c a < b)):False:=h2 ⟨Nat.le_max_right c a,Nat.max_lt.mpr ⟨h1,h0⟩⟩
theorem ib (h0:1≤a∧a≤10):a - 1 < a:=Nat.sub_lt h0.1 Nat.one_pos
theorem ia (_:0≤i) (_:i < 3):i=0∨i=1∨i=2:=by grind
theorem hY (_:i < 3):i.toNat < 3:=by simp at *;assumption
theorem hX (_:a=10):a≤100:=by simp +arith [*]
theorem hO (h0:c≤b) (h1:a < c):(a:Int)≤(b:Int):=Int.ofNat_le.mpr (Nat.le_trans (Nat.le_of_lt h1) h0)
theorem hJ (_:c < b) (_:a≤c):a < b:=by lia
theorem hB (_:c=b+1) (_:a < c):a≤b:=by grind
theorem gZ (_:b < 10) (_:a=b):a≤1000:=by lia
theorem gY (h0:a < b):a < b∨a=b∧c < d:=Or.inl h0
theorem gX (h0:a≤b) (h1:c < d):a < b∨a=b∧c < d:=(Nat.lt_or_ge a b).elim .inl fun x=>.inr ⟨Nat.le_antisymm h0 x,h1⟩
theorem gV (_:c≤b) (_:a < c):a < b:=by lia
theorem gU (_:b=10) (_:a < b):a < 10:=by simp_all
theorem gT (h0:a=0):a≠1:=Eq.symm h0▸Nat.ne_of_lt (Nat.le_of_lt_succ (Nat.le_refl (Nat.succ (Nat.succ 0))))
theorem gS (h0:a=0):a≠5:=Eq.symm h0▸Nat.ne_of_lt (Nat.lt_succ_of_le (Nat.zero_le 4))
theorem gQ (h0:a=0):a≠6:=Eq.symm h0▸Nat.ne_of_lt (Nat.lt_succ_of_le (Nat.zero_le 5))
theorem gP (h0:a=0):a≠7:=Eq.symm h0▸Nat.ne_of_lt (Nat.lt_succ_of_le (Nat.zero_le 6))
theorem gO (h0:b < 10) (h1:a≤b):a < 10:=Nat.lt_of_le_of_lt h1 h0
theorem gN (h0:a=0):a≠2:=Eq.symm h0▸Nat.ne_of_lt (Nat.le_of_lt (Nat.le_refl (Nat.succ (Nat.succ 0))))
theorem gM (h0:a=0):a≠8:=Eq.symm h0▸Nat.ne_of_lt (Nat.lt_succ_of_le (Nat.zero_le 7))
theorem gK (h0:a=0):a≠9:=Eq.symm h0▸Nat.ne_of_lt (Nat.lt_succ_of_le (Nat.zero_le 8))
theorem gJ (h0:a < b∨a=b∧c < d) (h1:b < a∨b=a∧d < c):False:=h0.elim (fun x=>h1.elim (fun y=>Nat.lt_irrefl _ (Nat.lt_trans x y)) fun y=>Nat.lt_irrefl _ (y.1▸x)) fun x=>h1.elim (fun y=>Nat.lt_irrefl _ (x.1▸y)) fun y=>Nat.lt_irrefl _ (Nat.lt_trans x.2 y.2)
theorem gI (_:a=10):a≤1000:=by simp +arith [*]
theorem N6 (_:0+a=b):a=b:=by simp at *;assumption
theorem gH (_:b=10) (_:c=10) (_:a < c):a < b:=by subst_vars;assumption
theorem gG (h0:(c:Int)≤(d:Int)∧(d:Int) < (b:Int)) (h1:(a:Int)≤(d:Int)∧(d:Int) < (e:Int)):a < b:=Int.ofNat_lt.mp (Int.lt_of_le_of_lt h1.1 h0.2)
theorem gF (_:a≤10):a≤100000:=by exact Nat.le_trans (by assumption) (by decide)
theorem yX (h0:a≤b):a≤b+1:=Nat.le_of_lt (Nat.lt_succ_of_le h0)
theorem yW (_:b≤100000) (_:c < b) (_:a≤c):a≤16777216:=by lia
theorem yV (h0:c≤b) (h1:d=c) (h2:a < d):a < b:=Nat.lt_of_lt_of_le (h1▸h2) h0
theorem yU (h0:c=b) (h1:a - c=0) (h2:c≤a):a=b:=by rw [←h0];exact Nat.le_antisymm (Nat.sub_eq_zero_iff_le.mp h1) h2
theorem yT:a+1+b=a+(b+1):=by simp +arith
theorem yS:a+1≠a:=by simp
theorem yR (_:a=b):a≤b+1:=by simp +arith [*]
theorem yQ (_:a=c) (_:b=d) (_:c+d≤100000):a+b≤16777216:=by lia
theorem yP (h0:0 < b) (h1:a≤b - 1):a < b:=Nat.lt_of_le_of_lt h1 (Nat.sub_lt h0 Nat.one_pos)
theorem yO (_:i=(a:Int)):¬i < 0:=by simp_all
theorem yN (_:i=(b:Int)) (_:a=c) (_:b≤c):min i.toNat a=b:=by simp +arith [*]
theorem yM (h0:a < (j - i).toNat):i+(a:Int) < j:=Int.add_lt_of_lt_sub_left (Int.lt_toNat.mp h0)
theorem yL (h0:a < (j - i).toNat):i≤i+(a:Int)∧i+(a:Int) < j:=⟨Int.le_add_of_nonneg_right (Int.natCast_nonneg a),Int.add_lt_of_lt_sub_left (Int.lt_toNat.mp h0)⟩
theorem yK (h0:j≤i∧i < k):(i - j).toNat < (k - j).toNat:=(Int.toNat_lt (Int.sub_nonneg_of_le h0.1)).mpr (by rw [Int.toNat_of_nonneg (Int.le_of_lt (Int.sub_pos_of_lt (Int.lt_of_le_of_lt h0.1 h0.2)))];exact Int.sub_lt_sub_right h0.2 j)
theorem yJ:¬(a≤b∧b < a):=by simp
theorem yI (h0:a≤b):a≤b∧b < b+1:=⟨h0,Nat.le_refl (Nat.succ b)⟩
theorem yH (h0:a≤b∧b < c):a≤b∧b < c+1:=⟨h0.1,Nat.lt_succ_of_lt h0.2⟩
theorem yG (h0:c≠b) (h1:¬(a≤b∧b < c)):¬(a≤b∧b < c+1):=fun x=>h1 ⟨x.1,Nat.lt_of_le_of_ne (Nat.le_of_lt_succ x.2) (Ne.symm h0)⟩
theorem yF (h0:c≤100) (h1:a≤c):a≤100000+b:=Nat.le_trans (Nat.le_trans h1 (Nat.le_trans h0 (by decide))) (Nat.le_add_right _ b)
theorem yE (h0:b≤a) (h1:i < (b:Int)) (h2:c < b):i.toNat < a:=by cases i with | ofNat x=>exact Nat.lt_of_lt_of_le (Int.ofNat_lt.mp h1) h0 | negSucc x=>exact Nat.lt_of_lt_of_le (Nat.lt_of_le_of_lt (Nat.zero_le c) h2) h0
theorem yD (_:(a:Int)≤i):0≤i:=by omega
theorem yC (h0:i≤(b:Int)) (h1:(a:Int)≤i):a≤b:=Int.ofNat_le.mp (Int.le_trans h1 h0)
theorem yB:0≤(a:Int)+(b:Int):=Int.NonNeg.mk (a+b+0)
theorem yA (h0:d≤c) (h1:(a:Int)+(b:Int) < (d:Int)):(a:Int)+(b:Int) < (c:Int):=Int.lt_of_lt_of_le h1 (Int.ofNat_le.mpr h0)
theorem yz (h0:a < b):a+((b:Int) - (a:Int)).toNat=b:=by rw [Int.toNat_sub];exact Nat.add_sub_cancel' (Nat.le_of_lt h0)
theorem yy (_:(a:Int) < 11):a < 11:=by apply Int.ofNat_lt.mp;omega
theorem yx (_:a=c) (_:b=min c d) (_:c≤d):a≤b:=by simp +arith [*]
theorem yw (_:a=c) (_:b=min d c) (_:c≤d):a≤b:=by simp +arith [*]
theorem yv (_:a < b):a < ((b:Int) - 0).toNat:=by assumption
theorem yu (_:(a:Int) < (b:Int)):a < b:=by apply Int.ofNat_lt.mp;omega
theorem yt (h0:(a:Int)≤i):(Nat.cast i.toNat:Int)=i:=Int.toNat_of_nonneg (Int.le_trans (Int.natCast_nonneg a) h0)
theorem yr (_:0=a) (_:(b:Int) < (a:Int)):False:=by lia
theorem yq (_:a=0) (_:(b:Int) < (a:Int)):False:=by grind
theorem yp (h0:i≤1000):i≤1114111:=Int.le_trans h0 (by decide)
theorem yo (_:a+b≤100000):a+b≤16777216:=by exact Nat.le_trans (by assumption) (by decide)
theorem yn (_:¬i < 1):0 < i:=by simp at *;assumption
theorem ym (_:1≤i):¬↑1 > i:=by simp_all
theorem yl (h0:a=16777216) (h1:i≤100000):¬1*i.toNat > a:=by rw [h0,Nat.one_mul];exact Nat.not_lt.mpr (Int.toNat_le.mpr (Int.le_trans h1 (by decide)))
theorem yk (_:i < 1):i.toNat=0:=by grind
theorem yj (_:i≤100000):i≤16777216:=by omega
theorem yi (_:c≤b) (_:a < c):(a:Int) < (b:Int):=by lia
theorem yh (_:a≤b∧b < c):(a:Int)≤(b:Int)∧(b:Int) < (c:Int):=by exact_mod_cast (by assumption)
theorem yg (_:¬(a≤b∧b < c)):¬((a:Int)≤(b:Int)∧(b:Int) < (c:Int)):=by exact_mod_cast (by assumption)
theorem yf (h0:0≤i):0≤97+i:=Int.add_nonneg (by decide) h0
theorem ye (h0:a≤100) (h1:b≤a) (h2:i < (b:Int)):97+i≤1000:=Int.add_le_add (Int.le_refl 97) (Int.le_of_lt (Int.lt_of_lt_of_le h2 (Int.ofNat_le.mpr (Nat.le_trans h1 (Nat.le_trans h0 (by decide:100≤903))))))
theorem yd (h0:0≤i):(97+i).toNat=97+i.toNat:=Int.toNat_add (by decide) h0
theorem yc (_:b≤100) (_:c=b) (_:(c:Int)=(a:Int)):a≤100:=by lia
theorem yb (_:a≤100):a+(0+1)≤100000:=by exact Nat.lt_of_le_of_lt (by assumption) (by decide)
theorem ya (h0:b≤100) (h1:(a:Int) < (b:Int)):a < 100000:=Nat.lt_of_lt_of_le (Int.ofNat_lt.mp h1) (Nat.le_trans h0 (by decide))
theorem xZ:((a:Int) - 0).toNat=a:=by norm_cast at *
theorem xY (_:a≤100):a≤1000000:=by exact Nat.le_trans (by assumption) (by decide)
theorem xX (_:b≤100) (_:a=b):a≤16777216:=by lia
theorem xW (h0:a≤1) (h1:b=2) (h2:d≤64) (h3:c=d):a+b+c≤100:=Nat.le_trans (Nat.add_le_add (Nat.add_le_add h0 (Nat.le_of_eq h1)) (h3▸h2:c≤64)) (by decide)
theorem xV (h0:a≤1000) (h1:b≤c*1000):a+b≤(c+1)*1000:=by rw [Nat.succ_mul,Nat.add_comm];exact Nat.add_le_add h1 h0
theorem xU (h0:c≤1000) (h1:a≤c*1000) (h2:b≤c*10):a+b≤16777216:=Nat.le_trans (Nat.add_le_add (Nat.le_trans h1 (Nat.mul_le_mul_right 1000 h0)) (Nat.le_trans h2 (Nat.mul_le_mul_right 10 h0))) (by decide)
theorem xT (_:10≤i):0≤i:=by lia
theorem xS (_:i < 32):i≤1000000:=by lia
theorem xR (h0:i < 32):i.toNat < 60:=by cases i with | ofNat k=>exact Nat.lt_trans (Int.ofNat_lt.mp h0) (by decide) | negSucc k=>exact (by decide:(0:Nat) < 60)
theorem xQ (_:a % 2=1):a=2*(a / 2)+1:=by lia
theorem xP (_:a % 2≠1):a % 2=0:=by simp at *;assumption
theorem xO (_:a % 2=0):a=2*(a / 2):=by grind
theorem xN:(a:Int)+i+i - i - i=(a:Int):=by simp
theorem xM (_:0 < c) (_:c=0):a < b:=by simp_all
theorem xL (_:(a:Int) < 32):(a:Int)≤1000000:=by lia
theorem xK (_:0 < a):(a:Int)≠0:=by lia
theorem xJ (h0:a≤b) (h1:(b:Int) < 32):a≤100:=Nat.le_trans h0 (Nat.le_trans (Nat.le_of_lt (Int.ofNat_lt.mp h1)) (by decide))
theorem xI (h0:(a:Int) < 32):a < 60:=Nat.lt_trans (Int.ofNat_lt.mp h0) (by decide)
theorem xH (h0:a+b≤100000):¬a+b > 16777216:=Nat.not_lt.mpr (Nat.le_trans h0 (by decide))
theorem xG (h0:a≤b):(max (a:Int) (b:Int)).toNat=b:=by rw [Int.max_eq_right (Int.ofNat_le.mpr h0),Int.toNat_natCast]
theorem xF (_:a+b≤100000):a≤16777216:=by grind
theorem xE (h0:b+c≤100000):min a b+c≤16777217:=Nat.le_trans (Nat.add_le_add_right (Nat.min_le_right a b) c) (Nat.le_trans h0 (by decide))
theorem xD (_:a=c) (_:b=d) (_:c+d≤100000):a+b≤100000:=by subst_vars;assumption
theorem xC (_:a=c) (_:b=c):a - b=0:=by simp +arith [*]
theorem xA (_:c < b+1) (_:c=a+1):a < b:=by simp_all
theorem xz (_:a=b+1):a+1=b+1+1:=by simp at *;assumption
theorem xy (_:b+1=a+1):a=b:=by simp_all
theorem xx:i+j+k=i+(j+k):=Int.add_assoc ..
theorem xw (_:0≤i+j):¬i+j < 0:=by simp at *;assumption
theorem xv (_:a≤d) (_:b≤c):a+b≤c+d:=by grind
theorem xu (h0:a≤100000) (h1:b≤100000):a+(b+0)+2*0≤16777216:=Nat.le_trans (Nat.add_le_add h0 h1:a+b≤100000+100000) (by decide)
theorem xt (_:b≤1000) (_:c≤1000) (_:a≤b+c):a≤2000:=by lia
theorem xr (h0:b≤1000) (h1:a≤b*2000):a+0≤16777216:=Nat.le_trans h1 (Nat.le_trans (Nat.mul_le_mul_right 2000 h0) (by decide))
theorem xq (h0:0≤i) (h1:0≤j) (h2:i≤k) (h3:j≤l):0≤i+j∧i+j≤k+l:=⟨Int.add_nonneg h0 h1,Int.add_le_add h2 h3⟩
theorem xp (h0:a≤100) (h1:b≤100):0≤(a:Int)+(b:Int)∧(a:Int)+(b:Int)≤200:=⟨Int.natCast_nonneg (a+b),Int.ofNat_le.mpr (Nat.add_le_add h0 h1)⟩
theorem xo (h0:a+3 < b):a < b:=Nat.le_of_lt (Nat.le_of_lt (Nat.le_of_lt h0))
theorem xn (h0:b≤50) (h1:a=b):a≤100000:=Nat.le_trans (Nat.le_of_eq h1) (Nat.le_trans h0 (by decide))
theorem xk (h0:a=d) (h1:b=d):a≤min (b - c) (d - c)+c:=by rw [h0];exact Nat.le_add_of_sub_le (Nat.le_min.mpr ⟨Nat.le_of_eq (by rw [h1]),Nat.le_refl _⟩)
theorem xh (h0:d=c):min (a - b) (c - b)≤d - b:=Nat.le_trans (Nat.min_le_right _ _) (Nat.le_of_eq (by rw [h0]))
theorem xg (h0:a=b):a≤b - c+c:=by rw [h0];exact Nat.le_add_of_sub_le (Nat.le_refl _)
theorem xf (h0:d≤50):min (a - b) (min (c - b) (d - b))≤50:=Nat.le_trans (Nat.min_le_right _ _) (Nat.le_trans (Nat.min_le_right _ _) (Nat.le_trans (Nat.sub_le _ _) h0))
theorem xe (_:a≤50):a≤100000:=by exact Nat.le_trans (by assumption) (by decide)
theorem xd (_:b < a):-100000≤(a:Int) - (b:Int):=by lia
theorem xc (_:a≤100):(a:Int) - (b:Int)≤100000:=by lia
theorem wZ (_:b≤50) (_:a=b):1+a≤100000:=by lia
theorem wY (h0:a=d) (h1:c=d):a - b=c - b:=Eq.symm h0▸Eq.symm h1▸Nat.le_antisymm (Nat.le_refl (d - b)) (Nat.le_refl (d - b))
theorem wX (_:a=c):a - b=c - b:=by grind
theorem wW (_:a≤50):a≤50:=by omega
theorem wV (h0:a < b) (h1:b≤100):0≤(a:Int)∧(a:Int)≤100∧((b:Int) - (a:Int)).toNat≤100:=⟨Int.natCast_nonneg _,Int.ofNat_le.mpr (Nat.le_trans (Nat.le_of_lt h0) h1),by rw [Int.toNat_sub];exact Nat.le_trans (Nat.sub_le _ _) h1⟩
theorem wU:min a b≤a:=Nat.min_le_left a b
theorem wT (h0:0≤i∧i≤100) (h1:0≤j):0≤i+j:=Int.add_nonneg h0.1 h1
theorem wS (h0:0≤i) (h1:a≤50) (h2:b≤51) (h3:c < b) (h4:d≤a) (h5:e≤d+c) (h6:k≤200*(e:Int)):-100000≤i+j - (j+k):=by rw [show i+j - (j+k)=i - k from by rw [Int.add_comm i j,Int.add_sub_add_left]];exact Int.le_trans (Int.le_trans (by decide:(-100000:Int)≤0 - 200*101) (Int.sub_le_sub_left (Int.mul_le_mul_of_nonneg_left (Int.ofNat_le.mpr (Nat.le_trans h5 (Nat.add_le_add (Nat.le_trans h4 h1) (Nat.le_trans (Nat.le_of_lt h3) h2)))) (by decide)) 0)) (Int.sub_le_sub h0 h6)
theorem wR (h0:0≤k) (h1:i≤100):i+j - (j+k)≤100000:=by rw [show i+j - (j+k)=i - k from by rw [Int.add_comm i j,Int.add_sub_add_left]];exact Int.le_trans (Int.sub_le_self _ h0) (Int.le_trans h1 (by decide))
theorem wQ (h0:b≤50) (h1:c≤51) (h2:d < c) (h3:e≤b) (h4:a≤e+d):a≤1000:=Nat.le_trans h4 (Nat.le_trans (Nat.add_le_add (Nat.le_trans h3 h0) (Nat.le_trans (Nat.le_of_lt h2) h1)) (by decide))
theorem wP (_:a≤b+c):a < b+(c+1):=by simp +arith [*]
theorem wO (h0:0≤k) (h1:i≤100):(i+j - (j+k)).toNat≤100:=by rw [show i+j - (j+k)=i - k from by rw [Int.add_comm i j,Int.add_sub_add_left]];exact Int.toNat_le.mpr (Int.le_trans (Int.sub_le_self _ h0) h1)
theorem wN (_:a+10 < b):a+1+1 < b:=by omega
theorem wM:1≤16777216+1:=by simp
theorem wL:0≤(a:Int)*64:=Int.NonNeg.mk (a*64+0)
theorem wK:((a:Int)*64).toNat=a*64:=Eq.refl (Int.toNat (↑a*64))
theorem wJ:((a:Int)).toNat=a:=by norm_cast at *
theorem wI:(a:Int)*64+(b:Int) - ↑0=(a:Int)*64+(b:Int):=Int.sub_zero _
theorem wH (_:b < 64):a*64+b+1≤(a+1)*64:=by lia
theorem wG (h0:c≤2) (h1:a≤c):min a b≤2:=Nat.le_trans (Nat.min_le_left a b) (Nat.le_trans h1 h0)
theorem wF (_:c≤b) (_:a=c):a≤b:=by subst_vars;assumption
theorem wE (h0:a=b):(i+(a:Int)).toNat=((b:Int)+i).toNat:=by rw [h0,Int.add_comm]
theorem wD (_:-(b:Int)≤i) (_:a=b):-(a:Int)≤i:=by subst_vars;assumption
theorem wC (h0:a+c≤100000):a+min b c≤16777216:=Nat.le_trans (Nat.add_le_add_left (Nat.min_le_right b c) a) (Nat.le_trans h0 (by decide))
theorem wB (h0:a≤10) (h1:b≤10*c):a+b≤10*(c+1):=Nat.le_trans (Nat.add_le_add h0 h1) (Nat.le_of_eq (by rw [Nat.mul_succ,Nat.add_comm]))
theorem wA (h0:a≤10*min b c):a≤10*b:=Nat.le_trans h0 (Nat.mul_le_mul_left 10 (Nat.min_le_left b c))
theorem wz (h0:b≤1000) (h1:c < b) (h2:a≤10*c):a≤10000:=Nat.le_trans h2 (Nat.mul_le_mul_left 10 (Nat.le_trans (Nat.le_of_lt h1) h0))
theorem wy (h0:a≤10000) (h1:b≤10):a+b≤100000:=Nat.le_trans (Nat.add_le_add h0 h1) (by decide)
theorem wx (h0:i < 262144) (h1:i / 4096=(b:Int)) (h2:a=b∨a=c) (h3:i / 64 % 64=(c:Int)):a < 64:=by have x:∀ z:Int,0≤z→z < 64→True:=fun Z Z Z=>trivial;exact h2.elim (fun e=>Int.ofNat_lt.mp (by rw [e,←h1];exact Int.ediv_lt_of_lt_mul (by decide) h0)) fun e=>Int.ofNat_lt.mp (by rw [e,←h3];exact Int.emod_lt_of_pos _ (by decide))
theorem wv (h0:a=b) (h1:i / 64 % 64=(b:Int)):a < 64:=Int.ofNat_lt.mp (by rw [h0,←h1];exact Int.emod_lt_of_pos _ (by decide))
theorem wt:a≤a+(b+c):=by simp
theorem wq:((a:Int)+-1).toNat=a - 1:=by rw [←Int.sub_eq_add_neg];exact Int.toNat_sub a 1
theorem wp (h0:a=10):min a b≤100000:=Nat.le_trans (Nat.min_le_left a b) (h0▸by decide)
theorem wo (_:¬0 < i / 4096) (_:(a:Int) % 2=0):¬(a % 2≠0∨0 < i / 4096):=by lia
theorem wn (_:(a:Int) % 2≠0):a % 2≠0:=by norm_cast at *
theorem wm (_:b=a):min a b=a:=by simp +arith [*]
theorem wl:0≤2:=by exact Nat.zero_le _
theorem wk (h0:a≤2):a≤3:=Nat.le_of_lt (Nat.lt_succ_of_le h0)
theorem wj:min a b≤b:=Nat.min_le_right a b
theorem wi (h0:b=10) (h1:c=b) (h2:d=c) (h3:a≤e) (h4:d=e):a≤1000:=Nat.le_trans h3 (Nat.le_trans (Nat.le_of_eq (h4.symm.trans (h2.trans (h1.trans h0)))) (by decide))
theorem wh (_:a≤2):a≤9:=by exact Nat.le_trans (by assumption) (by decide)
theorem wg (h0:b≤2) (h1:a=b+1):a - 1≤100000:=by subst h1;exact Nat.le_trans h0 (by decide)
theorem wf (h0:a=b+1):-(a:Int)≤-1:=by rw [h0];exact Int.neg_le_neg (Int.ofNat_le.mpr (Nat.succ_le_succ (Nat.zero_le b)))
theorem we (h0:b≤2) (h1:a=b+1):a≤16777216:=Nat.le_trans (Nat.le_of_eq h1) (Nat.le_trans (Nat.succ_le_succ h0) (by decide))
theorem wd:a+(b+1)=a+b+1:=by norm_cast at *
theorem wc (_:b=10) (_:c=b) (_:a=c):a≤100000:=by simp +arith [*]
theorem wb (_:b=10) (_:c=b) (_:d=c) (_:a < d):a < 10:=by simp_all
theorem wa (_:b=10) (_:c=b) (_:a=c):a=10:=by simp +arith [*]
theorem vZ (_:b=10) (_:c=a) (_:d=b) (_:c=d):a≤10:=by subst_vars;exact Nat.lt_succ_self _
theorem vY (_:a=10):a≤10:=by subst_vars;exact Nat.lt_succ_self _
theorem vX (h0:k < j∨k=j∧c < b) (h1:i < k∨i=k∧a < c):i < j∨i=j∧a < b:=h1.elim (fun e=>h0.elim (fun f=>.inl (Int.lt_trans e f)) fun f=>.inl (f.1▸e)) fun e=>h0.elim (fun f=>.inl (e.1▸f)) fun f=>.inr ⟨e.1.trans f.1,Nat.lt_trans e.2 f.2⟩
theorem vW (h0:d≤b) (h1:c≤d):¬(a≤b∧b < c):=fun x=>Nat.lt_irrefl b (Nat.lt_of_lt_of_le x.2 (Nat.le_trans h1 h0))
theorem vV (h0:a≤c∧c < b) (h1:b≤d):a+b - 1 - c < d:=Nat.lt_of_le_of_lt (Nat.le_trans (Nat.sub_le_sub_right (Nat.sub_le_sub_right (Nat.add_le_add_right h0.1 b) 1) c) (Nat.le_of_eq (by rw [Nat.sub_sub,Nat.add_comm 1 c,←Nat.sub_sub,Nat.add_sub_cancel_left]))) (Nat.lt_of_lt_of_le (Nat.sub_lt (Nat.lt_of_le_of_lt (Nat.zero_le c) h0.2) Nat.one_pos) h1)
theorem vU (_:b < a):a≠b - (b - c):=by omega
theorem vT (_:a < c):¬(a - (a - b) < c∧c≤a):=by simp +arith [*]
theorem vS (h0:b - (b - c) < a∧a≤b):a - 1 < b+1:=Nat.lt_succ_of_le (Nat.le_trans (Nat.sub_le a 1) h0.2)
theorem vR (h0:c≤b) (h1:a - c≤0):a≤b:=by have:=Nat.sub_eq_zero_iff_le.mp (Nat.le_zero.mp h1);exact Nat.le_trans this h0
theorem vP (h0:¬a≥b):a≤(a+b) / 2:=(Nat.le_div_iff_mul_le (by decide)).mpr (by rw [Nat.mul_two];exact Nat.add_le_add_left (Nat.le_of_lt (Nat.not_le.mp h0)) a)
theorem vO (h0:b≤c) (h1:¬a≥b):(a+b) / 2≤c:=Nat.le_trans (Nat.le_of_lt ((Nat.div_lt_iff_lt_mul (by decide)).mpr (by rw [Nat.mul_two];exact Nat.add_lt_add_right (Nat.not_le.mp h1) b))) h0
theorem vN (h0:(b+c) / 2≤a) (h1:a≤(b+c) / 2):a=(b+c) / 2:=Nat.le_antisymm h1 h0
theorem vM (h0:a < b) (h1:¬j < i):i < j∨i=j∧a < b:=Decidable.byCases (fun e:i < j=>.inl e) fun e=>.inr ⟨Int.le_antisymm (Int.not_lt.mp h1) (Int.not_lt.mp e),h0⟩
theorem vK (h0:¬a≥b):(a+b) / 2+1≤b:=by have:=Nat.not_le.mp h0;exact (Nat.div_lt_iff_lt_mul (by decide)).mpr (by omega)
theorem vJ (_:(b+c) / 2≤a) (_:a < (b+c) / 2+1):a=(b+c) / 2:=by lia
theorem vI (_:a+0=b):a=b:=by omega
theorem vH:a - 0≤a:=by simp
theorem vG:0≤a:=by exact Nat.zero_le _
theorem vF (_:a < 0):False:=by simp_all
theorem vE (h0:a < b) (h1:b≤a):False:=Nat.not_lt_of_le h1 h0
theorem vD (h0:d < b) (h1:c < d):¬(a - (a - b) < c∧c≤a):=fun e=>(Nat.le_total b a).elim (fun x=>Nat.lt_irrefl c (Nat.lt_trans h1 (Nat.lt_trans h0 (Nat.sub_sub_self x▸e.1)))) fun x=>Nat.lt_irrefl c (by have y:=e.1;rw [Nat.sub_eq_zero_of_le x] at y;exact Nat.lt_of_le_of_lt e.2 y)
theorem vC (h0:d < b+1) (h1:a < d) (h2:c=d):a≠b - (b - c):=fun e=>by have x:c≤b:=h2▸Nat.le_of_lt_succ h0;rw [Nat.sub_sub_self x,h2] at e;exact absurd h1 (e▸Nat.lt_irrefl _)
theorem vB (h0:b=d) (h1:c < d):¬(a - (a - b) < c∧c≤a):=fun e=>(Nat.le_total b a).elim (fun x=>Nat.lt_irrefl c (Nat.lt_trans h1 (h0▸Nat.sub_sub_self x▸e.1))) fun x=>Nat.lt_irrefl c (by have y:=e.1;rw [Nat.sub_eq_zero_of_le x] at y;exact Nat.lt_of_le_of_lt e.2 y)
theorem vA (h0:a < b+1) (h1:c=a):a=b - (b - c):=by rw [h1];exact (Nat.sub_sub_self (Nat.le_of_lt_succ h0)).symm
theorem vz (h0:b < c) (h1:c < a+1):a - (a - b) < c∧c≤a:=⟨Nat.lt_of_le_of_lt (Nat.le_of_eq (Nat.sub_sub_self (Nat.le_of_lt (Nat.lt_of_lt_of_le h0 (Nat.le_of_lt_succ h1))))) h0,Nat.le_of_lt_succ h1⟩
theorem vy (h0:c < b) (h1:a < c):a < b - 1:=Nat.lt_of_lt_of_le h1 (Nat.le_sub_one_of_lt h0)
theorem vw (h0:b < c) (h1:d < a+1) (h2:c < d):a - (a - b) < c∧c≤a:=⟨Nat.lt_of_le_of_lt (Nat.le_of_eq (Nat.sub_sub_self (Nat.le_of_lt (Nat.lt_of_lt_of_le (Nat.lt_trans h0 h2) (Nat.le_of_lt_succ h1))))) h0,Nat.le_of_lt_succ (Nat.lt_trans h2 h1)⟩
theorem vv (h0:a < b) (h1:c < a):a - 1 < b - 1:=by cases a with | zero=>exact absurd h1 (Nat.not_lt_zero c) | succ k=>exact Nat.le_sub_one_of_lt h0
theorem vt (_:a+0=b) (_:a < b):i < j:=by simp_all
theorem vr (_:c < b) (_:a=c):a < b:=by subst_vars;assumption
theorem vq (h0:¬j < i) (h1:a < c) (h2:b=c):i < j∨i=j∧a < b:=Decidable.byCases (fun e:i < j=>.inl e) fun e=>.inr ⟨Int.le_antisymm (Int.not_lt.mp h0) (Int.not_lt.mp e),h2▸h1⟩
theorem vp (h0:b - 1≤a) (h1:c < b+1) (h2:a < c):a=b - 1:=Nat.le_antisymm (Nat.le_sub_one_of_lt (Nat.lt_of_lt_of_le h2 (Nat.le_of_lt_succ h1))) h0
theorem vo (_:d < a - b - 1) (_:c < d):¬(a - (b+1)≤c∧c < a):=by lia
theorem vn (_:a - b - 1≤c) (_:c < a):a - (b+1)≤c∧c < a:=by norm_cast at *
theorem vj (h0:a - b - 1≤c) (h1:d < a) (h2:c < d):a - (b+1)≤c∧c < a:=⟨Nat.le_trans (Nat.le_of_eq (Nat.sub_sub a b 1).symm) h0,Nat.lt_trans h2 h1⟩
theorem vd (h0:b < a):a - (b+1)≤a - 1∧a - 1 < a:=⟨Nat.sub_le_sub_left (Nat.le_add_left 1 b) a,Nat.sub_lt (Nat.lt_of_le_of_lt (Nat.zero_le b) h0) Nat.one_pos⟩
theorem uY (h0:c < b) (h1:a < c):a < b - 0 - 1:=Nat.lt_of_lt_of_le h1 (Nat.le_sub_of_add_le h0)
theorem uX:0+1≤a+1:=by simp
theorem uW (_:a < b+1 - 0 - 1):a < b:=by assumption
theorem uV (h0:i < k) (h1:k < j∨k=j∧a < b):i < j:=h1.elim (fun x=>Int.lt_trans h0 x) fun x=>x.1▸h0
theorem uU (h0:a < b+1 - 0 - 1) (h1:b - 1≤a):a=b - 1:=Nat.le_antisymm (Nat.le_sub_one_of_lt (Nat.lt_of_lt_of_le h0 (Nat.sub_le_sub_right (Nat.le_refl (b+1)) 1))) h1
theorem uT (_:0+1≤a):1≤a:=by omega
theorem uS (h0:k < j) (h1:¬k < i):i < j:=Int.lt_of_le_of_lt (Int.not_lt.mp h1) h0
theorem uR (h0:i=k) (h1:¬j < k) (h2:¬k < j):i=j:=Int.le_antisymm (h0▸Int.not_lt.mp h1) (h0▸Int.not_lt.mp h2)
theorem uQ (_:a≤b):a+(b - a)=b:=by simp +arith [*]
theorem uP (h0:a < b):a+1+(b - (a+1))=b:=by rw [Nat.add_comm];exact Nat.sub_add_cancel h0
theorem uO (_:1≤a):1+(a - 1)=a:=by simp +arith [*]
theorem uN (_:a < 1) (_:b < a):False:=by simp_all
theorem uM (h0:a≠b) (h1:a≤b):a < b:=Nat.lt_of_le_of_ne h1 h0
theorem uL (h0:1 < a):0 < a:=Nat.le_of_lt h0
theorem uK (h0:a < c) (h1:b=c):a≤b:=Eq.symm h1▸Nat.le_of_lt h0
theorem uI:0+a - 1 - (a - 1)=0:=by simp
theorem uG (h0:i < k) (h1:¬j < k):i < j:=Int.lt_of_lt_of_le h0 (Int.not_lt.mp h1)
theorem uF (h0:¬a > 1) (h1:b < a) (h2:c < b):False:=absurd (Nat.lt_of_le_of_lt (Nat.zero_le c) h2) (Nat.not_lt.mpr (Nat.le_of_lt_succ (Nat.lt_of_lt_of_le h1 (Nat.not_lt.mp h0))))
theorem uE (_:a < 1):a=0:=by simp at *;assumption
theorem uD (_:1≤a):0 < a:=by assumption
theorem uC (h0:a < b):a+(b - a)=b:=Nat.add_sub_cancel' (Nat.le_of_lt h0)
theorem uB (h0:a+10 < b):a+1 < b:=Nat.lt_of_le_of_lt (Nat.add_le_add_left (by decide) a) h0
theorem uA (h0:b≤100000) (h1:a≤b+2):a≤16777216:=Nat.le_trans h1 (Nat.le_trans (Nat.succ_le_succ (Nat.succ_le_succ h0)) (by decide))
theorem uy (h0:2≤b) (h1:c=b) (h2:a=c):0 < a:=Eq.symm h2▸Eq.ndrec (motive:=fun {b}=>2≤b→0 < c) (fun h0=>Nat.le_of_lt h0) h1 h0
theorem ux (h0:0=b - a) (h1:a≤b):a=b:=Nat.le_antisymm h1 (Nat.sub_eq_zero_iff_le.mp h0.symm)
theorem uw (h0:b=c) (h1:d+1=c - a):a < b:=Nat.lt_of_sub_pos (by rw [←h0] at h1;rw [h0];exact Nat.lt_of_lt_of_le (Nat.succ_pos d) (Nat.le_of_eq (h0▸h1)))
theorem uv:(max 0 (min (a:Int) (b:Int))).toNat=min a b:=by rw [Int.max_eq_right (by rw [Int.le_min];exact ⟨Int.natCast_nonneg _,Int.natCast_nonneg _⟩)];exact (Nat.le_total a b).elim (fun e=>by rw [Int.min_eq_left (Int.ofNat_le.mpr e),Nat.min_eq_left e,Int.toNat_natCast]) fun e=>by rw [Int.min_eq_right (Int.ofNat_le.mpr e),Nat.min_eq_right e,Int.toNat_natCast]
theorem uu (_:a≤63):a≤100000:=by exact Nat.le_trans (by assumption) (by decide)
theorem ut:min 60 a≤100000:=Nat.le_trans (Nat.min_le_left 60 a) (by decide)
theorem ur:min 60 a≤60:=Nat.min_le_left 60 a
theorem uq:0≤i % 1000000∧i % 1000000 < 1000000:=⟨Int.emod_nonneg _ (by decide),Int.emod_lt_of_pos _ (by decide)⟩
theorem uo (_:a≤60):a≤100000:=by exact Nat.le_trans (by assumption) (by decide)
theorem un:0≤i % 262144∧i % 262144 < 262144:=⟨Int.emod_nonneg _ (by decide),Int.emod_lt_of_pos _ (by decide)⟩
theorem ul (_:(a:Int)≤(b:Int)∧(b:Int) < (c:Int)):a≤b∧b < c:=by simp at *;assumption
theorem uk (_:¬((a:Int)≤(b:Int)∧(b:Int) < (c:Int))):¬(a≤b∧b < c):=by norm_cast at *
theorem uh (h0:a < 30):(max 0 (min (a:Int) ↑32)).toNat=a:=by rw [Int.min_eq_left (Int.le_trans (Int.ofNat_le.mpr (Nat.le_of_lt h0)) (by decide)),Int.max_eq_right (Int.natCast_nonneg _),Int.toNat_natCast]
theorem ug:¬(a:Int)+3 < 0:=by grind
theorem ue (_:a≤10):a≤16777216:=by exact Nat.le_trans (by assumption) (by decide)
theorem ud:(i / 4096 % 30).toNat < 30:=(Int.toNat_lt (Int.emod_nonneg _ (by decide))).mpr (Int.emod_lt_of_pos _ (by decide))
theorem uc:1≤1+i / 122880 % 3:=by lia
theorem ub:1+i / 122880 % 3≤3:=Int.add_le_add_left (Int.le_of_lt_add_one (Int.emod_lt_of_pos (i / 122880) (by decide:(0:Int) < 3)):i / 122880 % 3≤2) 1
theorem ua (h0:a≤1000):-1000000 < (a:Int)∧(a:Int) < 1000000:=⟨Int.lt_of_lt_of_le (by decide) (Int.natCast_nonneg a),Int.lt_of_le_of_lt (Int.ofNat_le.mpr h0) (by decide)⟩
theorem tZ (h0:1≤a∧a≤10):-1000000 < 3*(a:Int) - 2∧3*(a:Int) - 2 < 1000000:=⟨Int.lt_of_lt_of_le (by decide) (Int.sub_le_sub_right (Int.mul_le_mul_of_nonneg_left (Int.natCast_nonneg a) (by decide:(0:Int)≤3)) 2),Int.lt_of_le_of_lt (Int.sub_le_sub_right (Int.mul_le_mul_of_nonneg_left (Int.ofNat_le.mpr h0.2) (by decide:(0:Int)≤3)) 2) (by decide)⟩
theorem tY (_:1≤a∧a≤10):3*(a:Int) - 2≤100000:=by lia
theorem tW (h0:1≤a∧a≤10):3*a - 2≤1000:=Nat.le_trans (Nat.sub_le _ _) (Nat.le_trans (Nat.mul_le_mul_left 3 h0.2) (by decide))
theorem tV:(3*(a:Int) - 2).toNat=3*a - 2:=by cases a with | zero=>rfl | succ k=>exact Int.toNat_sub (3*(k+1)) 2
theorem tS (_:a≤b):a+0≤b+c:=by grind
theorem tR (_:c < 0):a < b:=by simp_all
theorem tQ (_:a≤b):a+0+1≤b+1:=by simp +arith [*]
theorem tP (_:a < b+1) (_:a≠b):a < b:=by lia
theorem tO (h0:a < b):a+0+1≤b+c:=Nat.le_trans h0 (Nat.le_add_right b c)
theorem tN (_:1≤a):a=a - 1+1:=by simp +arith [*]
theorem tM (h0:c=b+1) (h1:a=c):a=b+1:=Eq.trans h1 h0
theorem tL (_:a < b) (_:c < a) (_:b≤c+1):False:=by lia
theorem tK (h0:a < b) (h1:c≤a+1) (h2:d≤c) (h3:b≤e) (h4:d=e+1):False:=Nat.lt_irrefl b (Nat.lt_of_le_of_lt (Nat.le_trans h3 (Nat.le_of_lt_succ (Nat.le_trans (Nat.le_of_eq h4.symm) (Nat.le_trans h2 h1)))) h0)
theorem tJ (_:a≤b) (_:b < c) (_:d=0):a≤b∧b < c∧d≤e:=by simp +arith [*]
theorem tI (_:a=0) (_:b≤a) (_:c≤b) (_:c=d+1):False:=by simp_all
theorem tG (h0:c≤b) (h1:d≤c) (h2:a≤e) (h3:d=e+1):a≤b - 1:=Nat.le_trans h2 (Nat.le_sub_one_of_lt (Nat.lt_of_lt_of_le (by rw [h3];exact Nat.lt_succ_self e) (Nat.le_trans h1 h0)))
theorem tF (_:a≤b) (_:b < c):a≤b∧b < c:=by norm_cast at *
theorem tD (_:¬b < a):a≤b:=by simp at *;assumption
theorem tC (_:¬d < e):a=b→c≤d→e≤d:=by simp_all
theorem tB (_:(a:Int) - (b:Int)=(c:Int)):(Nat.cast (a+(0+1)):Int) - (Nat.cast (b+(0+1)):Int)=(Nat.cast (c+(0+0)):Int):=by subst_vars;omega
theorem ty (_:¬b≤a):(a:Int)+1≤(b:Int):=by grind
theorem tx (_:c≤b) (_:¬c≤a):a < b:=by lia
theorem tw (_:¬c≤d):a=b→c≤d→e≤d:=by simp +arith [*]
theorem tu (h0:a≤b∧b < c) (h1:d≤e):a≤b∧b < c∧d≤e+1:=⟨h0.1,h0.2,Nat.le_succ_of_le h1⟩
theorem tr (_:a≤b):a=b+1→c≤d→e≤d:=by lia
theorem to:a+b+1=a+1+(b+(0+0)):=by simp +arith
theorem tn (_:a≤b∧b < c) (_:d=e+1):a≤b∧b < c∧d≤e+1:=by simp +arith [*]
theorem tm (_:a=b+1) (_:c≤d∧d < e):a=b+1∧c≤d∧d < e:=by norm_cast at *
theorem tl:a+b+1=a+0+(b+(0+1)):=by norm_cast at *
theorem td (h0:d≠e+1) (h1:¬d≤e):¬(a≤b∧b < c∧d≤e+1):=fun x=>(Nat.lt_or_ge d (e+1)).elim (fun y=>h1 (Nat.le_of_lt_succ y)) fun y=>h0 (Nat.le_antisymm x.2.2 y)
theorem tc (_:a≠b+1):a=b+1→c≤d→e≤d:=by simp +arith [*]
theorem ta (h0:¬(a≤b∧b < c)):¬(a≤b∧b < c∧d≤e+1):=fun x=>h0 ⟨x.1,x.2.1⟩
theorem sZ (_:¬(c≤d∧d < e)):a=b+1→c≤d→e≤d:=by simp_all
theorem sY:a≤b∧b < c∧d≤0↔d=0∧a≤b∧b < c:=⟨fun e=>⟨Nat.le_zero.mp e.2.2,e.1,e.2.1⟩,fun e=>⟨e.2.1,e.2.2,Nat.le_of_eq e.1⟩⟩
theorem sX (_:d=a+b):a+(b+c)=d+c:=by simp +arith [*]
theorem sW (h0:i < (a:Int)):i≤(a:Int):=Int.le_of_lt h0
theorem sV (_:(a:Int)≤i):(a:Int)≤i:=by omega
theorem sU (_:i≤(a:Int)):i≤(a:Int):=by omega
theorem sS (h0:(a:Int) < i):(a:Int)≤i:=Int.le_of_lt h0
theorem sR (_:¬b≤a):a < b:=by simp at *;assumption
theorem sQ (h0:b=c) (h1:min 2 (c - a)=2):a+2≤b:=by rw [h0];exact Nat.add_comm 2 a▸Nat.add_le_of_le_sub (Nat.le_of_lt (Nat.lt_of_sub_pos (Nat.lt_of_lt_of_le Nat.two_pos (Nat.le_trans (Nat.le_of_eq h1.symm) (Nat.min_le_right _ _))))) (Nat.le_trans (Nat.le_of_eq h1.symm) (Nat.min_le_right _ _))
theorem sP (_:a=b - c):a≤b - c:=by simp +arith [*]
theorem sO (h0:a < b+c):a - b≤c:=Nat.sub_le_of_le_add (Nat.add_comm b c▸Nat.le_of_lt h0)
theorem sN (h0:a≤b) (h1:c - (b - a)=0) (h2:b < a+c):False:=by have:=Nat.sub_eq_zero_iff_le.mp h1;exact Nat.lt_irrefl b (Nat.lt_of_lt_of_le h2 (Nat.add_comm a c▸Nat.add_le_of_le_sub h0 this))
theorem sM (_:a=b):a≤b+c:=by simp +arith [*]
theorem sK:a+b - a=b:=Nat.add_sub_cancel_left ..
theorem sJ (_:a < b) (_:c+b≤a):False:=by lia
theorem sI (_:1 < 1):False:=by simp_all
theorem sH (h0:a < min c b):a < b:=Nat.lt_of_lt_of_le h0 (Nat.min_le_right _ _)
theorem sG (h0:a < min b c):a < b:=Nat.lt_of_lt_of_le h0 (Nat.min_le_left b c)
theorem sE (_:a≤b):min a b=a:=by simp +arith [*]
theorem sC (h0:b < c - a):a+b < c:=Nat.add_comm b a▸Nat.add_lt_of_lt_sub h0
theorem sB (_:c+b=c+a):a=b:=by simp_all
theorem sA (h0:c≤d∧¬(d < e→b≤a)):a < b:=Nat.not_le.mp fun x=>h0.2 fun Z=>x
theorem sw (_:a < b+1) (_:b≠a):a < b:=by lia
theorem sv (h0:0=3*a - 2+b):a=0:=by cases a with | zero=>rfl | succ x=>exact absurd (Nat.eq_zero_of_add_eq_zero_right h0.symm) (Nat.succ_ne_zero (3*x))
theorem ss:a≤max b a:=Nat.le_max_right b a
theorem sr (h0:a < b) (h1:c < b) (h2:¬(a≤max a c∧max a c < b)):False:=h2 ⟨Nat.le_max_left a c,Nat.max_lt.mpr ⟨h0,h1⟩⟩
theorem sq (h0:a≠0) (h1:3*a - 2+b=0):False:=by cases a with | zero=>exact absurd rfl h0 | succ x=>exact absurd (Nat.eq_zero_of_add_eq_zero_right h1) (Nat.succ_ne_zero (3*x))
theorem sk (_:a≠0):1≤a:=by grind
theorem sj (_:a=0) (_:a=1):False:=by simp_all
theorem si (_:a=0) (_:a=2):False:=by simp_all
theorem sh (_:a=1) (_:a=2):False:=by simp_all
theorem sg (_:a≤0∧0 < b):a=0:=by simp_all
theorem sd (h0:a≠b+1) (h1:a≤b+1∧b+1 < c):a≤b∧b < c:=⟨Nat.le_of_lt_succ (Nat.lt_of_le_of_ne h1.1 h0),Nat.lt_trans (Nat.lt_succ_self b) h1.2⟩
theorem rZ (_:a=5) (_:a=6):False:=by simp_all
theorem rY (_:1≤a∧a≤10):a≤100:=by lia
theorem rX (_:a < b) (_:1≤b∧b≤10):a < 11:=by lia
theorem rW (_:i < (Nat.cast (a+1):Int)) (_:i≠(a:Int)) (_:(Nat.cast i.toNat:Int)=i):i.toNat < a:=by lia
theorem rV (_:a < b):(a:Int) < (Nat.cast (b+1):Int):=by lia
theorem rU (_:a < b):(a:Int)≠(b:Int):=by grind
theorem rT (h0:1≤b) (h1:a=b):a≠0:=fun x=>Nat.lt_irrefl 0 (Nat.lt_of_lt_of_le (Nat.lt_of_lt_of_le Nat.one_pos h0) (Nat.le_of_eq (h1.symm.trans x)))
theorem rQ (h0:b≤102*c) (h1:d≤100) (h2:a=d+2):a+b≤102*(c+1):=by rw [h2,Nat.mul_succ,Nat.add_comm];exact Nat.add_le_add h0 (Nat.succ_le_succ (Nat.succ_le_succ h1))
theorem rP (h0:a≤100) (h1:b≤102*c):a+b≤102*(c+1):=by rw [Nat.mul_succ,Nat.add_comm];exact Nat.add_le_add h1 (Nat.le_trans h0 (by decide))
theorem rO (_:b≤3) (_:a≤102*b):a≤1000:=by lia
theorem rN (_:a < 3):(a:Int) < 3:=by exact_mod_cast (by assumption)
theorem rM (_:a < 3):a=0∨a=1∨a=2:=by lia
theorem rL (_:0 < (a:Int)):1≤a:=by apply Int.ofNat_lt.mp;omega
theorem rK (_:0 < (a:Int)):a≠0:=by lia
theorem rI (h0:0≤i):i=(Nat.cast i.toNat:Int):=Eq.symm (Int.toNat_of_nonneg h0)
theorem rH (_:¬0 < (a:Int)):a=0:=by simp at *;assumption
theorem rG (_:1≤a) (_:¬0 < (a:Int)):False:=by norm_cast at *
theorem rF (_:0≤i):0≤(a:Int)+i:=by subst_vars;omega
theorem rE (_:a < 30) (_:i < 3):(a:Int)+i≤1000000:=by lia
theorem rD:1*i=i:=by simp
theorem rC (_:a≤3):a≤100000:=by exact Nat.le_trans (by assumption) (by decide)
theorem rB:i+((a:Int)+(b:Int))=(a:Int)+(b:Int)+i:=by simp +arith
theorem rA:(a:Int)+(b:Int)+i+((c:Int)+(d:Int))=(a:Int)+(b:Int)+(i+((c:Int)+(d:Int))):=Int.add_assoc _ _ _
theorem rz:0=(a:Int) - (a:Int):=by simp
theorem ry:(a:Int)+i - (i+((b:Int) - ↑0))=(a:Int) - (b:Int):=by simp +arith
theorem rx (_:a≤b):a=min a b:=by simp +arith [*]
theorem rv (h0:c < b) (h1:b < d) (h2:¬(b < a∧c < d)):a≤b:=Nat.not_lt.mp fun x=>h2 ⟨x,Nat.lt_trans h0 h1⟩
theorem ru (h0:c≤b) (h1:b < d) (h2:¬(c < d∧b < a)):a≤b:=Nat.not_lt.mp fun x=>h2 ⟨Nat.lt_of_le_of_lt h0 h1,x⟩
theorem rq (h0:b≤c) (h1:c < d) (h2:d≤a):a - b=c - b+(d - c+(a - d)):=by rw [Nat.add_comm (d - c),Nat.sub_add_sub_cancel h2 (Nat.le_of_lt h1),Nat.add_comm,Nat.sub_add_sub_cancel (Nat.le_trans (Nat.le_of_lt h1) h2) h0]
theorem rp:a≤a+1*b:=by simp
theorem rn (h0:d≤c) (h1:e < d) (h2:b < e - a):a+1*b < c:=by rw [Nat.one_mul,Nat.add_comm];exact Nat.lt_of_lt_of_le (Nat.lt_trans (Nat.add_lt_of_lt_sub h2) h1) h0
theorem rm (h0:c < a - b):¬(a≤b+1*c∧b+1*c < d):=fun x=>Nat.lt_irrefl a (Nat.lt_of_le_of_lt x.1 (by rw [Nat.one_mul,Nat.add_comm];exact Nat.add_lt_of_lt_sub h0))
theorem rl (h0:e≤a) (h1:f < e) (h2:c < f - b):¬(a≤b+1*c∧b+1*c < d):=fun x=>Nat.lt_irrefl e (Nat.lt_trans (Nat.lt_of_le_of_lt (Nat.le_trans h0 (Nat.one_mul c▸x.1)) (Nat.add_comm c b▸Nat.add_lt_of_lt_sub h2)) h1)
theorem rj (h0:a≤b) (h1:c < d - b):a+1*(b - a)+1*c < d:=by rw [Nat.one_mul,Nat.one_mul,Nat.add_comm a,Nat.sub_add_cancel h0,Nat.add_comm];exact Nat.add_lt_of_lt_sub h1
theorem ri (h0:b≤c) (h1:c < a):a=b+1*(c - b)+1*(a - c):=by rw [Nat.one_mul,Nat.one_mul,Nat.add_comm b,Nat.sub_add_cancel h0,Nat.add_comm,Nat.sub_add_cancel (Nat.le_of_lt h1)]
theorem rh:(a:Int)=(b:Int)↔a=b:=by norm_cast at *
theorem rg (_:d≤c):¬(a < b∧c < d):=by simp +arith [*]
theorem rf (h0:a≤15) (h1:c≤23):((a:Int) - (b:Int)).toNat≤100∧((c:Int) - (a:Int)).toNat≤100:=⟨by rw [Int.toNat_sub];exact Nat.le_trans (Nat.sub_le _ _) (Nat.le_trans h0 (by decide)),by rw [Int.toNat_sub];exact Nat.le_trans (Nat.sub_le _ _) (Nat.le_trans h1 (by decide))⟩
theorem rd (_:a < 3*c - 2) (_:b=3*c - 2):(a:Int) < (b:Int):=by simp +arith [*]
theorem rc (h0:b≤10) (h1:a=3*b - 2):a≤100000:=by rw [h1];exact Nat.le_trans (Nat.sub_le _ _) (Nat.le_trans (Nat.mul_le_mul_left 3 h0) (by decide))
theorem qZ:0≤97+(a:Int):=Int.NonNeg.mk (97+a+0)
theorem qY (_:a < 10):97+(a:Int)≤1000:=by lia
theorem qX:(97+(a:Int)).toNat=97+a:=Eq.refl (Int.toNat (97+↑a))
theorem qW (h0:a < 10):a≤10:=Nat.le_of_lt h0
theorem qV (h0:a+20 < b):a+3 < b:=Nat.lt_of_le_of_lt (Nat.add_le_add_left (by decide) a) h0
theorem qU (_:a≤10):a≤50:=by lia
theorem qS (h0:1≤i∧i≤3):0≤i∧i≤100:=⟨Int.le_trans (by decide) h0.1,Int.le_trans h0.2 (by decide)⟩
theorem qR (_:a≤15):0≤(a:Int)∧(a:Int)≤100:=by lia
theorem qQ (h0:c=a+b) (h1:c≤10):a+(b+1)≤50:=Nat.le_trans (Nat.succ_le_succ (Nat.le_trans (Nat.le_of_eq h0.symm) h1)) (by decide:11≤50)
theorem qP (h0:a≤100∧b≤100):a≤1000∧b≤1000:=⟨Nat.le_trans h0.1 (by decide),Nat.le_trans h0.2 (by decide)⟩
theorem qO (_:i=(a:Int) - ↑0):i=(a:Int):=by assumption
theorem qN (h0:1≤i∧i≤3):0≤i+(a:Int):=Int.add_nonneg (Int.le_trans (by decide) h0.1) (Int.natCast_nonneg a)
theorem qM (h0:c=a) (h1:c≤b) (h2:d≤a) (h3:b=d):a=b:=Eq.ndrec (motive:=fun {a}=>d≤a→a=b) (fun h2=>Eq.ndrec (motive:=fun {b}=>c≤b→c=b) (fun h1=>Nat.le_antisymm h1 h2) (Eq.symm h3) h1) h0 h2
theorem qL:i+(a:Int) - i=(a:Int):=by simp +arith
theorem qK (_:a=10) (_:a=3):False:=by simp_all
theorem qJ (_:a=10) (_:a=4):False:=by simp_all
theorem qI (_:a=3) (_:a=4):False:=by simp_all
theorem qH (_:a=8):a≠1:=by simp +arith [*]
theorem qG (_:a=8):a≠2:=by subst_vars;omega
theorem qF (_:a=8):a≠5:=by simp +arith [*]
theorem qE (_:a=8):a≠6:=by omega
theorem qD (_:a=8):a≠7:=by simp +arith [*]
theorem qC (_:b≠2) (_:a=b):a≠2:=by subst_vars;assumption
theorem qB (_:b≠3) (_:a=b):a≠3:=by subst_vars;assumption
theorem qA (_:b≠4) (_:a=b):a≠4:=by subst_vars;assumption
theorem qz (_:b≠8) (_:a=b):a≠8:=by subst_vars;assumption
theorem qy (_:b≠9) (_:a=b):a≠9:=by subst_vars;assumption
theorem qx (_:b≠10) (_:a=b):a≠10:=by subst_vars;assumption
theorem qv (_:a=8):a≠3:=by simp +arith [*]
theorem qu (_:a=8):a≠4:=by omega
theorem qt (h0:a=8):a≠10:=Eq.symm h0▸Nat.ne_of_lt (Nat.le_of_lt (Nat.le_refl (Nat.succ (Nat.succ 8))))
theorem qr (h0:c=3*b - 2) (h1:c=a):a=3*b - 2:=Eq.trans (id (Eq.symm h1)) h0
theorem qq (h0:a < 10):0 < 10 - (a:Int):=Int.sub_pos_of_lt (Int.ofNat_lt.mpr h0)
theorem qp:9 - (Nat.cast (a+1):Int)=9 - (a:Int)+-1:=by simp +arith
theorem qo:10 - (Nat.cast (a+1):Int)=10 - (a:Int) - 1:=by simp +arith
theorem qn (_:a < 10):0≤9 - (a:Int):=by lia
theorem qm (_:b=10):9 - (a:Int) < (b:Int):=by simp +arith [*]
theorem ql (h0:c < 10) (h1:(a:Int) < (b:Int)∨(a:Int)=(b:Int)∧d < c):a < b∨a=b∧9 - c < 9 - d:=h1.elim (fun e=>.inl (Int.ofNat_lt.mp e)) fun e=>.inr ⟨Int.ofNat_inj.mp e.1,Nat.sub_lt_sub_left (Nat.lt_of_lt_of_le e.2 (Nat.le_of_lt_succ h0)) e.2⟩
theorem qj (h0:a < 10):9 - (a:Int)=(Nat.cast (9 - a):Int):=(Int.ofNat_sub (n:=9) (m:=a) (Nat.le_of_lt_succ h0)).symm
theorem qi (h0:a=10) (h1:b=10):a=b:=Eq.trans h0 (id (Eq.symm h1))
theorem qh (_:a=10):2≤a:=by simp +arith [*]
theorem qg (_:a=10):a < 64:=by simp +arith [*]
theorem qf (h0:a < 10):0≤(a:Int)∧(a:Int) < 1000:=⟨Int.natCast_nonneg a,Int.lt_trans (Int.ofNat_lt.mpr h0) (by decide)⟩
theorem qc (h0:a=24):min a b≤100000:=Nat.le_trans (Nat.min_le_left a b) (h0▸by decide)
theorem qb (h0:b=10) (h1:a≤b):a≤16777216:=Nat.le_trans h1 (h0▸by decide)
theorem pZ (h0:a < b) (h1:b < a):a=b:=False.elim (Nat.not_lt_of_le h0 (Nat.le_of_lt (Nat.lt_succ_of_le h1)))
theorem pY:a+b=b+a:=by grind
theorem pX (_:b < a):a+b < a*2:=by lia
theorem pW (h0:a < b) (h1:b < a):False:=Nat.not_lt_of_le h0 (Nat.le_of_lt (Nat.lt_succ_of_le h1))
theorem pV (_:b≤15) (_:a=b):a < 24:=by grind
theorem pU (h0:(b:Int)=(a:Int)):a=b:=Iff.mp Int.natCast_inj (id (Eq.symm h0))
theorem pS (_:a=24):a≤1000:=by simp +arith [*]
theorem pR (h0:a < 3*b - 2) (h1:1≤b∧b≤10):a < 32:=Nat.lt_of_lt_of_le h0 (Nat.le_trans (Nat.sub_le_sub_right (Nat.mul_le_mul_left 3 h1.2) 2) (by decide))
theorem pQ:(a:Int)≤(b:Int)∧(b:Int) < (c:Int)↔a≤b∧b < c:=by simp
theorem pP (_:a=0) (_:1≤a∧a≤10):False:=by subst_vars;omega
theorem pO (_:a≤10):a < 64:=by exact Nat.lt_of_le_of_lt (by assumption) (by decide)
theorem pN (_:(a:Int)≤(b:Int)∧(a:Int)≠(b:Int)):a < b:=by lia
theorem pM (_:b≤10) (_:a=b):a≤10:=by subst_vars;assumption
theorem pL (_:a < 32):(a:Int)≤1000000:=by lia
theorem pK (_:a < 32):a < 32:=by omega
theorem pJ (_:a≤10):a≤1000:=by exact Nat.le_trans (by assumption) (by decide)
theorem pH (_:a < b∧a≤15∧b≤23):a < b:=by simp +arith [*]
theorem pG (_:¬63 < (a:Int)):a≤63:=by lia
theorem pF (_:b < a):0 < (a:Int) - (b:Int):=by simp +arith [*]
theorem pE:i+(Nat.cast (a+1):Int)=i+(a:Int)+1:=by simp +arith
theorem pD:(a:Int) - (Nat.cast (b+1):Int)=(a:Int) - (b:Int) - 1:=by simp +arith
theorem pC:(a:Int) - (a:Int)≤0:=by simp
theorem pB (h0:-1000000 < i∧i < 1000000):-4000000 < i+(1 - 1):=by rw [show i+(1 - 1)=i from Int.add_zero i];exact Int.lt_trans (by decide) h0.1
theorem pA (h0:-1000000 < i∧i < 1000000):i+(1 - 1) < 4000000:=by rw [show i+(1 - 1)=i from Int.add_zero i];exact Int.lt_trans h0.2 (by decide)
end
local macro_rules | `(tactic| walk_at "loc") => `(tactic| (try simp only [K0]) <;> (repeat' (first | exact bK | (refine' DI (by rfl) ?_) | (refine' I4 (by decide) ?_) | (show (_ : Option Value) = some _; assumption))))
local macro_rules | `(tactic| walk_at "sto") => `(tactic| (first | exact P0.stoL (by assumption) (by rfl) | exact P0.stoC (by assumption) (by rfl) (by rfl)))
local macro_rules | `(tactic| walk_at "hp") => `(tactic| (repeat' (first | assumption | exact s0 _ _ _ | (refine' E1 (by assumption) ?_))))
local macro_rules | `(tactic| walk_at "kl") => `(tactic| first | (with_reducible first | refine J7 ?_ | refine Y1 ?_ | refine Bz ?_ | refine Bv ?_ | refine Bb ?_ | refine Ba ?_ | refine AQ ?_ | refine AT ?_ | refine AS ?_ | refine AI ?_ | refine AZ ?_ | refine Bc (by assumption) ?_ | refine AR (by assumption) ?_ | refine AU (by assumption) ?_ | refine AV (by assumption) ?_ | refine AJ ?_ | refine EL ?_ | refine EB ?_ | refine Ex ?_ | refine BF ?_ | refine Bq ?_ | refine zu ?_ | refine zC ?_ | refine zw ?_ | refine zy ?_ | refine zD ?_ | refine zr ?_ | refine AF ?_ | refine AC ?_ | refine AH ?_ | refine AX ?_ | refine lT ⟨_, rfl, ?_⟩ | refine lU ⟨_, rfl, ?_⟩ | refine lV ⟨_, rfl, ?_⟩ | refine lY ⟨_, rfl, ?_⟩ | refine lS ⟨_, rfl, ?_⟩ | refine lT ?_ | refine lU ?_ | refine lV ?_ | refine lY ?_ | refine lS ?_ | refine Bp ?_ | refine Bg ?_ | refine Bh ?_ | refine By ?_ | refine AG ?_ | refine AP ?_ | refine AN ?_ | refine AB ?_ | refine oE ?_ | refine Fk ?_ | refine AM ?_ | refine AL ?_ | refine zt ?_ | refine Dz ⟨_, rfl, ?_⟩ | refine Bt ?_ | refine AY ?_ | refine AE ?_ | refine AD ?_ | refine DY ?_ | refine DW ?_ | refine DX (by assumption) ?_ | refine Bn ?_ | refine Bo ?_ | refine Bj ?_ | refine Bi ?_ | refine Bs ?_ | refine Bf ?_ | refine Be ?_ | refine Bk ?_ | refine BQ ?_ | refine BP ?_ | refine BR ?_ | refine BO ?_) | dsimp only)
section
noncomputable def nm:Value→Value
 | .int i _=>.int i 0
 | .str s _=>.str s 0
 | .float b _=>.float b 0
 | .bytes b _=>.bytes b 0
 | v=>v
theorem S0 {v:Value} {i:Int} (h:nm v=.int i 0):∃ t,v=.int i t:=by
 cases v <;> simp [nm] at h
 exact ⟨_,by rw [h]⟩
theorem w4 {v:Value} {x:Str} (h:nm v=.str x 0):∃ t,v=.str x t:=by
 cases v <;> simp [nm] at h
 exact ⟨_,by rw [h]⟩
theorem Q0 {v:Value} {a:Addr} (h:nm v=.ref a):v=.ref a:=by
 cases v <;> simp [nm] at h
 rw [h]
theorem zN {v:Value} (h:nm v=.none):v=.none:=by
 cases v <;> simp [nm] at h
 rfl
theorem bE {v:Value} {b:Bool} (h:nm v=.bool b):v=.bool b:=by
 cases v <;> simp [nm] at h
 rw [h]
theorem jK {v:Value} {b:String} (h:nm v=.builtin b):v=.builtin b:=by
 cases v <;> simp [nm] at h
 rw [h]
theorem zM {v:Value} {b:String} (h:nm v=.type b):v=.type b:=by
 cases v <;> simp [nm] at h
 rw [h]
inductive AO where
 | list (xs:List Value)
 | tuple (xs:List Value)
 | acc (C:Addr) (d:Addr) (xs:List Value)
 | obj (o:Obj)
 | sat (P:Obj→Prop)
noncomputable def AO.is:AO→Obj→Prop
 | .list xs,o=>∃ (vs:Array Value) (n:Nat),o={cls:=.type "list",data:=.seq vs n}∧vs.toList.map nm=xs
 | .tuple xs,o=>∃ (vs:Array Value) (n:Nat),o={cls:=.type "tuple",data:=.seq vs n}∧vs.toList.map nm=xs
 | .acc C d xs,o=>∃ (vs:Array Value) (n:Nat),o={cls:=.ref C,dict:=some d,data:=.seq vs n}∧vs.toList.map nm=xs
 | .obj o',o=>o=o'
 | .sat P,o=>P o
noncomputable abbrev HP:=Addr→Option AO
noncomputable abbrev j0:=Str→Option Value
noncomputable def k0 (hp:HP) (a:Addr) (o:AO):HP:=fun b=>if b=a then some o else hp b
noncomputable def N0 (l:j0) (x:Str) (v:Value):j0:=fun y=>if y=x then some v else l y
theorem s0 (hp:HP) (a:Addr) (o:AO):k0 hp a o a=some o:=if_pos rfl
theorem H0 (hp:HP) {a b:Addr} (o:AO) (h:b≠a):k0 hp a o b=hp b:=if_neg h
theorem E1 {hp:HP} {a b:Addr} {o:AO} {o':AO} (hn:hp a=none) (h:hp b=some o'):k0 hp a o b=some o':=by
 unfold k0
 rw [if_neg (by rintro rfl;rw [hn] at h;cases h)]
 exact h
structure Fm where
 env:Env
 own:Str→Bool
noncomputable def V8 (h:Heap) (env:Env) (x:Str) (v:Value):Prop:=
 (env.kindOf x=some .local∧∃ m v',h.Ns env.locals m∧m x=some v'∧nm v'=v)∨
 ((env.kindOf x=some .cell∨env.kindOf x=some .free)∧∃ c v',env.cells.lookup x=some c∧h.IsCell c (some v')∧nm v'=v)
structure F0 (H₀ g:Heap) (fr:Fm) (loc:j0) (hp:HP) (h:Heap):Prop where
 keep:∀ b o,g.get? b=some o→h.get? b=some o
 base:∀ b o,H₀.get? b=some o→g.get? b=some o
 loc:∀ x v,loc x=some v→V8 h fr.env x v
 ns:∃ m,h.Ns fr.env.locals m
 nsn:g.get? fr.env.locals=none
 cell:∀ x c,fr.own x=true→fr.env.cells.lookup x=some c→g.get? c=none
 cne:∀ x c,fr.env.cells.lookup x=some c→c≠fr.env.locals∧∃ v,h.IsCell c v
 apart:∀ x y c,fr.env.cells.lookup x=some c→fr.env.cells.lookup y=some c→x=y
 at_:∀ b ao,hp b=some ao→g.get? b=none∧b≠fr.env.locals∧(∀ x c,fr.env.cells.lookup x=some c→b≠c)∧∃ o,h.get? b=some o∧ao.is o
theorem V8.keeps {h h':Heap} {env:Env} {x:Str} {v:Value} (B:V8 h env x v) (hk:∀ b o,h.get? b=some o→h'.get? b=some o):V8 h' env x v:=by
 rcases B with ⟨k,m,v',n,e,q⟩ | ⟨k,c,v',l,n,q⟩
 ·exact .inl ⟨k,m,v',n.keeps hk,e,q⟩
 ·exact .inr ⟨k,c,v',l,n.keeps hk,q⟩
theorem kJ {h h':Heap} {a c:Addr} {v:Option Value} (x:h.IsCell c v) (hs:Heap.ExtBut a h h') (hca:c≠a):h'.IsCell c v:=
 let ⟨o,ho,hd⟩:=x;⟨o,hs c o hca ho,hd⟩
theorem V8.extBut {h h':Heap} {env:Env} {x:Str} {v:Value} {a:Addr} (B:V8 h env x v) (hs:Heap.ExtBut a h h') (hL:env.locals≠a) (hC:∀ y c,env.cells.lookup y=some c→c≠a):V8 h' env x v:=by
 rcases B with ⟨k,m,v',n,e,q⟩ | ⟨k,c,v',l,n,q⟩
 ·exact .inl ⟨k,m,v',n.extBut hs hL,e,q⟩
 ·exact .inr ⟨k,c,v',l,kJ n hs (hC _ _ l),q⟩
namespace F0
variable {H₀ g h h':Heap} {fr:Fm} {loc:j0} {hp:HP}
theorem keeps (R:F0 H₀ g fr loc hp h) (hk:∀ b o,h.get? b=some o→h'.get? b=some o):F0 H₀ g fr loc hp h' where
 keep b o e:=hk b o (R.keep b o e)
 base:=R.base
 loc x v e:=(R.loc x v e).keeps hk
 ns:=let ⟨m,n⟩:=R.ns;⟨m,n.keeps hk⟩
 nsn:=R.nsn
 cell:=R.cell
 cne x c e:=let ⟨a,v,b⟩:=R.cne x c e;⟨a,v,b.keeps hk⟩
 apart:=R.apart
 at_ b ao e:=let ⟨a,b',c,o,ho,i⟩:=R.at_ b ao e;⟨a,b',c,o,hk _ _ ho,i⟩
theorem forget {loc':j0} {hp':HP} (R:F0 H₀ g fr loc hp h) (hl:∀ x v,loc' x=some v→loc x=some v) (hh:∀ b o,hp' b=some o→hp b=some o):F0 H₀ g fr loc' hp' h where
 keep:=R.keep
 base:=R.base
 loc x v e:=R.loc x v (hl x v e)
 ns:=R.ns
 nsn:=R.nsn
 cell:=R.cell
 cne:=R.cne
 apart:=R.apart
 at_ b ao e:=R.at_ b ao (hh b ao e)
theorem chg {a:Addr} {ao ao':AO} {o':Obj} (R:F0 H₀ g fr loc hp h) (ha:hp a=some ao) (hs:Heap.ExtBut a h h') (ho:h'.get? a=some o') (hi:ao'.is o'):F0 H₀ g fr loc (k0 hp a ao') h':=by
 refine P1 (R.at_ a ao ha) fun a1 a2 a3 Z=>?_
 refine ⟨fun b o e=>hs b o (by rintro rfl;rw [a1] at e;cases e) (R.keep b o e),R.base,fun x v e=>(R.loc x v e).extBut hs a2.symm fun y c l=>(a3 y c l).symm,?_,R.nsn,R.cell,fun x c l=>?_,R.apart,fun b x e=>?_⟩
 ·refine o0 (R.ns) fun m n=>?_;exact ⟨m,n.extBut hs a2.symm⟩
 ·refine P5 (R.cne x c l) fun q v z=>?_;exact ⟨q,v,kJ z hs (a3 x c l).symm⟩
 ·unfold k0 at e
  by_cases hb:b=a
  ·subst hb
   rw [if_pos rfl] at e
   cases e
   exact ⟨a1,a2,a3,o',ho,hi⟩
  ·rw [if_neg hb] at e
   refine Q2 (R.at_ b x e) fun b1 b2 b3 o h1 h2=>?_
   exact ⟨b1,b2,b3,o,hs b o hb h1,h2⟩
theorem step {hp':HP} (R:F0 H₀ g fr loc hp h) (W:Addr→Prop) (hW:∀ b,W b→∃ ao,hp b=some ao) (hk:∀ b o,¬W b→h.get? b=some o→h'.get? b=some o)
  (hn:∀ b ao,hp' b=some ao→((∃ ao₀,hp b=some ao₀)∨h.objs.size≤b)∧∃ o,h'.get? b=some o∧ao.is o):F0 H₀ g fr loc hp' h':=by
 have gW:∀ b o,g.get? b=some o→¬W b:=fun b o e w=>by
  refine o0 (hW b w) fun ao q=>?_
  rw [(R.at_ b ao q).1] at e;cases e
 have lW:¬W fr.env.locals:=fun w=>by
  refine o0 (hW _ w) fun ao q=>?_
  exact (R.at_ _ ao q).2.1 rfl
 have cW:∀ x c,fr.env.cells.lookup x=some c→¬W c:=fun x c l w=>by
  refine o0 (hW _ w) fun ao q=>?_
  exact (R.at_ _ ao q).2.2.1 x c l rfl
 have nsK:∀ m,h.Ns fr.env.locals m→h'.Ns fr.env.locals m:=fun m hZ0=>cf hZ0 fun o es ep e r=>⟨o,es,ep,hk _ _ lW e,r⟩
 have cK:∀ x c v,fr.env.cells.lookup x=some c→h.IsCell c v→h'.IsCell c v:=fun x c v l hZ0=>z0 hZ0 fun o e r=>⟨o,hk _ _ (cW x c l) e,r⟩
 refine ⟨fun b o e=>hk b o (gW b o e) (R.keep b o e),R.base,fun x v e=>?_,?_,R.nsn,R.cell,fun x c l=>?_,R.apart,fun b ao e=>?_⟩
 ·rcases R.loc x v e with ⟨k,m,v',n,q⟩ | ⟨k,c,v',l,n,q⟩
  ·exact .inl ⟨k,m,v',nsK m n,q⟩
  ·exact .inr ⟨k,c,v',l,cK x c _ l n,q⟩
 ·refine o0 (R.ns) fun m n=>?_;exact ⟨m,nsK m n⟩
 ·refine P5 (R.cne x c l) fun a v n=>?_;exact ⟨a,v,cK x c v l n⟩
 ·obtain ⟨q | q,o,ho,hi⟩:=hn b ao e
  ·refine o0 q fun ao₀ q=>?_
   refine P1 (R.at_ b ao₀ q) fun a1 a2 a3 Z=>?_
   exact ⟨a1,a2,a3,o,ho,hi⟩
  ·refine ⟨?_,?_,fun x c l=>?_,o,ho,hi⟩
   ·cases z:g.get? b with
    | none=>rfl
    | some o'=>exact absurd (Heap.lt_size (R.keep _ _ z)) (Nat.not_lt.mpr q)
   ·refine o0 (R.ns) fun m n=>?_
    exact Nat.ne_of_gt (Nat.lt_of_lt_of_le n.lt q)
   ·refine P5 (R.cne x c l) fun Z v z=>?_
    exact Nat.ne_of_gt (Nat.lt_of_lt_of_le z.lt q)
theorem lt_of_hp {a:Addr} {ao:AO} (R:F0 H₀ g fr loc hp h) (ha:hp a=some ao):a < h.objs.size:=by
 refine Q2 (R.at_ a ao ha) fun Z Z Z o ho Z=>?_
 exact Heap.lt_size ho
theorem cell_lt (R:F0 H₀ g fr loc hp h) {x:Str} {c:Addr} (hc:fr.env.cells.lookup x=some c):c < h.objs.size:=by
 refine P5 (R.cne x c hc) fun Z v z=>?_;exact z.lt
theorem none_at (R:F0 H₀ g fr loc hp h):hp h.objs.size=none:=by
 cases e:hp h.objs.size with
 | none=>rfl
 | some x=>exact absurd (R.lt_of_hp e) (Nat.lt_irrefl _)
end F0
structure Cx where
 prog:Program
 w:World
 H₀:Heap
 os:OsState
noncomputable def H2 (C:Cx) (s:Shared):Prop:=s.os=C.os∧AllBare s.gens
noncomputable def aw {α:Type} (C:Cx) (A:Around) (g:Heap) (fr:Fm) (E:Value→Shared→Prop) (t:Sem α) (loc:j0) (hp:HP) (Q:α→j0→HP→Prop):Prop:=
 ∀ s,F0 C.H₀ g fr loc hp s.heap→H2 C s→wpAny (model C.prog C.w) A t (fun a s'=>H2 C s'∧∃ loc' hp',F0 C.H₀ g fr loc' hp' s'.heap∧Q a loc' hp') E s
section
variable {α β:Type} {C:Cx} {A:Around} {g:Heap} {fr:Fm} {E:Value→Shared→Prop} {loc:j0} {hp:HP}
theorem N1 {a:α} {Q:α→j0→HP→Prop} (h:Q a loc hp):aw C A g fr E (pure a) loc hp Q:=
 fun Z R S=>wpAny_pure ⟨S,loc,hp,R,h⟩
theorem E0 {m:Sem α} {f:α→Sem β} {Q:β→j0→HP→Prop} (h:aw C A g fr E m loc hp fun a l p=>aw C A g fr E (f a) l p Q):aw C A g fr E (m >>= f) loc hp Q:=
 fun s R S=>wpAny_bind (wpAny_mono (h s R S) (fun Z s' hZ0=>Q3 hZ0 fun S' Z Z R' q=>q s' R' S') fun Z Z e=>e)
theorem Z0 {t:Sem α} {Q Q':α→j0→HP→Prop} (h:aw C A g fr E t loc hp Q) (hq:∀ a l p,Q a l p→Q' a l p):aw C A g fr E t loc hp Q':=
 fun s R S=>wpAny_mono (h s R S) (fun Z Z hZ0=>Q3 hZ0 fun S' l p R' q=>⟨S',l,p,R',hq _ _ _ q⟩) fun Z Z e=>e
theorem EM {t:Sem α} {loc₁:j0} {hp₁:HP} {Q:α→j0→HP→Prop} (hl:∀ x v,loc₁ x=some v→loc x=some v) (hh:∀ b o,hp₁ b=some o→hp b=some o) (h:aw C A g fr E t loc₁ hp₁ Q):aw C A g fr E t loc hp Q:=
 fun s R S=>h s (R.forget hl hh) S
theorem EO {t:Sem α} {hp₁:HP} {Q:α→j0→HP→Prop} (hh:∀ b o,hp₁ b=some o→hp b=some o) (h:aw C A g fr E t loc hp₁ Q):aw C A g fr E t loc hp Q:=
 EM (fun Z Z e=>e) hh h
theorem U2 {pos:Pos} {Q:Unit→j0→HP→Prop} (h:Q () loc hp):aw C A g fr E (standAt pos) loc hp Q:=fun Z R S=>wpAny_standAt ⟨S,loc,hp,R,h⟩
theorem EA {t:String} {Q:Unit→j0→HP→Prop} (h:Q () loc hp):aw C A g fr E (rule t) loc hp Q:=fun Z R S=>wpAny_rule ⟨S,loc,hp,R,h⟩
theorem fw {Q:Unit→j0→HP→Prop} (h:Q () loc hp):aw C A g fr E point loc hp Q:=fun Z R S=>wpAny_point ⟨S,loc,hp,R,h⟩
theorem N2 {vs:List Value} {m:Sem α} {Q:α→j0→HP→Prop} (h:aw C A g fr E m loc hp Q):aw C A g fr E (holding vs m) loc hp Q:=fun s R S=>wpAny_holding (h s R S)
theorem mO {vs:List Value} {m:Sem α} {Q:α→j0→HP→Prop} (h:aw C A g fr E m loc hp Q):aw C A g fr E (m.keep vs) loc hp Q:=fun s R S=>wpAny_keep (h s R S)
theorem fx {t:Sem α} {a:α} {Q:α→j0→HP→Prop} (e:t=pure a) (h:Q a loc hp):aw C A g fr E t loc hp Q:=e▸N1 h
theorem N3 {t t':Sem α} {Q:α→j0→HP→Prop} (e:t=t') (h:aw C A g fr E t' loc hp Q):aw C A g fr E t loc hp Q:=e▸h
theorem fK {M:Model} {s:Shared} {vs:List Value} {m:Sem Value} {Q:Value→Shared→Prop} (h:wpAny M A m Q E s):wpAny M A (operate vs m) Q E s:=fun Γ p hΓ=>by
 rw [Sem.wp_operate];exact h Γ p hΓ
theorem H9 {vs:List Value} {m:Sem Value} {Q:Value→j0→HP→Prop} (h:aw C A g fr E m loc hp Q):aw C A g fr E (operate vs m) loc hp Q:=fun s R S=>fK (h s R S)
theorem nt {M:Model} {s:Shared} {vs keep:List Value} {Q:Unit→Shared→Prop} (h:Q () s):wpAny M A (release vs keep) Q E s:=fun Γ p Z=>by
 rw [Sem.wp_release];exact h
theorem mK {vs keep:List Value} {Q:Unit→j0→HP→Prop} (h:Q () loc hp):aw C A g fr E (release vs keep) loc hp Q:=fun Z R S=>nt ⟨S,loc,hp,R,h⟩
theorem F0.alloc {H₀:Heap} {h:Heap} {o:Obj} {ao:AO} (R:F0 H₀ g fr loc hp h) (hf:o.isFreed=false) (hi:ao.is o) :
  F0 H₀ g fr loc (k0 hp h.objs.size ao) (h.push o):=by
 have R':=R.keeps (h':=h.push o) fun b o' e=>Heap.get?_push_of_some _ e
 have hgn:g.get? h.objs.size=none:=by
  cases e:g.get? h.objs.size with
  | none=>rfl
  | some o'=>exact absurd (Heap.lt_size (R.keep _ _ e)) (Nat.lt_irrefl _)
 refine ⟨R'.keep,R'.base,R'.loc,R'.ns,R'.nsn,R'.cell,R'.cne,R'.apart,fun b x e=>?_⟩
 unfold k0 at e
 by_cases hb:b=h.objs.size
 ·subst hb
  rw [if_pos rfl] at e
  cases e
  refine ⟨hgn,?_,fun x c l=>Nat.ne_of_gt (R.cell_lt l),o,Heap.get?_push_size _ hf,hi⟩
  refine o0 (R.ns) fun m n=>?_
  exact Nat.ne_of_gt n.lt
 ·rw [if_neg hb] at e
  exact R'.at_ b x e
theorem mM {t:Sem Value} {ao:AO} {Q:Value→j0→HP→Prop}
  (ht:∀ s (Q':Value→Shared→Prop),(∀ o,o.isFreed=false→ao.is o→Q' (.ref s.heap.objs.size) {s with heap:=s.heap.push o})→wpAny (model C.prog C.w) A t Q' E s)
  (k:∀ a,hp a=none→Q (.ref a) loc (k0 hp a ao)):aw C A g fr E t loc hp Q:=
 fun s R S=>ht s _ fun Z hf hi=>⟨S,loc,_,R.alloc hf hi,k _ R.none_at⟩
theorem ED {vs:List Value} {Q:Value→j0→HP→Prop} (hsz:vs.length≤sizeLine) (k:∀ a,hp a=none→Q (.ref a) loc (k0 hp a (.list (vs.map nm)))):aw C A g fr E (newList vs) loc hp Q:=
 mM (ao:=.list (vs.map nm)) (fun s Q' h=>wpAny_newObj_type (h _ rfl ⟨_,_,rfl,rfl⟩) (by show vs.toArray.size≤sizeLine;rw [List.size_toArray];exact hsz)) k
theorem EC {vs:List Value} {Q:Value→j0→HP→Prop} (hsz:vs.length≤sizeLine) (k:∀ a,hp a=none→Q (.ref a) loc (k0 hp a (.tuple (vs.map nm)))):aw C A g fr E (newTuple vs) loc hp Q:=
 mM (ao:=.tuple (vs.map nm)) (fun s Q' h=>wpAny_newObj_type (h _ rfl ⟨_,_,rfl,rfl⟩) (by show vs.toArray.size≤sizeLine;rw [List.size_toArray];exact hsz)) k
end
noncomputable def H1 (h:Heap) (hp:HP):Heap:={h with objs:=h.objs.mapIdx fun i o=>if (hp i).isSome then {o with data:=.freed} else o}
theorem t4 {h:Heap} {hp:HP} {b:Addr} (e:hp b=none):(H1 h hp).get? b=h.get? b:=by
 unfold Heap.get? H1
 rw [Array.getElem?_mapIdx,e]
 cases h.objs[b]? <;> rfl
theorem P7 {h:Heap} {hp:HP} {b:Addr} {ao:AO} (e:hp b=some ao):(H1 h hp).get? b=none:=by
 unfold Heap.get? H1
 rw [Array.getElem?_mapIdx,e]
 cases h.objs[b]? <;> rfl
theorem z6 {h:Heap} {hp:HP} {b:Addr} {o:Obj} (e:(H1 h hp).get? b=some o):h.get? b=some o∧hp b=none:=by
 cases q:hp b with
 | none=>rw [t4 q] at e;exact ⟨e,rfl⟩
 | some a=>rw [P7 q] at e;cases e
theorem F0.asleep {H₀ g h h':Heap} {fr:Fm} {loc:j0} {hp:HP} (R:F0 H₀ g fr loc hp h) (hk:∀ b o,(H1 h hp).get? b=some o→h'.get? b=some o) {hp':HP}
  (hn:∀ b ao,hp' b=some ao→(H1 h hp).get? b=none∧∃ o,h'.get? b=some o∧ao.is o):F0 H₀ g fr loc hp' h':=by
 have gv:∀ b o,g.get? b=some o→(H1 h hp).get? b=some o:=fun b o e=>by
  have n:hp b=none:=by
   cases q:hp b with
   | none=>rfl
   | some a=>rw [(R.at_ b a q).1] at e;cases e
  rw [t4 n];exact R.keep b o e
 have Lv:hp fr.env.locals=none:=by
  cases q:hp fr.env.locals with
  | none=>rfl
  | some a=>exact absurd rfl (R.at_ _ a q).2.1
 have Cv:∀ x c,fr.env.cells.lookup x=some c→hp c=none:=fun x c l=>by
  cases q:hp c with
  | none=>rfl
  | some a=>exact absurd rfl ((R.at_ _ a q).2.2.1 x c l)
 have nsK:∀ m,h.Ns fr.env.locals m→h'.Ns fr.env.locals m:=fun m hZ0=>cf hZ0 fun o es ep e r=>⟨o,es,ep,hk _ _ (by rw [t4 Lv];exact e),r⟩
 have cK:∀ x c v,fr.env.cells.lookup x=some c→h.IsCell c v→h'.IsCell c v:=fun x c v l hZ0=>z0 hZ0 fun o e r=>⟨o,hk _ _ (by rw [t4 (Cv x c l)];exact e),r⟩
 refine ⟨fun b o e=>hk b o (gv b o e),R.base,fun x v e=>?_,?_,R.nsn,R.cell,fun x c l=>?_,R.apart,fun b ao e=>?_⟩
 ·rcases R.loc x v e with ⟨k,m,v',n,q⟩ | ⟨k,c,v',l,n,q⟩
  ·exact .inl ⟨k,m,v',nsK m n,q⟩
  ·exact .inr ⟨k,c,v',l,cK x c _ l n,q⟩
 ·refine o0 (R.ns) fun m n=>?_;exact ⟨m,nsK m n⟩
 ·refine P5 (R.cne x c l) fun a v n=>?_;exact ⟨a,v,cK x c v l n⟩
 ·refine Dd (hn b ao e) fun q o ho hi=>?_
  refine aq (R.ns) fun m oL es ep eL Z=>?_
  refine ⟨?_,?_,fun x c l=>?_,o,ho,hi⟩
  ·cases z:g.get? b with
   | none=>rfl
   | some o'=>rw [gv b o' z] at q;cases q
  ·rintro rfl;rw [t4 Lv,eL] at q;cases q
  ·rintro rfl
   refine Q3 (R.cne x _ l) fun Z v oc ec Z=>?_
   rw [t4 (Cv x _ l),ec] at q;cases q
end
section
noncomputable abbrev Ce (Inv:Nat→j0→HP→Prop) (i:Nat) (Q:Flow→j0→HP→Prop):Flow→j0→HP→Prop:=fun f l p=>match f with | .next | .cont=>Inv (i+1) l p | .brk=>Q .next l p | .ret v=>Q (.ret v) l p
noncomputable abbrev BS (Inv:Nat→j0→HP→Prop) (n:Nat) (Q:Flow→j0→HP→Prop):Flow→j0→HP→Prop:=fun f l p=>match f with | .next | .cont=>∃ m,m < n∧Inv m l p | .brk=>Q .next l p | .ret v=>Q (.ret v) l p
noncomputable def AO.tag:AO→Nat | .list _=>0 | .tuple _=>1 | .acc ..=>2 | .obj _=>3 | .sat _=>4
theorem R3 {a b:AO} {G:Prop} (e:some a=some b) (h:(a.tag == b.tag)=false:=by with_unfolding_all rfl):G:=by
 rw [Option.some.inj e] at h;simp at h
theorem J0 {G:Prop} {a:Type} {x:a} (e:(none:Option a)=some x):G:=nomatch e
theorem B5 {G:Prop} {a:Type} {x:a} (e:some x=none):G:=nomatch e
theorem Y5 {G:Prop} (e:false=true):G:=nomatch e
@[elab_as_elim] theorem mc {α β:Type} {f:α→β} {b:β} {bs:List β} {G:List α→Prop} (vs:List α) (h:vs.map f=b::bs) (k:∀ a as,f a=b→as.map f=bs→G (a::as)):G vs:=by
 cases vs with
 | nil=>exact nomatch h
 | cons a as=>exact k a as (List.cons.inj h).1 (List.cons.inj h).2
@[elab_as_elim] theorem mn {α β:Type} {f:α→β} {G:List α→Prop} (vs:List α) (h:vs.map f=[]) (k:G []):G vs:=by
 rw [List.map_eq_nil_iff.mp h];exact k
@[elab_as_elim] theorem ee {k:Str} {z:Value} {G:List (Str × Value)→Prop} (kw:List (Str × Value)) (h:kw.map (fun x=>(x.1,nm x.2))=[(k,z)]) (g:∀ w,nm w=z→G [(k,w)]):G kw:=by
 refine mc kw h fun a as e h'=>?_
 rw [List.map_eq_nil_iff.mp h']
 obtain ⟨k',w⟩:=a
 injection e with e1 e2
 subst e1
 exact g w e2
theorem T6 {α:Type} {l:List α} (h:l.length=2):∃ a b,l=[a,b]:=by
 cases l with
 | nil=>exact nomatch h
 | cons a l=>exact ⟨a,by
  cases l with
  | nil=>exact nomatch h
  | cons b l=>exact ⟨b,by rw [List.eq_nil_of_length_eq_zero (Nat.succ.inj (Nat.succ.inj h))]⟩⟩
theorem Ab {α:Type} {l:List α} (h:l.length=4):∃ a b c d,l=[a,b,c,d]:=by
 cases l with
 | nil=>exact nomatch h
 | cons a l=>cases l with
  | nil=>exact nomatch h
  | cons b l=>
   obtain ⟨c,d,e⟩:=T6 (Nat.succ.inj (Nat.succ.inj h))
   exact ⟨a,b,c,d,by rw [e]⟩
end
section
noncomputable def jL:Flow→Flow
 | .ret v=>.ret (nm v)
 | f=>f
section
variable (C:Cx) (A:Around) (g:Heap) (fr:Fm) (E:Value→Shared→Prop)
noncomputable def w0 (t:Sem Value) (loc:j0) (hp:HP) (Q:Value→j0→HP→Prop):Prop:=aw C A g fr E t loc hp fun v l p=>Q (nm v) l p
noncomputable def I0 (t:Sem Flow) (loc:j0) (hp:HP) (Q:Flow→j0→HP→Prop):Prop:=aw C A g fr E t loc hp fun v l p=>Q (jL v) l p
noncomputable def o9 {α:Type} (f:Value→Sem α) (x:Value) (loc:j0) (hp:HP) (Q:α→j0→HP→Prop):Prop:=∀ a,nm a=x→aw C A g fr E (f a) loc hp Q
noncomputable def dX (f:Value→Sem Value) (x:Value) (loc:j0) (hp:HP) (Q:Value→j0→HP→Prop):Prop:=∀ a,nm a=x→w0 C A g fr E (f a) loc hp Q
noncomputable def I1 (f:Value→Value→Sem Value) (x y:Value) (loc:j0) (hp:HP) (Q:Value→j0→HP→Prop):Prop:=∀ a b,nm a=x→nm b=y→w0 C A g fr E (f a b) loc hp Q
end
structure Q1 (C:Cx) (x:Str) (v:Value):Prop where
 is:(∃ mg,C.H₀.Ns mainGlobals mg∧mg x=some v)∨∃ mg mb,C.H₀.Ns mainGlobals mg∧mg x=none∧C.H₀.Ns builtinsNs mb∧mb x=some v
section
variable {C:Cx} {A:Around} {g:Heap} {fr:Fm} {E:Value→Shared→Prop} {loc:j0} {hp:HP}
theorem k7 {t:Sem Value} {Q Q':Value→j0→HP→Prop} (h:w0 C A g fr E t loc hp Q) (hq:∀ a l p,Q a l p→Q' a l p):w0 C A g fr E t loc hp Q':=Z0 h fun Z Z Z=>hq _ _ _
theorem mN {x:Str} {v:Value} {Q:Value→j0→HP→Prop} (hk:fr.env.scope.kind=.function) (hl:loc x=some v) (hc:(x == ("__classdict__":Str))=false) (h:Q v loc hp) :
  w0 C A g fr E (loadName fr.env x) loc hp Q:=fun s R S=>by
 rcases R.loc x v hl with ⟨k,m,v',n,e,q⟩ | ⟨k | k,c,v',l,n,q⟩
 ·subst q;exact wpAny_loadName_local hk k n e ⟨S,loc,hp,R,h⟩
 ·subst q;exact wpAny_loadName_cell hk k l n ⟨S,loc,hp,R,h⟩
 ·subst q;exact wpAny_loadName_free hk k l n ⟨S,loc,hp,R,h⟩ hc
theorem mS {x:Str} {pos:Pos} {v:Value} {Q:Value→j0→HP→Prop} (hk:fr.env.scope.kind=.function) (hl:loc x=some v) (h:Q v loc hp)
  (hd:(x == ("__debug__":Str))=false:=by with_unfolding_all decide) (hc:(x == ("__classdict__":Str))=false:=by with_unfolding_all decide) :
  w0 C A g fr E (eval (.Name x pos) fr.env) loc hp Q:=fun s R S=>wpAny_Name (mN hk hl hc h s R S) hd
theorem mV {x:Str} {pos:Pos} {v:Value} {Q:Value→j0→HP→Prop} (hk:fr.env.scope.kind=.function) (hg:fr.env.globals=mainGlobals) (hb:fr.env.builtins=builtinsNs) (hx:fr.env.kindOf x=some .globalImplicit)
  (hG:Q1 C x v) (h:Q v loc hp) (hd:(x == ("__debug__":Str))=false:=by with_unfolding_all decide) (hv:nm v=v:=by with_unfolding_all rfl):w0 C A g fr E (eval (.Name x pos) fr.env) loc hp Q:=fun s R S=>by
 have hk':∀ b o,C.H₀.get? b=some o→s.heap.get? b=some o:=fun b o e=>R.keep b o (R.base b o e)
 rw [←hv] at h
 rcases hG.is with ⟨mg,n,e⟩ | ⟨mg,mb,n,e,n',e'⟩
 ·exact Name_function_global hk hx (loadGlobal_global (hg▸n.keeps hk') e ⟨S,loc,hp,R,h⟩) hd
 ·exact Name_function_global hk hx (loadGlobal_builtin (hg▸n.keeps hk') e (hb▸n'.keeps hk') e' ⟨S,loc,hp,R,h⟩) hd
theorem F0.storeL {H₀ h h':Heap} {x:Str} {v:Value} (R:F0 H₀ g fr loc hp h) (hx:fr.env.kindOf x=some .local) {m:Str→Option Value} (n:h.Ns fr.env.locals m)
  (n':h'.Ns fr.env.locals (fun y=>if y=x then some v else m y)) (hs:Heap.SameBut fr.env.locals h h'):F0 H₀ g fr (N0 loc x (nm v)) hp h':=by
 refine ⟨fun b o e=>hs.extBut b o (by rintro rfl;rw [R.nsn] at e;exact J0 e) (R.keep b o e),R.base,fun y u e=>?_,⟨_,n'⟩,R.nsn,R.cell,fun y c l=>?_,R.apart,fun b ao e=>?_⟩
 ·unfold N0 at e
  by_cases hy:y=x
  ·subst hy
   rw [if_pos rfl] at e;cases e
   exact .inl ⟨hx,_,v,n',if_pos rfl,rfl⟩
  ·rw [if_neg hy] at e
   rcases R.loc y u e with ⟨k,m₁,v',n₁,e₁,q⟩ | ⟨k,c,v',l,z,q⟩
   ·refine .inl ⟨k,_,v',n',?_,q⟩
    refine eY n fun o1 es1 ep1 a1 b1 c1 d1=>?_;try clear n
    refine eY n₁ fun o2 es2 ep2 a2 b2 c2 d2=>?_;try clear n₁
    rw [a1] at a2;cases a2
    rw [b1] at b2;cases b2
    rw [if_neg hy]
    rw [←d1,d2];exact e₁
   ·exact .inr ⟨k,c,v',l,z.sameBut hs (R.cne y c l).1,q⟩
 ·refine P5 (R.cne y c l) fun a u z=>?_
  exact ⟨a,u,z.sameBut hs a⟩
 ·refine Q2 (R.at_ b ao e) fun a b' c o ho i=>?_
  exact ⟨a,b',c,o,hs.extBut b o b' ho,i⟩
theorem F0.storeC {H₀ h h':Heap} {x:Str} {v:Value} {c:Addr} (R:F0 H₀ g fr loc hp h) (hx:fr.env.kindOf x=some .cell) (ho:fr.own x=true) (hc:fr.env.cells.lookup x=some c)
  (n':h'.IsCell c (some v)) (hs:Heap.SameBut c h h'):F0 H₀ g fr (N0 loc x (nm v)) hp h':=by
 have hcn:=R.cell x c ho hc
 have hcl:=(R.cne x c hc).1
 refine ⟨fun b o e=>hs.extBut b o (by rintro rfl;rw [hcn] at e;exact J0 e) (R.keep b o e),R.base,fun y u e=>?_,?_,R.nsn,R.cell,fun y d l=>?_,R.apart,fun b ao e=>?_⟩
 ·unfold N0 at e
  by_cases hy:y=x
  ·subst hy
   rw [if_pos rfl] at e;cases e
   exact .inr ⟨.inl hx,c,v,hc,n',rfl⟩
  ·rw [if_neg hy] at e
   rcases R.loc y u e with ⟨k,m₁,v',n₁,e₁,q⟩ | ⟨k,d,v',l,z,q⟩
   ·exact .inl ⟨k,m₁,v',n₁.sameBut hs hcl.symm,e₁,q⟩
   ·exact .inr ⟨k,d,v',l,z.sameBut hs (fun e2=>hy (R.apart y x d l (e2▸hc))),q⟩
 ·refine o0 (R.ns) fun m n=>?_;exact ⟨m,n.sameBut hs hcl.symm⟩
 ·refine P5 (R.cne y d l) fun a u z=>?_
  by_cases hd:d=c
  ·subst hd;exact ⟨a,_,n'⟩
  ·exact ⟨a,u,z.sameBut hs hd⟩
 ·refine Q2 (R.at_ b ao e) fun a b' c' o ho' i=>?_
  exact ⟨a,b',c',o,hs.extBut b o (c' x c hc) ho',i⟩
noncomputable def M1 (fr:Fm) (x:Str):Prop:=fr.env.scope.kind=.function∧(fr.env.kindOf x=some .local∨fr.env.kindOf x=some .cell∧fr.own x=true∧(fr.env.cells.lookup x).isSome=true)
theorem Ey {x:Str} {v:Value} {Q:Unit→j0→HP→Prop} (hx:M1 fr x) (h:Q () (N0 loc x (nm v)) hp):aw C A g fr E (storeName fr.env x v) loc hp Q:=fun s R S=>by
 obtain ⟨hk,hx | ⟨hx,ho,hc⟩⟩:=hx
 ·refine o0 (R.ns) fun m n=>?_
  exact wpAny_storeName_local hx n (fun h' n' hs=>⟨S,_,hp,R.storeL hx n n' hs,h⟩) (by rw [hk];rfl)
 ·refine o0 (Option.isSome_iff_exists.mp hc) fun c hc=>?_
  refine P5 (R.cne x c hc) fun Z v₀ z=>?_
  exact wpAny_storeName_cell hk hx hc z fun h' n' hs=>⟨S,_,hp,R.storeC hx ho hc n' hs,h⟩
theorem aF {x:Str} {v:Value} {Q:Unit→j0→HP→Prop} (hx:M1 fr x) (h:Q () (N0 loc x (nm v)) hp):aw C A g fr E (bindName fr.env x v) loc hp Q:=
 E0 (N2 (fw (E0 (Ey hx (fw h)))))
theorem F6 {x:Str} {pos:Pos} {v:Value} {Q:Unit→j0→HP→Prop} (hx:M1 fr x) (h:Q () (N0 loc x (nm v)) hp):aw C A g fr E (assign (.Name x pos) fr.env v) loc hp Q:=
 E0 (U2 (aF hx h))
theorem EL {i:Int} {k pos} {Q:Value→j0→HP→Prop} (h:Q (.int i 0) loc hp):w0 C A g fr E (eval (.Constant (.int i) k pos) fr.env) loc hp Q:=fun Z R S=>wpAny_Constant_int ⟨S,loc,hp,R,h⟩
theorem Ex {x:Str} {k pos} {Q:Value→j0→HP→Prop} (h:Q (.str x 0) loc hp):w0 C A g fr E (eval (.Constant (.str x) k pos) fr.env) loc hp Q:=fun Z R S=>Constant_str ⟨S,loc,hp,R,h⟩
theorem EB {k pos} {Q:Value→j0→HP→Prop} (h:Q .none loc hp):w0 C A g fr E (eval (.Constant .none k pos) fr.env) loc hp Q:=N1 (a:=Value.none) h
theorem Fl {l op r pos} {Q:Value→j0→HP→Prop} (h:w0 C A g fr E (eval l fr.env) loc hp fun x l₁ p₁=>w0 C A g fr E (eval r fr.env) l₁ p₁ fun y l₂ p₂=>I1 C A g fr E (binaryOp op) x y l₂ p₂ Q) :
  w0 C A g fr E (eval (.BinOp l op r pos) fr.env) loc hp Q:=by
 refine N3 (eval_BinOp ..) (E0 (Z0 h fun a l₁ p₁ h₁=>E0 (N2 (Z0 h₁ fun b l₂ p₂ h₂=>?_))))
 exact E0 (U2 (H9 (h₂ a b rfl rfl)))
theorem ES {op x pos} {Q:Value→j0→HP→Prop} (h:w0 C A g fr E (eval x fr.env) loc hp fun x l₁ p₁=>dX C A g fr E (unaryOp op) x l₁ p₁ Q) :
  w0 C A g fr E (eval (.UnaryOp op x pos) fr.env) loc hp Q:=by
 have e:eval (.UnaryOp op x pos) fr.env=(do let v ←eval x fr.env;standAt pos;holding [v] (unaryOp op v)):=rfl
 exact N3 e (E0 (Z0 h fun a l₁ p₁ h₁=>E0 (U2 (N2 (h₁ a rfl)))))
theorem Fc {test body orelse pos} {Q:Value→j0→HP→Prop} (h:aw C A g fr E (isTrue test fr.env (eval test fr.env)) loc hp fun b l p=>if b then w0 C A g fr E (eval body fr.env) l p Q else w0 C A g fr E (eval orelse fr.env) l p Q) :
  w0 C A g fr E (eval (.IfExp test body orelse pos) fr.env) loc hp Q:=by
 have e:eval (.IfExp test body orelse pos) fr.env=(do if ←isTrue test fr.env (eval test fr.env) then eval body fr.env else eval orelse fr.env):=rfl
 refine N3 e (E0 (Z0 h fun b l p h₁=>?_))
 cases b
 ·exact h₁
 ·exact h₁
theorem EJ {l op r pos whole} {Q:Bool→j0→HP→Prop} (hm:behindInMarks op r=false)
  (h:w0 C A g fr E (eval l fr.env) loc hp fun x l₁ p₁=>w0 C A g fr E (eval r fr.env) l₁ p₁ fun y l₂ p₂=>I1 C A g fr E (compareOp op) x y l₂ p₂ fun v l p=>∃ b,v=.bool b∧Q b l p) :
  aw C A g fr E (isTrue (.Compare l [op] [r] pos) fr.env whole) loc hp Q:=by
 refine N3 (isTrue_Compare1 ..) (E0 (Z0 h fun a l₁ p₁ h₁=>E0 (N2 ?_)))
 simp only [markedBehindIn_of_false hm]
 refine Z0 h₁ fun b l₂ p₂ h₂=>E0 (U2 (E0 (H9 (Z0 (h₂ a b rfl rfl) fun c l₃ p₃ h₃=>N2 ?_))))
 refine z0 h₃ fun b e q=>?_;try clear h₃
 rw [bE e]
 exact fun Z R S=>wpAny_truthy_bool ⟨S,_,_,R,q⟩
theorem Fh {l op r pos} {Q:Value→j0→HP→Prop} (hm:behindInMarks op r=false)
  (h:w0 C A g fr E (eval l fr.env) loc hp fun x l₁ p₁=>w0 C A g fr E (eval r fr.env) l₁ p₁ fun y l₂ p₂=>I1 C A g fr E (compareOp op) x y l₂ p₂ Q) :
  w0 C A g fr E (eval (.Compare l [op] [r] pos) fr.env) loc hp Q:=by
 refine N3 (eval_Compare1 ..) (E0 (Z0 h fun a l₁ p₁ h₁=>E0 (N2 ?_)))
 simp only [markedBehindIn_of_false hm]
 exact Z0 h₁ fun b l₂ p₂ h₂=>E0 (U2 (H9 (h₂ a b rfl rfl)))
theorem EI {l op op' r r' pos whole} {Q:Bool→j0→HP→Prop} (hm:behindInMarks op r=false) (hm':behindInMarks op' r'=false)
  (h:w0 C A g fr E (eval l fr.env) loc hp fun x l₁ p₁=>w0 C A g fr E (eval r fr.env) l₁ p₁ fun y l₂ p₂=>I1 C A g fr E (compareOp op) x y l₂ p₂ fun v l₃ p₃=>∃ b,v=.bool b∧
   (if b then w0 C A g fr E (eval r' fr.env) l₃ p₃ fun z l₄ p₄=>I1 C A g fr E (compareOp op') y z l₄ p₄ fun v l p=>∃ b,v=.bool b∧Q b l p else Q false l₃ p₃))
  (hme:markedEach [op,op'] [r,r'] (evalEach [r,r'] fr.env)=[markedBehindIn op r (eval r fr.env),markedBehindIn op' r' (eval r' fr.env)]:=by with_unfolding_all rfl) :
  aw C A g fr E (isTrue (.Compare l [op,op'] [r,r'] pos) fr.env whole) loc hp Q:=by
 have e:isTrue (.Compare l [op,op'] [r,r'] pos) fr.env whole=(do testChain pos (←eval l fr.env) [op,op'] (markedEach [op,op'] [r,r'] (evalEach [r,r'] fr.env))):=rfl
 refine N3 e (E0 (Z0 h fun a l₁ p₁ h₁=>?_))
 rw [hme,markedBehindIn_of_false hm,markedBehindIn_of_false hm']
 refine E0 (N2 (Z0 h₁ fun b l₂ p₂ h₂=>E0 (U2 (E0 (N2 (Z0 (h₂ a b rfl rfl) fun c l₃ p₃ h₃=>E0 (mK (E0 (N2 ?_)))))))))
 refine z0 h₃ fun t e q=>?_;try clear h₃
 simp only [bE e]
 refine fun s R S=>wpAny_truthy_bool ⟨S,_,_,R,?_⟩
 cases t with
 | false=>exact N1 q
 | true=>
  refine E0 (N2 (Z0 q fun d l₄ p₄ h₄=>E0 (U2 (E0 (H9 (Z0 (h₄ b d rfl rfl) fun c l₅ p₅ h₅=>N2 ?_))))))
  refine z0 h₅ fun t e q=>?_;try clear h₅
  rw [bE e]
  exact fun s R S=>wpAny_truthy_bool ⟨S,_,_,R,q⟩
theorem EH {x pos whole} {Q:Bool→j0→HP→Prop} (h:aw C A g fr E (isTrue x fr.env (eval x fr.env)) loc hp fun b l p=>Q (!b) l p):aw C A g fr E (isTrue (.UnaryOp .Not x pos) fr.env whole) loc hp Q:=by
 have e:isTrue (.UnaryOp .Not x pos) fr.env whole=(do return !(←isTrue x fr.env (eval x fr.env))):=rfl
 exact N3 e (E0 (Z0 h fun b l p q=>N1 q))
theorem EG {x y pos whole} {Q:Bool→j0→HP→Prop} (h:aw C A g fr E (isTrue x fr.env (eval x fr.env)) loc hp fun b l p=>if b then Q true l p else aw C A g fr E (isTrue y fr.env (eval y fr.env)) l p Q) :
  aw C A g fr E (isTrue (.BoolOp .Or [x,y] pos) fr.env whole) loc hp Q:=by
 have e:isTrue (.BoolOp .Or [x,y] pos) fr.env whole=allTrue .Or [x,y] fr.env:=rfl
 rw [e]
 refine E0 (Z0 h fun b l p h₁=>?_)
 cases b with
 | true=>exact N1 h₁
 | false=>
  simp only [Bool.false_eq_true,if_false] at h₁
  refine E0 (Z0 h₁ fun b l p h₂=>?_)
  cases b with
  | true=>exact N1 h₂
  | false=>exact N1 h₂
theorem EK {x y pos whole} {Q:Bool→j0→HP→Prop} (h:aw C A g fr E (isTrue x fr.env (eval x fr.env)) loc hp fun b l p=>if b then aw C A g fr E (isTrue y fr.env (eval y fr.env)) l p Q else Q false l p) :
  aw C A g fr E (isTrue (.BoolOp .And [x,y] pos) fr.env whole) loc hp Q:=by
 have e:isTrue (.BoolOp .And [x,y] pos) fr.env whole=allTrue .And [x,y] fr.env:=rfl
 rw [e]
 refine E0 (Z0 h fun b l p h₁=>?_)
 cases b with
 | false=>exact N1 h₁
 | true=>
  simp only [if_true] at h₁
  refine E0 (Z0 h₁ fun b l p h₂=>?_)
  cases b with
  | false=>exact N1 h₂
  | true=>exact N1 h₂
theorem EF {e:Expr} {pos:Pos} {Q:Bool→j0→HP→Prop} (he:isTrue e fr.env (eval e fr.env)=(do let v ←eval e fr.env;standAt pos;holding [v] (truthy v)))
  (h:w0 C A g fr E (eval e fr.env) loc hp fun x l p=>o9 C A g fr E truthy x l p Q):aw C A g fr E (isTrue e fr.env (eval e fr.env)) loc hp Q:=
 N3 he (E0 (Z0 h fun v l p q=>E0 (U2 (N2 (q v rfl)))))
theorem J7 {Q:Flow→j0→HP→Prop} (h:Q .next loc hp):I0 C A g fr E (execs [] fr.env) loc hp Q:=N1 (a:=Flow.next) h
theorem fy {st rest} {Q:Flow→j0→HP→Prop} (h:I0 C A g fr E (exec st fr.env) loc hp fun f l p=>match f with | .next=>I0 C A g fr E (execs rest fr.env) l p Q | f=>Q f l p) :
  I0 C A g fr E (execs (st::rest) fr.env) loc hp Q:=by
 refine N3 (execs_cons ..) (E0 (Z0 h fun f l p h₁=>?_))
 cases f with
 | next=>exact h₁
 | brk=>exact N1 h₁
 | cont=>exact N1 h₁
 | ret v=>exact N1 h₁
theorem Fd {test body orelse pos} {Q:Flow→j0→HP→Prop} (h:aw C A g fr E (isTrue test fr.env (eval test fr.env)) loc hp fun b l p=>if b then I0 C A g fr E (execs body fr.env) l p Q else I0 C A g fr E (execs orelse fr.env) l p Q) :
  I0 C A g fr E (exec (.If test body orelse pos) fr.env) loc hp Q:=by
 refine N3 (exec_If ..) (E0 (U2 (E0 (Z0 h fun b l p h₁=>?_))))
 cases b
 ·exact h₁
 ·exact h₁
theorem fz {e pos} {Q:Flow→j0→HP→Prop} (h:w0 C A g fr E (eval e fr.env) loc hp fun v l p=>Q (.ret v) l p):I0 C A g fr E (exec (.Return (some e) pos) fr.env) loc hp Q:=
 N3 (exec_Return_some ..) (E0 (U2 (E0 (Z0 h fun v l p q=>N1 q))))
theorem Fk {pos} {Q:Flow→j0→HP→Prop} (h:Q .brk loc hp):I0 C A g fr E (exec (.Break pos) fr.env) loc hp Q:=E0 (U2 (N1 (a:=Flow.brk) h))
theorem fB {x pos' value pos} {Q:Flow→j0→HP→Prop} (hs:swapsWith value (some (.Name x pos')) pos.line fr.env=pure false) (hx:M1 fr x)
  (h:w0 C A g fr E (eval value fr.env) loc hp fun v l p=>Q .next (N0 l x v) p):I0 C A g fr E (exec (.Assign [.Name x pos'] value pos) fr.env) loc hp Q:=
 N3 (exec_Assign_Name _ _ _ _ _ hs) (E0 (U2 (E0 (Z0 h fun v l p q=>E0 (U2 (E0 (aF hx (N1 (a:=Flow.next) q))))))))
theorem Fn {x pos' op value pos} {u:Value} {Q:Flow→j0→HP→Prop} (hk:fr.env.scope.kind=.function) (hl:loc x=some u) (hc:(x == ("__classdict__":Str))=false) (hx:M1 fr x)
  (h:w0 C A g fr E (eval value fr.env) loc hp fun y l p=>I1 C A g fr E (inplaceOp op) u y l p fun v l p=>Q .next (N0 l x v) p) :
  I0 C A g fr E (exec (.AugAssign (.Name x pos') op value pos) fr.env) loc hp Q:=by
 refine N3 (exec_AugAssign_Name ..) (E0 (U2 (E0 ?_)))
 have:=mN (C:=C) (A:=A) (g:=g) (fr:=fr) (E:=E) (loc:=loc) (hp:=hp) (x:=x) (v:=u) (Q:=fun v l p=>v=u∧l=loc∧p=hp) hk hl hc ⟨rfl,rfl,rfl⟩
 refine Z0 this fun old l p hZ0=>V1 hZ0 fun q1 q2 q3=>?_
 subst q2;subst q3
 refine E0 (N2 (Z0 h fun v l₂ p₂ h₂=>E0 (U2 (E0 (H9 (Z0 (h₂ old v q1 rfl) fun n l₃ p₃ h₃=>E0 (U2 (E0 (aF hx (N1 (a:=Flow.next) h₃))))))))))
theorem Fg {e pos} {Q:Flow→j0→HP→Prop} (hi:interactive fr.env=false) (hs:swapsWith e none pos.line fr.env=pure false)
  (h:w0 C A g fr E (eval e fr.env) loc hp fun v l p=>(∀ a,v≠.ref a)∧Q .next l p):I0 C A g fr E (exec (.Expr e pos) fr.env) loc hp Q:=by
 refine N3 (exec_Expr _ _ _ hi hs) (E0 (U2 (E0 (Z0 h fun v l p hZ0=>B0 hZ0 fun q1 q2=>?_))))
 have hv:∀ a,v≠.ref a:=by rintro a rfl;exact q1 a rfl
 rw [dropValue_plain hv]
 exact N1 (a:=Flow.next) q2
end
end
section
noncomputable def X1:List (Str × Value)→j0→j0
 | [],l=>l
 | (n,v)::r,l=>X1 r (N0 l n (nm v))
noncomputable def aN:Flow→Value
 | .ret v=>v
 | _=>.none
theorem cD {kindOf:Str→Option NameKind}:∀ (binds:List (Str × Value)) (l:j0) (m cm:Str→Option Value),(∀ x∈binds,kindOf x.1=some .local∨kindOf x.1=some .cell)→
  (∀ y v,l y=some v→(kindOf y=some .local∧∃ v',m y=some v'∧nm v'=v)∨(kindOf y=some .cell∧∃ v',cm y=some v'∧nm v'=v))→
  ∀ y v,X1 binds l y=some v→(kindOf y=some .local∧∃ v',bindL kindOf binds m y=some v'∧nm v'=v)∨(kindOf y=some .cell∧∃ v',bindC kindOf binds cm y=some v'∧nm v'=v)
 | [],_,_,_,_,h=>h
 | (n,u)::r,l,m,cm,hk,h=>by
  intro y v e
  unfold X1 at e
  dsimp only [bindL,bindC]
  have hr:∀ x∈r,kindOf x.1=some .local∨kindOf x.1=some .cell:=fun x hx=>hk x (List.mem_cons_of_mem _ hx)
  rcases hk (n,u) (.head _) with q | q
  ·rw [if_pos q,if_pos q]
   refine cD r _ _ _ hr (fun z w e2=>?_) y v e
   unfold N0 at e2
   by_cases hz:z=n
   ·subst hz;rw [if_pos rfl] at e2;cases e2
    exact .inl ⟨q,u,if_pos rfl,rfl⟩
   ·rw [if_neg hz] at e2
    rcases h z w e2 with ⟨a,v',b,c⟩ | ⟨a,v',b,c⟩
    ·exact .inl ⟨a,v',by rw [if_neg hz];exact b,c⟩
    ·exact .inr ⟨a,v',b,c⟩
  ·have q':¬kindOf n=some .local:=by rw [q];decide
   rw [if_neg q',if_neg q']
   refine cD r _ _ _ hr (fun z w e2=>?_) y v e
   unfold N0 at e2
   by_cases hz:z=n
   ·subst hz;rw [if_pos rfl] at e2;cases e2
    exact .inr ⟨q,u,if_pos rfl,rfl⟩
   ·rw [if_neg hz] at e2
    rcases h z w e2 with ⟨a,v',b,c⟩ | ⟨a,v',b,c⟩
    ·exact .inl ⟨a,v',b,c⟩
    ·exact .inr ⟨a,v',by rw [if_neg hz];exact b,c⟩
structure j4 (C:Cx) (f:Addr) (fd:FuncData):Prop where
 at_:∃ o,C.H₀.get? f=some o∧o.data=.func fd
 co:fd.scope.isCoroutine=false
 gen:fd.scope.isGenerator=false
 kind:fd.scope.kind=.function
 code:C.H₀.CodeRec fd.code fd.qualname
theorem mJ {H₀ g h:Heap} {fr:Fm} {loc:j0} {hp:HP} (R:F0 H₀ g fr loc hp h):∀ b o,H₀.get? b=some o→(H1 h hp).get? b=some o:=fun b o e=>by
 have e':=R.base b o e
 have n:hp b=none:=by
  cases q:hp b with
  | none=>rfl
  | some a=>rw [(R.at_ b a q).1] at e';exact J0 e'
 rw [t4 n];exact R.keep b o e'
section
variable {C:Cx} {A:Around} {g:Heap} {fr:Fm} {E:Value→Shared→Prop} {loc:j0} {hp:HP}
noncomputable def K3 (fd:FuncData) (L f:Addr):Fm:=⟨callEnvC fd L f,fun Z=>true⟩
structure P0 (fr:Fm) (sc:Scope) (ow:Str→Bool):Prop where
 scope:fr.env.scope=sc
 kind:sc.kind=.function
 glob:fr.env.globals=mainGlobals
 bi:fr.env.builtins=builtinsNs
 cells:∀ x,sc.names.lookup x=some .cell∨sc.names.lookup x=some .free→(fr.env.cells.lookup x).isSome=true
 own:∀ x,ow x=true→fr.own x=true
noncomputable def K7:Str→Bool:=fun Z=>true
theorem jR:∀ {names:List (Str × NameKind)},names.all (fun x=>x.2 != .free)=true→∀ x,names.lookup x≠some .free
 | [],_,_,e=>by exact J0 e
 | (n,k)::r,h,x,e=>by
  rw [List.all_cons,Bool.and_eq_true] at h
  simp only [List.lookup_cons] at e
  split at e
  ·cases e;exact Bool.noConfusion h.1
  ·exact jR h.2 x e
theorem N8 (fd:FuncData) (L f:Addr) (hk:fd.scope.kind=.function) (hg:fd.globals=mainGlobals) (hb:fd.builtins=builtinsNs) (hf:fd.scope.names.all (fun x=>x.2 != .free)=true):P0 (K3 fd L f) fd.scope K7:=
 ⟨rfl,hk,hg,hb,fun x e=>e.elim (fun e=>cellsFrom_some _ _ _ (.inl e)) fun e=>absurd e (jR hf x),fun Z Z=>rfl⟩
theorem P0.k {fr:Fm} {sc:Scope} {ow:Str→Bool} (F:P0 fr sc ow):fr.env.scope.kind=.function:=by rw [F.scope];exact F.kind
theorem P0.kindOf {fr:Fm} {sc:Scope} {ow:Str→Bool} (F:P0 fr sc ow) {x:Str} {k:NameKind} (h:sc.names.lookup x=some k):fr.env.kindOf x=some k:=by unfold Env.kindOf;rw [F.scope];exact h
theorem P0.stoL {fr:Fm} {sc:Scope} {ow:Str→Bool} (F:P0 fr sc ow) {x:Str} (h:sc.names.lookup x=some .local):M1 fr x:=⟨F.k,.inl (F.kindOf h)⟩
theorem P0.stoC {fr:Fm} {sc:Scope} {ow:Str→Bool} (F:P0 fr sc ow) {x:Str} (h:sc.names.lookup x=some .cell) (ho:ow x=true):M1 fr x:=⟨F.k,.inr ⟨F.kindOf h,F.own x ho,F.cells x (.inl h)⟩⟩
theorem Z8 {h:Heap} {s s':Shared} {fd:FuncData} {f:Addr} {binds:List (Str × Value)} (R:F0 C.H₀ g fr loc hp s.heap)
  (hkind:∀ x∈binds,fd.scope.names.lookup x.1=some .local∨fd.scope.names.lookup x.1=some .cell)
  (x:InCallC s (callEnvC fd s.heap.objs.size f).locals (bindL (callEnvC fd s.heap.objs.size f).kindOf binds fun Z=>none) (callEnvC fd s.heap.objs.size f).cells
   (bindC (callEnvC fd s.heap.objs.size f).kindOf binds fun Z=>none) s') :
  F0 C.H₀ (H1 s.heap hp) (K3 fd s.heap.objs.size f) (X1 binds fun Z=>none) hp s'.heap:=by
 have fresh:∀ b,s.heap.objs.size≤b→(H1 s.heap hp).get? b=none:=fun b hb=>by
  cases q:(H1 s.heap hp).get? b with
  | none=>rfl
  | some o=>exact absurd (Heap.lt_size (z6 q).1) (Nat.not_lt.mpr hb)
 have hL:(callEnvC fd s.heap.objs.size f).locals=s.heap.objs.size:=rfl
 have habove:∀ y c,(callEnvC fd s.heap.objs.size f).cells.lookup y=some c→s.heap.objs.size < c:=fun y c l=>x.above y c (mem_of_lookup l)
 refine ⟨fun b o e=>x.toInCall.keep b o (z6 e).1,mJ R,fun y v e=>?_,⟨_,x.toInCall.ns⟩,fresh _ (Nat.le_refl _),fun y c Z l=>fresh _ (Nat.le_of_lt (habove y c l)),fun y c l=>?_,fun y z c l l'=>?_,fun b ao e=>?_⟩
 ·have:=cD (kindOf:=(callEnvC fd s.heap.objs.size f).kindOf) binds (fun Z=>none) (fun Z=>none) (fun Z=>none) hkind (fun Z Z e=>by exact J0 e) y v e
  rcases this with ⟨a,v',b,c⟩ | ⟨a,v',b,c⟩
  ·exact .inl ⟨a,_,v',x.toInCall.ns,b,c⟩
  ·have hs:=cellsFrom_some (x:=y) fd.scope.names (s.heap.objs.size+1) [] (.inl a)
   refine o0 (Option.isSome_iff_exists.mp hs) fun cc hc=>?_
   have hc':(callEnvC fd s.heap.objs.size f).cells.lookup y=some cc:=hc
   have z:=x.cell y cc hc'
   rw [b] at z
   exact .inr ⟨.inl a,cc,v',hc',z,c⟩
 ·exact ⟨Nat.ne_of_gt (habove y c l),_,x.cell y c l⟩
 ·exact name_of_addr x.apart (mem_of_lookup l) (mem_of_lookup l')
 ·refine Q2 (R.at_ b ao e) fun Z Z Z o ho hi=>?_
  have hb:=Heap.lt_size ho
  exact ⟨P7 e,Nat.ne_of_lt hb,fun y c l=>Nat.ne_of_lt (Nat.lt_trans hb (habove y c l)),o,x.toInCall.keep b o ho,hi⟩
theorem r8 {s s':Shared} {L:Addr} {m cm:Str→Option Value} {cs:List (Str × Addr)} (S:H2 C s) (x:InCallC s L m cs cm s'):H2 C s':=by
 refine i8 (x.toInCall.same) fun h tk hR0=>?_;subst hR0
 exact S
theorem X4 {f:Addr} {fd:FuncData} {body:List Stmt} {vals:List Value} {kw:List (Str × Value)} {binds:List (Str × Value)} {Q:Value→j0→HP→Prop}
  (F:j4 C f fd) (hbody:fd.body=.stmts body) (hclo:fd.closure=[]) (hlim:C.H₀.NoLimit) (hroom:A.depth < recursionLimit)
  (hbind:∀ s:Shared,(∀ b o,C.H₀.get? b=some o→s.heap.get? b=some o)→BindsTo s fd ⟨vals,kw⟩ binds)
  (hkb:(binds.all fun x=>fd.scope.names.lookup x.1 == some .local || fd.scope.names.lookup x.1 == some .cell)=true)
  (hg:fd.globals=mainGlobals) (hb:fd.builtins=builtinsNs) (hf:fd.scope.names.all (fun x=>x.2 != .free)=true)
  (h:∀ A' g' fr' E',A'.depth=A.depth+1→A'.units=A.units+3→A'.handled=A.handled→P0 fr' fd.scope K7→I0 C A' g' fr' E' (execs body fr'.env) (X1 binds fun Z=>none) hp fun fl Z p=>Q (aN fl) loc p) :
  w0 C A g fr E (call (.ref f) vals kw) loc hp Q:=fun s R S=>by
 refine z0 (F.at_) fun o ho hd=>?_
 have hkind:∀ x∈binds,fd.scope.names.lookup x.1=some .local∨fd.scope.names.lookup x.1=some .cell:=fun x hx=>by
  have:=List.all_eq_true.mp hkb x hx
  rcases Bool.or_eq_true_iff.mp this with q | q
  ·exact .inl (by simpa using q)
  ·exact .inr (by simpa using q)
 have hk:∀ b o,C.H₀.get? b=some o→s.heap.get? b=some o:=fun b o e=>R.keep b o (R.base b o e)
 refine wpAny_call (codeAny_call_function hroom (hk _ _ ho) hd F.co F.gen hbody (F.code.keeps hk) (hbind s hk _ _ _ _ ?_))
 rw [hclo]
 refine wpAny_newFunctionEnv_cells F.kind (fun x hx=>(hkind x hx).imp id fun e=>⟨e,cellsFrom_some _ _ _ (.inl e)⟩) fun env he s' x=>?_
 subst he
 refine ⟨(hlim.keeps hk).keeps x.toInCall.keep,codeAny_func ?_⟩
 have R':=Z8 (h:=s.heap) R hkind x
 refine wpAny_mono (h (A.deeper (callEnvC fd s.heap.objs.size f)) _ (K3 fd s.heap.objs.size f) _ rfl rfl rfl (N8 fd _ f F.kind hg hb hf) s' R' (r8 S x)) (fun fl s'' hq=>?_) fun Z Z e=>e
 refine Q3 hq fun S'' l' p' R'' q=>?_;try clear hq
 refine ⟨S'',loc,p',R.asleep R''.keep fun b ao e=>?_,?_⟩
 ·refine P1 (R''.at_ b ao e) fun a1 Z Z a4=>?_
  exact ⟨a1,a4⟩
 ·cases fl <;> exact q
end
end
section
section
variable {C:Cx} {A:Around} {g:Heap} {fr:Fm} {E:Value→Shared→Prop} {loc:j0} {hp:HP}
noncomputable def Kp (C:Cx) (A:Around) (g:Heap) (fr:Fm) (E:Value→Shared→Prop) (f:Value) (loc:j0) (hp:HP):Prop:=aw C A g fr E (keeperOf f) loc hp fun Z l p=>l=loc∧p=hp
theorem S4 {b:String}:Kp C A g fr E (.builtin b) loc hp:=N1 ⟨rfl,rfl⟩
theorem BK {b:String}:Kp C A g fr E (.type b) loc hp:=N1 ⟨rfl,rfl⟩
theorem bN {f:Addr} {fd:FuncData} (F:j4 C f fd):Kp C A g fr E (.ref f) loc hp:=fun s R S=>by
 refine z0 (F.at_) fun o ho hd=>?_
 unfold keeperOf
 refine wpAny_bind (wpAny_load (R.keep _ _ (R.base _ _ ho)) ?_)
 rw [hd]
 exact wpAny_pure ⟨S,loc,hp,R,rfl,rfl⟩
theorem BL {f:Addr} {o:Obj} {fd:FuncData} (hf:hp f=some (.obj o)) (hd:o.data=.func fd):Kp C A g fr E (.ref f) loc hp:=fun s R S=>by
 refine Q2 (R.at_ _ _ hf) fun Z Z Z o' ho hi=>?_
 cases hi
 unfold keeperOf
 refine wpAny_bind (wpAny_load ho ?_)
 rw [hd]
 exact wpAny_pure ⟨S,loc,hp,R,rfl,rfl⟩
noncomputable def V3 (C:Cx) (A:Around) (g:Heap) (fr:Fm) (E:Value→Shared→Prop):List Expr→j0→HP→(List Value→j0→HP→Prop)→Prop
 | [],l,p,Q=>Q [] l p
 | e::es,l,p,Q=>w0 C A g fr E (eval e fr.env) l p fun x l p=>V3 C A g fr E es l p fun xs l p=>Q (x::xs) l p
noncomputable def i5:Expr→Bool
 | .Starred ..=>false
 | _=>true
theorem cT {e:Expr} (h:i5 e=true) (es:List Expr) (env:Env):starEach (e::es) env=(false,eval e env)::starEach es env:=by
 cases e <;> first | rfl | exact Y5 h
theorem cF {pos:Pos}:∀ {es:List Expr} {loc:j0} {hp:HP} {Q:List Value→j0→HP→Prop},es.all i5=true→V3 C A g fr E es loc hp Q→
  aw C A g fr E (spliced (backTo pos (starEach es fr.env))) loc hp fun vs l p=>Q (vs.map nm) l p
 | [],_,_,_,_,h=>N1 h
 | e::es,_,_,_,hs,h=>by
  rw [List.all_cons,Bool.and_eq_true] at hs
  rw [cT hs.1]
  show aw C A g fr E (spliced ((false,eval e fr.env)::backTo pos (starEach es fr.env))) _ _ _
  unfold spliced
  refine E0 (Z0 h fun v l p hv=>?_)
  simp only [Bool.false_eq_true,if_false]
  refine E0 (N1 (E0 (N2 (Z0 (cF hs.2 hv) fun vs l p q=>N1 ?_))))
  exact q
theorem dQ {pos:Pos} {env:Env}:∀ {es:List Expr},es.all i5=true→(backTo pos (starEach es env)).any (·.1)=false
 | [],_=>rfl
 | e::es,hs=>by
  simp only [List.all_cons,Bool.and_eq_true] at hs
  rw [cT hs.1]
  show (false || (backTo pos (starEach es env)).any (·.1))=false
  rw [dQ hs.2];rfl
noncomputable def R5 (C:Cx) (A:Around) (g:Heap) (fr:Fm) (E:Value→Shared→Prop):List Keyword→j0→HP→(List (Str × Value)→j0→HP→Prop)→Prop
 | [],l,p,Q=>Q [] l p
 | k::ks,l,p,Q=>match k.arg with
  | none=>False
  | some n=>w0 C A g fr E (eval k.value fr.env) l p fun x l p=>R5 C A g fr E ks l p fun xs l p=>Q ((n,x)::xs) l p
theorem mP {pos:Pos}:∀ {ks:List Keyword} {loc:j0} {hp:HP} {Q:List (Str × Value)→j0→HP→Prop},R5 C A g fr E ks loc hp Q→ks.all (·.arg.isSome)=true→
  aw C A g fr E (evalAll ((backToKw pos (keywordEach ks fr.env)).map (·.2))) loc hp fun vs l p=>Q ((((backToKw pos (keywordEach ks fr.env)).filterMap (·.1)).zip vs).map fun x=>(x.1,nm x.2)) l p
 | [],_,_,_,h,_=>N1 h
 | k::ks,_,_,_,h,hs=>by
  obtain ⟨arg,value,kpos⟩:=k
  cases arg with
  | none=>exact Y5 hs
  | some n=>
   have hs':ks.all (·.arg.isSome)=true:=by simpa using hs
   show aw C A g fr E (evalAll ((do let v ←eval value fr.env;standAt pos;pure v)::(backToKw pos (keywordEach ks fr.env)).map (·.2))) _ _ _
   dsimp only [evalAll]
   refine E0 (E0 (Z0 h fun v l p hv=>E0 (U2 (N1 (E0 (N2 (Z0 (mP hv hs') fun vs l p q=>N1 ?_)))))))
   exact q
theorem eG {pos:Pos} {env:Env}:∀ {ks:List Keyword},ks.all (·.arg.isSome)=true→(backToKw pos (keywordEach ks env)).all (·.1.isSome)=true∧(backToKw pos (keywordEach ks env)).any (·.1.isNone)=false
 | [],_=>⟨rfl,rfl⟩
 | k::ks,hs=>by
  obtain ⟨arg,value,kpos⟩:=k
  cases arg with
  | none=>exact Y5 hs
  | some n=>
   have hs':ks.all (·.arg.isSome)=true:=by simpa using hs
   refine B0 (eG (pos:=pos) (env:=env) hs') fun a b=>?_
   exact ⟨by show (true && (backToKw pos (keywordEach ks env)).all (·.1.isSome))=true;rw [a];rfl,by show (false || (backToKw pos (keywordEach ks env)).any (·.1.isNone))=false;rw [b];rfl⟩
noncomputable def M0 (C:Cx) (A:Around) (g:Heap) (fr:Fm) (E:Value→Shared→Prop) (f:Value) (xs:List Value) (kx:List (Str × Value)) (loc:j0) (hp:HP) (Q:Value→j0→HP→Prop):Prop:=
 ∀ vs kw,vs.map nm=xs→kw.map (fun x=>(x.1,nm x.2))=kx→w0 C A g fr E (call f vs kw) loc hp Q
theorem EN {pos:Pos} {f:Value} {es:List Expr} {ks:List Keyword} {Q:List Value→List (Str × Value)→j0→HP→Prop} (hs:es.all i5=true) (hk:ks.all (·.arg.isSome)=true)
  (h:V3 C A g fr E es loc hp fun xs l p=>R5 C A g fr E ks l p fun kx l p=>Q xs kx l p) :
  aw C A g fr E (evalArgs f true (backTo pos (starEach es fr.env)) (backToKw pos (keywordEach ks fr.env))) loc hp fun a l p=>Q (a.pos.map nm) (a.kw.map fun x=>(x.1,nm x.2)) l p:=by
 have e:evalArgs f true (backTo pos (starEach es fr.env)) (backToKw pos (keywordEach ks fr.env))=(do
   let p ←spliced (backTo pos (starEach es fr.env))
   holding p (do
    let kw:=((backToKw pos (keywordEach ks fr.env)).filterMap (·.1)).zip (←evalAll ((backToKw pos (keywordEach ks fr.env)).map (·.2)))
    return ⟨p,kw⟩)):=by
  refine B0 (eG (pos:=pos) (env:=fr.env) hk) fun h1 Z=>?_
  unfold evalArgs
  cases es with
  | nil=>
   simp -iota only [h1,if_true]
   show (spliced [] >>= _)=_
   rfl
  | cons e es=>
   rw [List.all_cons,Bool.and_eq_true] at hs
   rw [cT hs.1]
   simp only [backTo,List.map_cons,h1,if_true,bind_assoc,pure_bind,Option.toList_none,List.append_nil]
 refine N3 e (E0 (Z0 (cF hs h) fun vs l p hv=>N2 (E0 (Z0 (mP hv hk) fun kvs l p q=>N1 ?_))))
 exact q
theorem mQ {pos:Pos} {f:Value} {first:List Value} {es:List Expr} {ks:List Keyword} {Q:Value→j0→HP→Prop} (hs:es.all i5=true) (hk:ks.all (·.arg.isSome)=true)
  (h:V3 C A g fr E es loc hp fun xs l p=>R5 C A g fr E ks l p fun kx l p=>Kp C A g fr E f l p∧M0 C A g fr E f (first.map nm++xs) kx l p Q) :
  w0 C A g fr E (callWith pos f first (backTo pos (starEach es fr.env)) (backToKw pos (keywordEach ks fr.env))) loc hp Q:=by
 unfold callWith
 refine E0 (N2 (Z0 (EN hs hk h) fun a l p hZ0=>B0 hZ0 fun hkp hc=>E0 (U2 ?_)))
 refine B0 (eG (pos:=pos) (env:=fr.env) hk) fun Z h2=>?_
 rw [dQ hs,h2]
 have hcall:w0 C A g fr E (call f (first++a.pos) a.kw) l p Q:=hc _ _ (by rw [List.map_append]) rfl
 have tail:∀ {t:Sem Value},aw C A g fr E t l p (fun v l p=>Q (nm v) l p)→aw C A g fr E (t >>= fun r=>holding [r] point >>= fun Z=>pure r) l p fun v l p=>Q (nm v) l p:=
  fun ht=>E0 (Z0 ht fun r l p q=>E0 (N2 (fw (N1 q))))
 refine E0 (m:=keeperOf f) (Z0 hkp fun k l' p' hZ0=>B0 hZ0 fun e1 e2=>?_)
 subst e1;subst e2
 cases k with
 | frame=>
  show aw C A g fr E (if _ then _ else _) _ _ _
  split
  ·exact tail hcall
  ·exact tail (mO hcall)
 | boundFrame=>
  show aw C A g fr E (if _ then _ else _) _ _ _
  split
  ·exact tail hcall
  ·exact tail (mO hcall)
 | machine=>exact tail hcall
 | caller=>exact tail (H9 hcall)
theorem Fi {id:Str} {p pos:Pos} {es:List Expr} {ks:List Keyword} {Q:Value→j0→HP→Prop} (hs:es.all i5=true) (hk:ks.all (·.arg.isSome)=true)
  (h:w0 C A g fr E (eval (.Name id p) fr.env) loc hp fun f l p=>V3 C A g fr E es l p fun xs l p=>R5 C A g fr E ks l p fun kx l p=>
   ∀ f',nm f'=f→Kp C A g fr E f' l p∧M0 C A g fr E f' xs kx l p Q) :
  w0 C A g fr E (eval (.Call (.Name id p) es ks pos) fr.env) loc hp Q:=by
 refine N3 (arm_eval_Call_Name' ..) (E0 (Z0 h fun f l p hf=>?_))
 refine mQ hs hk ?_
 have:∀ {es:List Expr} {l:j0} {p:HP} {Q Q':List Value→j0→HP→Prop},V3 C A g fr E es l p Q→(∀ xs l p,Q xs l p→Q' xs l p)→V3 C A g fr E es l p Q':=by
  intro es
  induction es with
  | nil=>intro l p Q Q' h hq;exact hq _ _ _ h
  | cons e es ih=>intro l p Q Q' h hq;exact k7 h fun x l p hx=>ih hx fun xs l p q=>hq _ _ _ q
 have this2:∀ {ks:List Keyword} {l:j0} {p:HP} {Q Q':List (Str × Value)→j0→HP→Prop},R5 C A g fr E ks l p Q→(∀ xs l p,Q xs l p→Q' xs l p)→R5 C A g fr E ks l p Q':=by
  intro ks
  induction ks with
  | nil=>intro l p Q Q' h hq;exact hq _ _ _ h
  | cons k ks ih=>
   intro l p Q Q' h hq
   obtain ⟨arg,value,kpos⟩:=k
   cases arg with
   | none=>exact h.elim
   | some n=>
    have h':w0 C A g fr E (eval value fr.env) l p fun x l p=>R5 C A g fr E ks l p fun xs l p=>Q ((n,x)::xs) l p:=h
    exact k7 h' fun x l p hx=>ih hx fun xs l p q=>hq _ _ _ q
 exact this hf fun xs l p hx=>this2 hx fun kx l p q=>q f rfl
theorem DY {b:String} {xs:List Value} {kx:List (Str × Value)} {Q:Value→j0→HP→Prop} (h:M0 C A g fr E (.builtin b) xs kx loc hp Q):∀ f',nm f'=.builtin b→Kp C A g fr E f' loc hp∧M0 C A g fr E f' xs kx loc hp Q:=fun f' e=>by
 rw [jK e];exact ⟨S4,h⟩
theorem DW {b:String} {xs:List Value} {kx:List (Str × Value)} {Q:Value→j0→HP→Prop} (h:M0 C A g fr E (.type b) xs kx loc hp Q):∀ f',nm f'=.type b→Kp C A g fr E f' loc hp∧M0 C A g fr E f' xs kx loc hp Q:=fun f' e=>by
 rw [zM e];exact ⟨BK,h⟩
theorem DX {f:Addr} {fd:FuncData} {xs:List Value} {kx:List (Str × Value)} {Q:Value→j0→HP→Prop} (F:j4 C f fd) (h:M0 C A g fr E (.ref f) xs kx loc hp Q):∀ f',nm f'=.ref f→Kp C A g fr E f' loc hp∧M0 C A g fr E f' xs kx loc hp Q:=fun f' e=>by
 rw [Q0 e];exact ⟨bN F,h⟩
theorem cA {f:Addr} {o:Obj} {fd:FuncData} {xs:List Value} {kx:List (Str × Value)} {Q:Value→j0→HP→Prop} (hf:hp f=some (.obj o)) (hd:o.data=.func fd) (h:M0 C A g fr E (.ref f) xs kx loc hp Q):∀ f',nm f'=.ref f→Kp C A g fr E f' loc hp∧M0 C A g fr E f' xs kx loc hp Q:=fun f' e=>by
 rw [Q0 e];exact ⟨BL hf hd,h⟩
end
end
section
theorem aE {C:Cx} {A:Around} {g:Heap} {fr:Fm} {E:Value→Shared→Prop} {loc:j0} {hp:HP} {test:Expr} {body:List Stmt} {pos:Pos} {Q:Flow→j0→HP→Prop} (Inv:Nat→j0→HP→Prop)
  (turn:∀ n l p E',Inv n l p→aw C A g fr E' (isTrue test fr.env (eval test fr.env)) l p fun b l p=>if b then I0 C A g fr E' (execs body fr.env) l p (BS Inv n Q) else Q .next l p)
  (n:Nat) (h:Inv n loc hp):I0 C A g fr E (exec (.While test body [] pos) fr.env) loc hp Q:=fun s R S=>by
 refine wpAny_While (codeAny_whileLoop (fun n s=>H2 C s∧∃ l p,F0 C.H₀ g fr l p s.heap∧Inv n l p) (fun n s' hI=>?_) n ⟨S,loc,hp,R,h⟩)
 refine Q3 hI fun S' l p R' hI=>?_
 refine wpAny_mono (turn n l p _ hI s' R' S') (fun b s₂ h₂=>?_) fun Z Z e=>e
 refine Q3 h₂ fun S₂ l₂ p₂ R₂ h₂=>?_
 cases b with
 | false=>exact wpAny_execs_nil ⟨S₂,l₂,p₂,R₂,h₂⟩
 | true=>
  refine wpAny_mono (h₂ s₂ R₂ S₂) (fun f s₃ h₃=>?_) fun Z Z e=>e
  refine Q3 h₃ fun S₃ l₃ p₃ R₃ h₃=>?_
  cases f with
  | next=>refine z0 h₃ fun m hm hi=>?_;try clear h₃;exact ⟨m,hm,S₃,l₃,p₃,R₃,hi⟩
  | cont=>refine z0 h₃ fun m hm hi=>?_;try clear h₃;exact ⟨m,hm,S₃,l₃,p₃,R₃,hi⟩
  | brk=>exact ⟨S₃,l₃,p₃,R₃,h₃⟩
  | ret v=>exact ⟨S₃,l₃,p₃,R₃,h₃⟩
section
variable {C:Cx} {A:Around} {g:Heap} {fr:Fm} {E:Value→Shared→Prop} {loc:j0} {hp:HP}
theorem zD {a b:Int} {Q:Value→j0→HP→Prop} (h:Q (.int (a+b) 0) loc hp):I1 C A g fr E (binaryOp .Add) (.int a 0) (.int b 0) loc hp Q:=by
 intro x y hx hy;refine o0 (S0 hx) fun t hR0=>?_;subst hR0;refine o0 (S0 hy) fun u hR0=>?_;subst hR0;exact fun s R S=>add_int ⟨S,loc,hp,R,h⟩
theorem zr {a b:Int} {Q:Value→j0→HP→Prop} (h:Q (.int (a - b) 0) loc hp):I1 C A g fr E (binaryOp .Sub) (.int a 0) (.int b 0) loc hp Q:=by
 intro x y hx hy;refine o0 (S0 hx) fun t hR0=>?_;subst hR0;refine o0 (S0 hy) fun u hR0=>?_;subst hR0;exact fun s R S=>sub_int ⟨S,loc,hp,R,h⟩
theorem dY {a b:Int} {Q:Value→j0→HP→Prop} (hm:IntMulOk a b) (h:Q (.int (a*b) 0) loc hp):I1 C A g fr E (binaryOp .Mult) (.int a 0) (.int b 0) loc hp Q:=by
 intro x y hx hy;refine o0 (S0 hx) fun t hR0=>?_;subst hR0;refine o0 (S0 hy) fun u hR0=>?_;subst hR0;exact fun s R S=>mul_int ⟨S,loc,hp,R,h⟩ hm
theorem zv {a b:Int} {Q:Value→j0→HP→Prop} (hb:0 < b) (h:Q (.int (a % b) 0) loc hp):I1 C A g fr E (binaryOp .Mod) (.int a 0) (.int b 0) loc hp Q:=by
 intro x y hx hy;refine o0 (S0 hx) fun t hR0=>?_;subst hR0;refine o0 (S0 hy) fun u hR0=>?_;subst hR0
 rw [←Int.fmod_eq_emod_of_nonneg _ (Int.le_of_lt hb)] at h
 exact fun s R S=>mod_int' (by exact jd hb) ⟨S,loc,hp,R,h⟩
theorem zB {a b:Int} {Q:Value→j0→HP→Prop} (hb:0 < b) (hs:b.natAbs < 1073741824) (h:Q (.int (a / b) 0) loc hp):I1 C A g fr E (binaryOp .FloorDiv) (.int a 0) (.int b 0) loc hp Q:=by
 intro x y hx hy;refine o0 (S0 hx) fun t hR0=>?_;subst hR0;refine o0 (S0 hy) fun u hR0=>?_;subst hR0
 rw [←Int.fdiv_eq_ediv_of_nonneg _ (Int.le_of_lt hb)] at h
 exact fun s R S=>floordiv_int (by exact jd hb) ⟨S,loc,hp,R,h⟩ (.inl (PyProof.noPylong_small hs))
theorem zC {a b:Int} {Q:Value→j0→HP→Prop} (h:Q (.int (Builtin.bitAnd a b) 0) loc hp):I1 C A g fr E (binaryOp .BitAnd) (.int a 0) (.int b 0) loc hp Q:=by
 intro x y hx hy;refine o0 (S0 hx) fun t hR0=>?_;subst hR0;refine o0 (S0 hy) fun u hR0=>?_;subst hR0;exact fun s R S=>and_int ⟨S,loc,hp,R,h⟩
theorem bB {a b:Int} {Q:Value→j0→HP→Prop} (h0:0≤b) (h1:b≤1000000) (h2:a.natAbs < 2 ^ 64) (h:Q (.int (a*2 ^ b.toNat) 0) loc hp):I1 C A g fr E (binaryOp .LShift) (.int a 0) (.int b 0) loc hp Q:=by
 intro x y hx hy;refine o0 (S0 hx) fun t hR0=>?_;subst hR0;refine o0 (S0 hy) fun u hR0=>?_;subst hR0;exact fun s R S=>lshift_int_small h0 h1 h2 ⟨S,loc,hp,R,h⟩
theorem zy {a b:Int} {Q:Value→j0→HP→Prop} (h:Q (.int (Builtin.bitOr a b) 0) loc hp):I1 C A g fr E (inplaceOp .BitOr) (.int a 0) (.int b 0) loc hp Q:=by
 intro x y hx hy;refine o0 (S0 hx) fun t hR0=>?_;subst hR0;refine o0 (S0 hy) fun u hR0=>?_;subst hR0;exact fun s R S=>ior_int ⟨S,loc,hp,R,h⟩
theorem zw {a b:Int} {Q:Value→j0→HP→Prop} (h:Q (.int (Builtin.bitXor a b) 0) loc hp):I1 C A g fr E (inplaceOp .BitXor) (.int a 0) (.int b 0) loc hp Q:=by
 intro x y hx hy;refine o0 (S0 hx) fun t hR0=>?_;subst hR0;refine o0 (S0 hy) fun u hR0=>?_;subst hR0;exact fun s R S=>ixor_int ⟨S,loc,hp,R,h⟩
theorem zx {a b:Int} {Q:Value→j0→HP→Prop} (h0:0≤b) (h1:(Builtin.Int.intBits a:Int)+b≤2 ^ 27) (h:Q (.int (a*2 ^ b.toNat) 0) loc hp):I1 C A g fr E (inplaceOp .LShift) (.int a 0) (.int b 0) loc hp Q:=by
 intro x y hx hy;refine o0 (S0 hx) fun t hR0=>?_;subst hR0;refine o0 (S0 hy) fun u hR0=>?_;subst hR0;exact fun s R S=>ilshift_int h0 h1 ⟨S,loc,hp,R,h⟩
theorem zu {a:Int} {Q:Value→j0→HP→Prop} (h:Q (.int (-a) 0) loc hp):dX C A g fr E (unaryOp .USub) (.int a 0) loc hp Q:=by
 intro x hx;refine o0 (S0 hx) fun t hR0=>?_;subst hR0;exact fun s R S=>neg_int ⟨S,loc,hp,R,h⟩
theorem lT {a b:Int} {Q:Value→j0→HP→Prop} (h:Q (.bool (decide (a < b))) loc hp):I1 C A g fr E (compareOp .Lt) (.int a 0) (.int b 0) loc hp Q:=by
 intro x y hx hy;refine o0 (S0 hx) fun t hR0=>?_;subst hR0;refine o0 (S0 hy) fun u hR0=>?_;subst hR0;exact fun s R S=>lt_int ⟨S,loc,hp,R,h⟩
theorem Dz {a b:Int} {Q:Value→j0→HP→Prop} (h:Q (.bool (decide (b < a))) loc hp):I1 C A g fr E (compareOp .Gt) (.int a 0) (.int b 0) loc hp Q:=by
 intro x y hx hy;refine o0 (S0 hx) fun t hR0=>?_;subst hR0;refine o0 (S0 hy) fun u hR0=>?_;subst hR0;exact fun s R S=>gt_int ⟨S,loc,hp,R,h⟩
theorem lU {a b:Int} {Q:Value→j0→HP→Prop} (h:Q (.bool (decide (a≤b))) loc hp):I1 C A g fr E (compareOp .LtE) (.int a 0) (.int b 0) loc hp Q:=by
 intro x y hx hy;refine o0 (S0 hx) fun t hR0=>?_;subst hR0;refine o0 (S0 hy) fun u hR0=>?_;subst hR0;exact fun s R S=>le_int ⟨S,loc,hp,R,h⟩
theorem DC {a b:Int} {Q:Value→j0→HP→Prop} (h:Q (.bool (a == b)) loc hp):I1 C A g fr E (compareOp .Eq) (.int a 0) (.int b 0) loc hp Q:=by
 intro x y hx hy;refine o0 (S0 hx) fun t hR0=>?_;subst hR0;refine o0 (S0 hy) fun u hR0=>?_;subst hR0;exact fun s R S=>eq_int ⟨S,loc,hp,R,h⟩
theorem Dy {a b:Int} {Q:Value→j0→HP→Prop} (h:Q (.bool (a != b)) loc hp):I1 C A g fr E (compareOp .NotEq) (.int a 0) (.int b 0) loc hp Q:=by
 intro x y hx hy;refine o0 (S0 hx) fun t hR0=>?_;subst hR0;refine o0 (S0 hy) fun u hR0=>?_;subst hR0;exact fun s R S=>ne_int ⟨S,loc,hp,R,h⟩
theorem lV {x:Value} {Q:Value→j0→HP→Prop} (h:Q (.bool (x == Value.none)) loc hp):I1 C A g fr E (compareOp .Is) x .none loc hp Q:=by
 intro v y hx hy
 rw [zN hy]
 have e:(x == Value.none)=(v == Value.none):=by
  subst hx
  cases v <;> rfl
 rw [e] at h
 exact fun s R S=>is_none ⟨S,loc,hp,R,h⟩
theorem F0.list {H₀ h:Heap} {a:Addr} {xs:List Value} (R:F0 H₀ g fr loc hp h) (ha:hp a=some (.list xs)):∃ vs n,h.get? a=some {cls:=.type "list",data:=.seq vs n}∧vs.toList.map nm=xs:=by
 refine ck (R.at_ a _ ha) fun vs n Z Z Z ho e=>?_
 exact ⟨vs,n,ho,e⟩
theorem F0.tuple {H₀ h:Heap} {a:Addr} {xs:List Value} (R:F0 H₀ g fr loc hp h) (ha:hp a=some (.tuple xs)):∃ vs n,h.get? a=some {cls:=.type "tuple",data:=.seq vs n}∧vs.toList.map nm=xs:=by
 refine ck (R.at_ a _ ha) fun vs n Z Z Z ho e=>?_
 exact ⟨vs,n,ho,e⟩
theorem X5 {vs:Array Value} {xs:List Value} {i:Nat} {x:Value} (e:vs.toList.map nm=xs) (hx:xs[i]?=some x):∃ v,vs[i]?=some v∧nm v=x:=by
 subst e
 rw [List.getElem?_map] at hx
 refine z0 (Option.map_eq_some_iff.mp hx) fun v hv hR0=>?_;subst hR0
 exact ⟨v,by simpa using hv,rfl⟩
theorem M2 {vs:Array Value} {xs:List Value} (e:vs.toList.map nm=xs):vs.size=xs.length:=by subst e;exact (List.length_map ..).symm
theorem M5 {value slice:Expr} {l:Addr} {i:Int} {xs:List Value} {x:Value} {Q:Value→j0→HP→Prop} (hs:∀ o j,subscripted slice false o j=operate [o,j] (getItem o j)) (hl:hp l=some (.list xs)) (h0:0≤i) (hi:i < 2 ^ 63) (hx:xs[i.toNat]?=some x) (h:Q x loc hp) :
  I1 C A g fr E (subscriptTail value slice) (.ref l) (.int i 0) loc hp Q:=by
 intro a b ha hb;refine o0 (S0 hb) fun t hR0=>?_;subst hR0;have:=Q0 ha;subst this
 intro s R S
 refine V0 (R.list hl) fun vs n e q=>?_
 refine z0 (X5 q hx) fun v hv hR0=>?_;subst hR0
 have hL:s.heap.IsList l vs:=⟨_,e,rfl,n,rfl⟩
 exact tail_any hL.typeIs slot_list_getitem.lookup (wpAny_getItem_list hL h0 hi hv ⟨S,loc,hp,R,h⟩) (hs _ _)
theorem oK {value slice:Expr} {l:Addr} {i:Int} {xs:List Value} {x:Value} {Q:Value→j0→HP→Prop} (hs:∀ o j,subscripted slice false o j=operate [o,j] (getItem o j)) (hl:hp l=some (.list xs)) (h0:i < 0) (hi:-(xs.length:Int)≤i) (hsz:xs.length≤sizeLine) (hx:xs[(xs.length+i).toNat]?=some x) (h:Q x loc hp) :
  I1 C A g fr E (subscriptTail value slice) (.ref l) (.int i 0) loc hp Q:=by
 intro a b ha hb;refine o0 (S0 hb) fun t hR0=>?_;subst hR0;have:=Q0 ha;subst this
 intro s R S
 refine V0 (R.list hl) fun vs n e q=>?_
 refine z0 (X5 q hx) fun v hv hR0=>?_;subst hR0
 have hL:s.heap.IsList l vs:=⟨_,e,rfl,n,rfl⟩
 have hz:=M2 q
 rw [sizeLine_eq] at hsz
 have h63:-(2 ^ 63:Int)≤i:=by
  have h9:(-(2 ^ 63:Int))≤-16777216:=by decide
  exact Int.le_trans h9 (Int.le_trans (Int.neg_le_neg (Int.ofNat_le.mpr hsz)) hi)
 have e2:(i+(vs.size:Int)).toNat=(xs.length+i).toNat:=by exact wE hz
 exact tail_any hL.typeIs slot_list_getitem.lookup (wpAny_getItem_list_neg (x:=v) hL h0 (by exact wD hi hz) h63 (by rw [e2];exact hv) ⟨S,loc,hp,R,h⟩) (hs _ _)
theorem oJ {value slice:Expr} {l:Addr} {i:Int} {xs:List Value} {x:Value} {Q:Value→j0→HP→Prop} (hs:∀ o j,subscripted slice false o j=operate [o,j] (getItem o j)) (hl:hp l=some (.tuple xs)) (h0:0≤i) (hi:i < 2 ^ 63) (hx:xs[i.toNat]?=some x) (h:Q x loc hp) :
  I1 C A g fr E (subscriptTail value slice) (.ref l) (.int i 0) loc hp Q:=by
 intro a b ha hb;refine o0 (S0 hb) fun t hR0=>?_;subst hR0;have:=Q0 ha;subst this
 intro s R S
 refine V0 (R.tuple hl) fun vs n e q=>?_
 refine z0 (X5 q hx) fun v hv hR0=>?_;subst hR0
 have hk:seqIndex? i vs.size=some i.toNat:=by
  unfold seqIndex?
  have:=(Array.getElem?_eq_some_iff.mp hv).1
  simp only
  split <;> first | exact (jc h0 (by assumption)).elim | skip
  all_goals (simp;exact jb h0 this)
 exact tail_any (T:="tuple") ⟨_,e,rfl⟩ F.slot_tuple_getitem.lookup (P.getItem_tuple (n:=n) e (by exact ja h0 hi) hi hk hv ⟨S,loc,hp,R,h⟩) (hs _ _)
theorem EV {value slice:Expr} {pos:Pos} {Q:Value→j0→HP→Prop}
  (h:w0 C A g fr E (eval value fr.env) loc hp fun x l p=>w0 C A g fr E (eval slice fr.env) l p fun y l p=>I1 C A g fr E (subscriptTail value slice) x y l p Q) :
  w0 C A g fr E (eval (.Subscript value slice pos) fr.env) loc hp Q:=by
 refine N3 (eval_Subscript ..) (E0 (Z0 h fun o l p h₁=>E0 (N2 (Z0 h₁ fun i l p h₂=>E0 (U2 ?_)))))
 exact h₂ o i rfl rfl
theorem zG {f:Value} {Q:Value→j0→HP→Prop} (h:w0 C A g fr E (call f [] []) loc hp Q):M0 C A g fr E f [] [] loc hp Q:=by
 intro vs kw hv hk
 cases List.map_eq_nil_iff.mp hv
 cases List.map_eq_nil_iff.mp hk
 exact h
theorem I3 {f x:Value} {Q:Value→j0→HP→Prop} (h:∀ v,nm v=x→w0 C A g fr E (call f [v] []) loc hp Q):M0 C A g fr E f [x] [] loc hp Q:=fun vs kw hv hk=>mc vs hv fun v0 vs h0 hv=>mn vs hv (mn kw hk (h v0 h0))
theorem N5 {f x y:Value} {Q:Value→j0→HP→Prop} (h:∀ v u,nm v=x→nm u=y→w0 C A g fr E (call f [v,u] []) loc hp Q):M0 C A g fr E f [x,y] [] loc hp Q:=fun vs kw hv hk=>mc vs hv fun v0 vs h0 hv=>mc vs hv fun v1 vs h1 hv=>mn vs hv (mn kw hk (h v0 v1 h0 h1))
theorem G8 {f x y z:Value} {Q:Value→j0→HP→Prop} (h:∀ v u w,nm v=x→nm u=y→nm w=z→w0 C A g fr E (call f [v,u,w] []) loc hp Q):M0 C A g fr E f [x,y,z] [] loc hp Q:=fun vs kw hv hk=>mc vs hv fun v0 vs h0 hv=>mc vs hv fun v1 vs h1 hv=>mc vs hv fun v2 vs h2 hv=>mn vs hv (mn kw hk (h v0 v1 v2 h0 h1 h2))
theorem E6 {l:Addr} {xs:List Value} {Q:Value→j0→HP→Prop} (hl:hp l=some (.list xs)) (hsz:xs.length≤sizeLine) (h:Q (.int xs.length 0) loc hp):M0 C A g fr E (.builtin "len") [.ref l] [] loc hp Q:=I3 fun v hv=>by
 have:=Q0 hv;subst this
 intro s R S
 refine V0 (R.list hl) fun ws n e q=>?_
 have hL:s.heap.IsList l ws:=⟨_,e,rfl,n,rfl⟩
 have hz:=M2 q
 rw [sizeLine_eq] at hsz
 exact PyProof.Rows.len_list hL (by rw [hz];exact u3 hsz) ⟨S,loc,hp,R,by rw [←hz] at h;exact h⟩
end
end
section
noncomputable def C0 (p r:HP):HP:=fun b=>match p b with | some o=>some o | none=>r b
noncomputable def O1 (p r:HP):Prop:=∀ b,r b≠none→p b=none
theorem Z1 {p r:HP} {b:Addr} {o:AO} (h:p b=some o):C0 p r b=some o:=by unfold C0;rw [h]
theorem U1 {p r:HP} {b:Addr} {o:AO} (ha:O1 p r) (h:r b=some o):C0 p r b=some o:=by unfold C0;rw [ha b (by rw [h];exact fun e=>nomatch e)];exact h
section
variable {α:Type} {C:Cx} {A:Around} {g:Heap} {fr:Fm} {E:Value→Shared→Prop} {loc:j0} {hp:HP}
open Classical in
noncomputable def t9 (fr:Fm) (hp:HP):HP:=fun b=>if (hp b).isSome=true∨b=fr.env.locals∨∃ x,fr.own x=true∧fr.env.cells.lookup x=some b then some (.obj default) else none
theorem eC {fr:Fm} {hp:HP} {b:Addr} (h:(hp b).isSome=true∨b=fr.env.locals∨∃ x,fr.own x=true∧fr.env.cells.lookup x=some b):t9 fr hp b=some (.obj default):=if_pos h
theorem jM {fr:Fm} {hp:HP} {b:Addr} (h1:hp b=none) (h2:b≠fr.env.locals) (h3:∀ x,fr.own x=true→fr.env.cells.lookup x≠some b):t9 fr hp b=none:=
 if_neg (by
  rintro (q | q | ⟨x,q,z⟩)
  ·rw [h1] at q;exact Y5 q
  ·exact h2 q
  ·exact h3 x q z)
theorem cG {t:Sem α} {r:HP} {Q:α→j0→HP→Prop} (ha:O1 hp r) (h:∀ g',aw C A g' fr E t loc hp Q) :
  aw C A g fr E t loc (C0 hp r) fun a l p=>∃ p₀,p=C0 p₀ r∧O1 p₀ r∧Q a l p₀:=fun s R S=>by
 have gm:∀ b o,g.get? b=some o→(H1 s.heap (t9 fr hp)).get? b=some o:=fun b o e=>by
  rw [t4 (jM ?_ ?_ ?_)]
  ·exact R.keep b o e
  ·cases q:hp b with
   | none=>rfl
   | some a=>have:=(R.at_ b a (Z1 q)).1;rw [e] at this;exact B5 this
  ·rintro rfl;rw [R.nsn] at e;exact J0 e
  ·intro x w l;have:=R.cell x b w l;rw [e] at this;exact B5 this
 have R':F0 C.H₀ (H1 s.heap (t9 fr hp)) fr loc hp s.heap:={
  keep:=fun b o e=>(z6 e).1
  base:=fun b o e=>gm b o (R.base b o e)
  loc:=R.loc
  ns:=R.ns
  nsn:=P7 (eC (.inr (.inl rfl)))
  cell:=fun x c w l=>P7 (eC (.inr (.inr ⟨x,w,l⟩)))
  cne:=R.cne
  apart:=R.apart
  at_:=fun b ao e=>let ⟨_,b',c,d⟩:=R.at_ b ao (Z1 e);⟨P7 (eC (.inl (by rw [e];rfl))),b',c,d⟩}
 refine wpAny_mono (h _ s R' S) (fun a s' hZ0=>Q3 hZ0 fun S' l' p' R'' q=>?_) fun Z Z e=>e
 have ra:∀ b o,r b=some o→(H1 s.heap (t9 fr hp)).get? b=s.heap.get? b:=fun b o e=>by
  have e':=U1 ha e
  refine P1 (R.at_ b o e') fun Z h2 h3 Z=>?_
  exact t4 (jM (ha b (by rw [e];exact fun z=>nomatch z)) h2 fun x Z l=>h3 x b l rfl)
 have ap:O1 p' r:=fun b hb=>by
  cases hr:r b with
  | none=>exact absurd hr hb
  | some o=>
   cases q:p' b with
   | none=>rfl
   | some a=>
    have h1:=(R''.at_ b a q).1
    refine Q2 (R.at_ b o (U1 ha hr)) fun Z Z Z o' ho Z=>?_
    rw [ra b o hr,ho] at h1;exact B5 h1
 refine ⟨S',l',C0 p' r,⟨fun b o e=>R''.keep b o (gm b o e),R.base,R''.loc,R''.ns,R.nsn,R.cell,R''.cne,R.apart,fun b ao e=>?_⟩,p',rfl,ap,q⟩
 have gn:∀ b,(H1 s.heap (t9 fr hp)).get? b=none→g.get? b=none:=fun b e=>by
  cases z:g.get? b with
  | none=>rfl
  | some o=>rw [gm b o z] at e;exact B5 e
 unfold C0 at e
 cases z:p' b with
 | some o=>
  rw [z] at e;cases e
  refine B0 (R''.at_ b _ z) fun a1 a2=>?_
  exact ⟨gn b a1,a2⟩
 | none=>
  rw [z] at e
  refine Q2 (R.at_ b ao (U1 ha e)) fun h1 h2 h3 o ho hi=>?_
  exact ⟨h1,h2,h3,o,R''.keep b o (by rw [ra b ao e];exact ho),hi⟩
noncomputable def Gb (C:Cx) (A:Around) (g:Heap) (fr:Fm) (E:Value→Shared→Prop) (target:Expr) (it:Value) (l:j0) (p:HP) (Q:j0→HP→Prop):Prop:=
 aw C A g fr E (pyNext it) l p fun r l p=>∃ v,r=some v∧aw C A g fr E (letOwnedTupleGo target it v) l p fun Z l p=>aw C A g fr E (assign target fr.env v) l p fun Z l p=>Q l p
noncomputable def FW (C:Cx) (A:Around) (g:Heap) (fr:Fm) (E:Value→Shared→Prop) (it:Value) (l:j0) (p:HP) (Q:j0→HP→Prop):Prop:=
 aw C A g fr E (pyNext it) l p fun r l p=>r=none∧Q l p
noncomputable def K0:List Str→List Value→j0→j0
 | x::xs,v::vs,l=>K0 xs vs (N0 l x v)
 | _,_,l=>l
structure H6 (C:Cx) (A:Around) (target:Expr) (names:List Str) (it:Value) (vss:List (List Value)) (need:HP→Prop) (St:Nat→HP→Prop):Prop where
 adv:∀ i vs r p g fr E l Q,vss[i]?=some vs→St i r→need p→O1 p r→(∀ x∈names,M1 fr x)→(∀ r',St (i+1) r'→O1 p r'→Q (K0 names vs l) (C0 p r'))→Gb C A g fr E target it l (C0 p r) Q
 stp:∀ r p g fr E l Q,St vss.length r→need p→O1 p r→(∀ r',O1 p r'→Q l (C0 p r'))→FW C A g fr E it l (C0 p r) Q
 self:∀ i r p g fr E l Q,St i r→need p→O1 p r→Q it l (C0 p r)→aw C A g fr E (pyIter it) l (C0 p r) Q
 up:∀ p p':HP,(∀ b o,p b=some o→p' b=some o)→need p→need p'
theorem am (p r:HP):∀ b o,p b=some o→C0 p r b=some o:=fun Z Z e=>Z1 e
theorem nu {prog:Program} {w:World} {A:Around} {R:Result→Shared→Prop} {s:Shared} {target it body orelse env} (I:Nat→Shared→Prop)
  (turn:∀ n s,I n s→wpAny (model prog w) A (pyNext it) (fun r s₁=>match r with
   | none=>wpAny (model prog w) A (execs orelse env) (fun f s'=>R (.ok f) s') (notedBy (model prog w) A env fun e s'=>R (.error e) s') s₁
   | some v=>wpAny (model prog w) A (letOwnedTupleGo target it v) (fun Z s₂=>wpAny (model prog w) A (assign target env v) (fun Z s₂=>wpAny (model prog w) A (execs body env) (fun f s₃=>match f with
     | .next | .cont=>∃ m,m < n∧I m s₃
     | .brk=>R (.ok .next) s₃
     | .ret v=>R (.ok (.ret v)) s₃) (notedBy (model prog w) A env fun e s'=>R (.error e) s') s₂) (notedBy (model prog w) A env fun e s'=>R (.error e) s') s₂) (notedBy (model prog w) A env fun e s'=>R (.error e) s') s₁)
    (notedBy (model prog w) A env fun e s'=>R (.error e) s') s)
  (n:Nat) (h:I n s):codeAny (model prog w) A (.forLoop target it body orelse env) R s:=by
 refine codeAny_loop' rfl I (fun n s hI=>?_) n h
 show wpAny _ A ((forTurn target it body orelse env).onRaise (fun x=>do noteFrame x env;theTreesLotGoes x)) _ _ s
 refine wpAny_noted ?_
 simp -iota only [forTurn]
 refine wpAny_bind (wpAny_standAt (wpAny_bind (wpAny_onRaise (wpAny_mono (turn n s hI) (fun r s₁ h₁=>?_) fun Z Z h'=>wpAny_standAt h'))))
 cases r with
 | none=>exact wpAny_pure (.inr ⟨rfl,codeAny_block h₁⟩)
 | some v=>
  refine wpAny_bind (wpAny_mono h₁ (fun Z s₂ h₂=>wpAny_bind (wpAny_mono h₂ (fun Z s₂ h₂=>wpAny_bind (wpAny_mono h₂ (fun f s₃ h₃=>?_) fun Z Z h'=>h')) fun Z Z h'=>h')) fun Z Z h'=>h')
  cases f with
  | next=>exact wpAny_pure (.inl ⟨rfl,h₃⟩)
  | cont=>exact wpAny_pure (.inl ⟨rfl,h₃⟩)
  | brk=>exact wpAny_pure h₃
  | ret v=>exact wpAny_pure h₃
theorem Er {target:Expr} {names:List Str} {body orelse:List Stmt} {it:Value} {vss:List (List Value)} {need:HP→Prop} {St:Nat→HP→Prop} {r₀:HP} {Q:Flow→j0→HP→Prop}
  (W:H6 C A target names it vss need St) (hok:∀ x∈names,M1 fr x) (hst:St 0 r₀) (hap:O1 hp r₀) (Inv:Nat→j0→HP→Prop) (h0:Inv 0 loc hp) (hn:∀ i l p,Inv i l p→need p)
  (turn:∀ i vs l p g' E',vss[i]?=some vs→Inv i l p→I0 C A g' fr E' (execs body fr.env) (K0 names vs l) p fun f l p=>match f with
   | .next | .cont=>Inv (i+1) l p
   | .brk=>Q .next l p
   | .ret v=>Q (.ret v) l p)
  (fin:∀ l p g' E',Inv vss.length l p→I0 C A g' fr E' (execs orelse fr.env) l p Q) (s:Shared) (R:F0 C.H₀ g fr loc (C0 hp r₀) s.heap) (S:H2 C s) (E₁:Value→Shared→Prop) :
  codeAny (model C.prog C.w) A (.forLoop target it body orelse fr.env) (fun r s'=>match r with | .ok f=>H2 C s'∧∃ l p,F0 C.H₀ g fr l p s'.heap∧Q (jL f) l p | .error e=>E₁ e s') s:=by
 refine nu (fun k s'=>H2 C s'∧∃ i l p r,k=vss.length - i∧i≤vss.length∧F0 C.H₀ g fr l (C0 p r) s'.heap∧St i r∧O1 p r∧Inv i l p) ?_ vss.length ⟨S,0,loc,hp,r₀,rfl,Nat.zero_le _,R,hst,hap,h0⟩
 intro k s' hZ0;refine lH hZ0 fun S' i l p r hR0 hi zr0=>P1 zr0 fun R' hst' hap' hI=>?_;clear hZ0;subst hR0
 by_cases hlt:i < vss.length
 ·have hget:vss[i]?=some vss[i]:=List.getElem?_eq_getElem hlt
  have:=W.adv i _ r p g fr (notedBy (model C.prog C.w) A fr.env fun e s'=>E₁ e s') l (fun l' p'=>∃ r',St (i+1) r'∧O1 p r'∧l'=K0 names vss[i] l∧p'=C0 p r') hget hst' (hn i l p hI) hap' hok (fun r' a b=>⟨r',a,b,rfl,rfl⟩) s' R' S'
  refine wpAny_mono this (fun rr s₁ hZ0=>G7 hZ0 fun S₁ l₁ p₁ R₁ v e h₁=>?_) fun Z Z e=>e
  subst e
  refine wpAny_mono (h₁ s₁ R₁ S₁) (fun Z s₂ hZ0=>Q3 hZ0 fun S₂ l₂ p₂ R₂ h₂=>?_) fun Z Z e=>e
  refine wpAny_mono (h₂ s₂ R₂ S₂) (fun Z s₃ hZ0=>fe hZ0 fun r' S₃ R₃ hst₃ hap₃=>?_) fun Z Z e=>e
  have tb:=cG (C:=C) (A:=A) (g:=g) (fr:=fr) (E:=notedBy (model C.prog C.w) A fr.env fun e s'=>E₁ e s') hap₃ (fun g'=>turn i _ l p g' _ hget hI)
  refine wpAny_mono (tb s₃ R₃ S₃) (fun f s₄ hZ0=>lJ hZ0 fun l₄ p₅ S₄ R₄ hap₅ q=>?_) fun Z Z e=>e
  cases f with
  | next=>exact ⟨vss.length - (i+1),by exact C8 hlt,S₄,i+1,l₄,p₅,r',rfl,hlt,R₄,hst₃,hap₅,q⟩
  | cont=>exact ⟨vss.length - (i+1),by exact C8 hlt,S₄,i+1,l₄,p₅,r',rfl,hlt,R₄,hst₃,hap₅,q⟩
  | brk=>exact ⟨S₄,l₄,p₅,R₄.forget (fun Z Z e=>e) (am _ _),q⟩
  | ret v=>exact ⟨S₄,l₄,p₅,R₄.forget (fun Z Z e=>e) (am _ _),q⟩
 ·have hin:i=vss.length:=by exact T7 hi hlt
  subst hin
  have:=W.stp r p g fr (notedBy (model C.prog C.w) A fr.env fun e s'=>E₁ e s') l (fun l' p'=>l'=l∧∃ r',p'=C0 p r') hst' (hn _ l p hI) hap' (fun r' Z=>⟨rfl,r',rfl⟩) s' R' S'
  refine wpAny_mono this (fun rr s₁ hZ0=>fg hZ0 fun l₁ r' S₁ R₁ e e1=>?_) fun Z Z e=>e
  subst e;subst e1
  exact fin l₁ p g _ hI s₁ (R₁.forget (fun Z Z e=>e) (am _ _)) S₁
noncomputable def Ga (C:Cx) (A:Around) (target:Expr) (names:List Str) (x:Value) (vss:List (List Value)) (need:HP→Prop) (r₁:HP):Prop:=
 ∀ g fr E l p x' (Q:Value→j0→HP→Prop),nm x'=x→need p→O1 p r₁→(∀ it St r₀,H6 C A target names it vss need St→St 0 r₀→O1 p r₀→Q it l (C0 p r₀))→aw C A g fr E (pyIter x') l (C0 p r₁) Q
noncomputable def i3 (C:Cx) (A:Around) (target:Expr) (names:List Str) (x:Value) (l:j0) (p:HP) (K:List (List Value)→(HP→Prop)→j0→HP→Prop):Prop:=
 ∃ vss need r₁ p₀,p=C0 p₀ r₁∧need p₀∧O1 p₀ r₁∧Ga C A target names x vss need r₁∧K vss need l p₀
theorem Et {target iter:Expr} {names:List Str} {body orelse:List Stmt} {pos:Pos} {Q:Flow→j0→HP→Prop} (hfs:∀ x,foldedSetIterable iter fr.env x=pure x) (hok:∀ x∈names,M1 fr x)
  (h:w0 C A g fr E (eval iter fr.env) loc hp fun x l p=>i3 C A target names x l p fun vss need l p=>
   ∃ Inv:Nat→j0→HP→Prop,Inv 0 l p∧(∀ i l p,Inv i l p→need p)∧
    (∀ i vs l p g' E',vss[i]?=some vs→Inv i l p→I0 C A g' fr E' (execs body fr.env) (K0 names vs l) p fun f l p=>match f with
     | .next | .cont=>Inv (i+1) l p
     | .brk=>Q .next l p
     | .ret v=>Q (.ret v) l p)∧(∀ l p g' E',Inv vss.length l p→I0 C A g' fr E' (execs orelse fr.env) l p Q)) :
  I0 C A g fr E (exec (.For target iter body orelse pos) fr.env) loc hp Q:=fun s R S=>by
 refine wpAny_For (wpAny_mono (h s R S) (fun x s₁ hZ0=>lK hZ0 fun l₁ vss need r₁ p₀ S₁ R₁ zr0=>Dj zr0 fun hnd hap hit Inv h0 hn turn fin=>?_) fun Z Z e=>e) hfs
 have:=hit g fr E l₁ p₀ x (fun it l p=>∃ St r₀,l=l₁∧p=C0 p₀ r₀∧H6 C A target names it vss need St∧St 0 r₀∧O1 p₀ r₀) rfl hnd hap (fun it St r₀ W hst hap=>⟨St,r₀,rfl,rfl,W,hst,hap⟩) s₁ R₁ S₁
 refine wpAny_mono this (fun it s₂ hZ0=>fc hZ0 fun l₂ St r₀ S₂ R₂ e1 zr0=>V1 zr0 fun W hst hap=>?_) fun Z Z e=>e
 subst e1
 exact Er W hok hst hap Inv h0 hn turn fin s₂ R₂ S₂ _
end
end
section
noncomputable def B2:HP:=fun Z=>none
theorem k5 (p:HP):C0 p B2=p:=by funext b;delta C0 B2;cases p b <;> rfl
theorem E4 (p:HP):O1 p B2:=fun b h=>absurd rfl h
theorem U4 {p r:HP} {a:Addr} {o:AO} (h:p a=none):k0 (C0 p r) a o=C0 p (k0 r a o):=by
 funext b
 unfold k0 C0
 by_cases hb:b=a
 ·subst hb;simp [h]
 ·simp [hb]
theorem C4 {p r:HP} {a:Addr} {o:AO} (h:O1 p r) (ha:p a=none):O1 p (k0 r a o):=fun b hb=>by
 by_cases e:b=a
 ·subst e;exact ha
 ·exact h b (by rwa [H0 _ _ e] at hb)
theorem M8 {p r:HP} {a:Addr} {o:AO}:C0 (k0 p a o) r=k0 (C0 p r) a o:=by
 funext b
 unfold k0 C0
 by_cases hb:b=a
 ·subst hb;simp
 ·simp [hb]
theorem al {hp:HP} {a:Addr} {o:AO} (h:hp a=none):∀ b ao,hp b=some ao→k0 hp a o b=some ao:=fun b ao e=>E1 h e
theorem X6 {hp:HP} {a:Addr} {o o':AO}:k0 (k0 hp a o) a o'=k0 hp a o':=by
 funext b;unfold k0;by_cases e:b=a <;> simp [e]
theorem CD {hp:HP} {a b:Addr} {o o':AO} (h:a≠b):k0 (k0 hp a o) b o'=k0 (k0 hp b o') a o:=by
 funext c;unfold k0
 by_cases e:c=a
 ·subst e;simp [h]
 ·simp [e]
noncomputable def X0 (a:Addr) (i:Nat):AO:=.sat fun o=>o.cls=.type "list_iterator"∧o.data=.fields #[.ref a,.int i 0]
noncomputable def Z7 (e it:Addr) (i:Int) (f0 old:Value):AO:=.obj {cls:=.type "enumerate",dict:=none,data:=.fields #[f0,.bool false,.ref it,rawInt i,.none,old],slots:=#[]}
noncomputable def V5 (x left step:Int):AO:=.obj {cls:=.type "range_iterator",dict:=none,data:=.fields #[rawInt x,rawInt left,rawInt step],slots:=#[]}
noncomputable def M6 (a b c:Int):AO:=.sat fun o=>∃ t u v,o={cls:=.type "range",dict:=none,data:=.fields #[.int a t,.int b u,.int c v],slots:=#[]}
section
variable {α:Type} {C:Cx} {A:Around} {g:Heap} {fr:Fm} {E:Value→Shared→Prop} {loc:j0} {hp:HP}
theorem F0.iter {H₀ h:Heap} {I a:Addr} {i:Nat} (R:F0 H₀ g fr loc hp h) (hI:hp I=some (X0 a i)):h.IsListIter I a i:=by
 refine Dl (R.at_ I _ hI) fun Z Z Z o ho hc hd=>?_
 exact ⟨o,ho,hc,hd⟩
theorem F0.obj {H₀ h:Heap} {I:Addr} {o:Obj} (R:F0 H₀ g fr loc hp h) (hI:hp I=some (.obj o)):h.get? I=some o:=by
 refine Q2 (R.at_ I _ hI) fun Z Z Z o' ho e=>?_
 cases e
 exact ho
theorem F0.drop1 {H₀ h h':Heap} {I:Addr} {ao:AO} {hp':HP} (R:F0 H₀ g fr loc hp h) (hI:hp I=some ao) (hx:Heap.ExtBut I h h') (hs:∀ b o,hp' b=some o→b≠I∧hp b=some o):F0 H₀ g fr loc hp' h':=by
 refine R.step (W:=fun b=>b=I) (fun b hb=>?_) (fun b o hb e=>hx b o hb e) fun b ao e=>?_
 ·subst hb;exact ⟨_,hI⟩
 ·refine B0 (hs b ao e) fun hb q=>?_
  refine Q2 (R.at_ b ao q) fun Z Z Z o ho hi=>?_
  exact ⟨.inl ⟨_,q⟩,o,hx b o hb ho,hi⟩
theorem aD {t:Sem α} {Q:α→j0→HP→Prop} (h:aw C A g fr E t loc hp fun a l p=>∃ p',(∀ b o,p' b=some o→p b=some o)∧Q a l p'):aw C A g fr E t loc hp Q:=fun s R S=>
 wpAny_mono (h s R S) (fun Z Z hZ0=>G7 hZ0 fun S' l p R' p' hw q=>⟨S',l,p',R'.forget (fun Z Z e=>e) hw,q⟩) fun Z Z e=>e
theorem cH (hh:A.handled=none) {T:Addr} {a b:Value} {x y:Str} {px py pos:Pos} {k} {Q:Unit→j0→HP→Prop} (hT:hp T=some (.tuple [a,b])) (hx:M1 fr x) (hy:M1 fr y) (h:Q () (N0 (N0 loc x a) y b) hp) :
  aw C A g fr E (assign (.Tuple [.Name x px,.Name y py] k pos) fr.env (.ref T)) loc hp Q:=fun s R S=>by
 refine V0 (R.tuple hT) fun vs n e q=>?_
 have h1:vs.toList.length=2:=by simpa using congrArg List.length q
 refine (T6 h1).elim fun u h1=>h1.elim fun v hv=>?_
 rw [hv] at q
 injection q with q1 q2
 injection q2 with q2 _
 subst q1;subst q2
 refine wpAny_assign_Tuple hh (items:=vs) ⟨_,e,rfl,n,rfl⟩ (by simp only [←Array.length_toList,hv];rfl) rfl fun h' hx'=>?_
 have R':=R.keeps (h':=h') fun b o e=>hx' b o (Nat.ne_of_lt (Heap.lt_size e)) e
 simp only [hv]
 show wpAny _ A (do holding [v] (assign (.Name x px) fr.env u);do holding [] (assign (.Name y py) fr.env v);pure ()) _ _ _
 have:=E0 (C:=C) (A:=A) (g:=g) (fr:=fr) (E:=E) (loc:=loc) (hp:=hp) (Q:=Q) (N2 (vs:=[v]) (m:=assign (.Name x px) fr.env u)
  (Q:=fun Z l p=>aw C A g fr E (do holding [] (assign (.Name y py) fr.env v);pure ()) l p Q) (F6 hx (E0 (N2 (F6 hy (N1 h))))))
 exact this _ R' S
theorem cU (hh:A.handled=none) {a I:Addr} {xs:List Value} {x:Str} {px:Pos}:H6 C A (.Name x px) [x] (.ref I) (xs.map fun v=>[v]) (fun p=>p a=some (.list xs)) fun i r=>r=k0 B2 I (X0 a i) where
 adv:=by
  rintro i vs r p g fr E l Q hv rfl hnd hap hok hQ s R S
  rw [List.getElem?_map] at hv
  refine z0 (Option.map_eq_some_iff.mp hv) fun v hv2 hR0=>?_;subst hR0
  refine V0 (R.list (Z1 hnd)) fun us n e q=>?_
  refine z0 (X5 q hv2) fun u hu hR0=>?_;subst hR0
  have hI:C0 p (k0 B2 I (X0 a i)) I=some (X0 a i):=U1 hap (s0 ..)
  have pI:p I=none:=hap I (by rw [s0];exact fun e=>nomatch e)
  refine wpAny_pyNext_list_item (R.iter hI) ⟨_,e,rfl,n,rfl⟩ hu fun h' hit' hs'=>⟨S,l,C0 p (k0 B2 I (X0 a (i+1))),?_,u,rfl,?_⟩
  ·refine J2 hit' fun o ho hc hd=>?_;try clear hit'
   have:=R.chg hI hs'.extBut ho (ao':=X0 a (i+1)) ⟨hc,hd⟩
   rwa [U4 pI,X6] at this
  ·exact fx (a:=()) rfl (F6 (hok x (.head _)) (hQ _ rfl (C4 (E4 _) pI)))
 stp:=by
  rintro r p g fr E l Q rfl hnd hap hQ s R S
  refine V0 (R.list (Z1 hnd)) fun us n e q=>?_
  have hI:C0 p (k0 B2 I (X0 a (xs.map fun v=>[v]).length)) I=some (X0 a (xs.map fun v=>[v]).length):=U1 hap (s0 ..)
  have pI:p I=none:=hap I (by rw [s0];exact fun e=>nomatch e)
  refine wpAny_pyNext_list_end hh (R.iter hI) ⟨_,e,rfl,n,rfl⟩ (by rw [List.length_map,←M2 q];simp) fun h' hx=>⟨S,l,C0 p B2,?_,rfl,hQ _ (E4 _)⟩
  rw [k5]
  exact R.drop1 hI hx fun b o e=>⟨(by rintro rfl;rw [pI] at e;exact J0 e),Z1 e⟩
 self:=by
  rintro i r p g fr E l Q rfl hnd hap hQ s R S
  exact wpAny_pyIter_listiter (R.iter (U1 hap (s0 ..))) ⟨S,l,_,R,hQ⟩
 up:=fun p p' h e=>h _ _ e
theorem bT (hh:A.handled=none) {a:Addr} {xs:List Value} {x:Str} {px:Pos} {K:List (List Value)→(HP→Prop)→j0→HP→Prop} (ha:hp a=some (.list xs))
  (h:K (xs.map fun v=>[v]) (fun p=>p a=some (.list xs)) loc hp):i3 C A (.Name x px) [x] (.ref a) loc hp K:=
 ⟨_,_,B2,hp,(k5 _).symm,ha,E4 _,fun g fr E l p x' Q hx hnd Z hQ s R S=>by
  simp only [Q0 hx]
  refine V0 (R.list (Z1 hnd)) fun us n e q=>?_
  refine wpAny_pyIter_list ⟨_,e,rfl,n,rfl⟩ ⟨S,l,C0 p (k0 B2 s.heap.objs.size (X0 a 0)),?_,hQ _ _ _ (cU hh) rfl (C4 (E4 _) ?_)⟩
  ·have:=R.alloc (ao:=X0 a 0) (o:={cls:=.type "list_iterator",data:=.fields #[.ref a,.int 0 0]}) rfl ⟨rfl,rfl⟩
   rw [k5] at this R
   rwa [←U4 R.none_at,k5]
  ·rw [k5] at R;exact R.none_at,h⟩
theorem oS (hh:A.handled=none) {a I:Addr} {ts:List Addr} {ps:List (Value × Value)} {x y:Str} {px py pos:Pos} {k} :
  H6 C A (.Tuple [.Name x px,.Name y py] k pos) [x,y] (.ref I) (ps.map fun v:Value × Value=>[v.1,v.2]) (fun p=>p a=some (.list (ts.map .ref))∧ts.length=ps.length∧∀ (i:Nat) (T:Addr) (v:Value × Value),ts[i]?=some T→ps[i]?=some v→p T=some (.tuple [v.1,v.2])) fun i r=>r=k0 B2 I (X0 a i) where
 adv:=by
  rintro i vs r p g fr E l Q hv rfl ⟨hnd,hln,hts⟩ hap hok hQ s R S
  rw [List.getElem?_map] at hv
  refine z0 (Option.map_eq_some_iff.mp hv) fun v hv2 hR0=>?_;subst hR0
  refine V0 (R.list (Z1 hnd)) fun us n e q=>?_
  have hi:i < ts.length:=by rw [hln];exact (List.getElem?_eq_some_iff.mp hv2).1
  have hTi:ts[i]?=some ts[i]:=List.getElem?_eq_getElem hi
  refine z0 (X5 (x:=.ref ts[i]) (i:=i) q (by simp only [List.getElem?_map,hTi];rfl)) fun u hu hu'=>?_
  have:=Q0 hu';subst this
  have hI:C0 p (k0 B2 I (X0 a i)) I=some (X0 a i):=U1 hap (s0 ..)
  have pI:p I=none:=hap I (by rw [s0];exact fun e=>nomatch e)
  refine wpAny_pyNext_list_item (R.iter hI) ⟨_,e,rfl,n,rfl⟩ hu fun h' hit' hs'=>⟨S,l,C0 p (k0 B2 I (X0 a (i+1))),?_,_,rfl,?_⟩
  ·refine J2 hit' fun o ho hc hd=>?_;try clear hit'
   have:=R.chg hI hs'.extBut ho (ao':=X0 a (i+1)) ⟨hc,hd⟩
   rwa [U4 pI,X6] at this
  ·have ap':O1 p (k0 B2 I (X0 a (i+1))):=C4 (E4 _) pI
   intro s₂ R₂ S₂
   refine wpAny_letOwnedTupleGo_listiter (R₂.iter (U1 ap' (s0 ..))) ⟨S₂,l,_,R₂,?_⟩
   exact cH hh (Z1 (hts i _ v hTi hv2)) (hok x (.head _)) (hok y (.tail _ (.head _))) (hQ _ rfl ap')
 stp:=fun r p g fr E l Q e hnd hap hQ=>by
  subst e
  have hl:(ps.map fun v:Value × Value=>[v.1,v.2]).length=((ts.map Value.ref).map fun v=>[v]).length:=by simp [hnd.2.1]
  refine (cU (C:=C) (x:=x) (px:=px) (xs:=ts.map .ref) hh).stp _ p g fr E l Q ?_ hnd.1 hap hQ
  rw [hl]
 self:=fun i r p g fr E l Q e hnd hap hQ=>(cU (C:=C) (x:=x) (px:=px) hh).self i r p g fr E l Q e hnd.1 hap hQ
 up:=fun p p' h e=>⟨h _ _ e.1,e.2.1,fun i T v a b=>h _ _ (e.2.2 i T v a b)⟩
theorem eJ (hh:A.handled=none) {a:Addr} {ts:List Addr} {ps:List (Value × Value)} {x y:Str} {px py pos:Pos} {k} {K:List (List Value)→(HP→Prop)→j0→HP→Prop} (ha:hp a=some (.list (ts.map .ref)))
  (hln:ts.length=ps.length) (hts:∀ (i:Nat) (T:Addr) (v:Value × Value),ts[i]?=some T→ps[i]?=some v→hp T=some (.tuple [v.1,v.2]))
  (h:K (ps.map fun v:Value × Value=>[v.1,v.2]) (fun p=>p a=some (.list (ts.map .ref))∧ts.length=ps.length∧∀ (i:Nat) (T:Addr) (v:Value × Value),ts[i]?=some T→ps[i]?=some v→p T=some (.tuple [v.1,v.2])) loc hp) :
  i3 C A (.Tuple [.Name x px,.Name y py] k pos) [x,y] (.ref a) loc hp K:=
 ⟨_,_,B2,hp,(k5 _).symm,⟨ha,hln,hts⟩,E4 _,fun g fr E l p x' Q hx hnd Z hQ s R S=>by
  simp only [Q0 hx]
  refine V0 (R.list (Z1 hnd.1)) fun us n e q=>?_
  refine wpAny_pyIter_list ⟨_,e,rfl,n,rfl⟩ ⟨S,l,C0 p (k0 B2 s.heap.objs.size (X0 a 0)),?_,hQ _ _ _ (oS hh) rfl (C4 (E4 _) ?_)⟩
  ·have:=R.alloc (ao:=X0 a 0) (o:={cls:=.type "list_iterator",data:=.fields #[.ref a,.int 0 0]}) rfl ⟨rfl,rfl⟩
   rw [k5] at this R
   rwa [←U4 R.none_at,k5]
  ·rw [k5] at R;exact R.none_at,h⟩
noncomputable def O0 (a b:Int):List Int:=(List.range (b - a).toNat).map fun i=>a+(i:Nat)
theorem oR (hh:A.handled=none) {I:Addr} {a b:Int} {x:Str} {px:Pos}:H6 C A (.Name x px) [x] (.ref I) ((O0 a b).map fun v=>[.int v 0]) (fun Z=>True) fun i r=>r=k0 B2 I (V5 (a+(i:Nat)) ((O0 a b).length - (i:Nat)) 1) where
 adv:=by
  rintro i vs r p g fr E l Q hv rfl hnd hap hok hQ s R S
  rw [List.getElem?_map] at hv
  refine z0 (Option.map_eq_some_iff.mp hv) fun v hv2 hR0=>?_;subst hR0
  have hi:=(List.getElem?_eq_some_iff.mp hv2).1
  have hv':v=a+(i:Nat):=by
   unfold O0 at hv2 hi
   rw [List.length_map,List.length_range] at hi
   rw [List.getElem?_map,List.getElem?_range hi] at hv2
   cases hv2;rfl
  subst hv'
  have hI:C0 p (k0 B2 I (V5 (a+(i:Nat)) ((O0 a b).length - (i:Nat)) 1)) I=some _:=U1 hap (s0 ..)
  have pI:p I=none:=hap I (by rw [s0];exact fun e=>nomatch e)
  refine wpAny_pyNext_range_item (R.obj hI) (by exact pF hi) fun h' hit' hs'=>⟨S,l,C0 p (k0 B2 I (V5 (a+((i+1:Nat):Int)) ((O0 a b).length - ((i+1:Nat):Int)) 1)),?_,_,rfl,?_⟩
  ·have:=R.chg hI hs'.extBut hit' (ao':=.obj _) rfl
   rw [U4 pI,X6] at this
   have e1:a+((i+1:Nat):Int)=a+(i:Int)+1:=by exact pE
   have e2:((O0 a b).length:Int) - ((i+1:Nat):Int)=((O0 a b).length:Int) - (i:Int) - 1:=by exact pD
   rw [e1,e2];exact this
  ·exact fx (a:=()) rfl (F6 (hok x (.head _)) (hQ _ rfl (C4 (E4 _) pI)))
 stp:=by
  rintro r p g fr E l Q rfl hnd hap hQ s R S
  have hI:=U1 hap (s0 B2 I (V5 (a+(((O0 a b).map fun v=>[(.int v 0:Value)]).length:Nat)) ((O0 a b).length - (((O0 a b).map fun v=>[(.int v 0:Value)]).length:Nat)) 1))
  have pI:p I=none:=hap I (by rw [s0];exact fun e=>nomatch e)
  refine wpAny_pyNext_range_end hh (R.obj hI) (by rw [List.length_map];exact pC) fun h' hx=>⟨S,l,C0 p B2,?_,rfl,hQ _ (E4 _)⟩
  rw [k5]
  exact R.drop1 hI hx fun b o e=>⟨(by rintro rfl;rw [pI] at e;exact J0 e),Z1 e⟩
 self:=by
  rintro i r p g fr E l Q rfl hnd hap hQ s R S
  exact wpAny_pyIter_rangeiter (R.obj (U1 hap (s0 ..))) ⟨S,l,_,R,hQ⟩
 up:=fun Z Z Z Z=>trivial
theorem k6 {b:Int} {Q:Value→j0→HP→Prop} (h:∀ r,hp r=none→Q (.ref r) loc (k0 hp r (M6 0 b 1))):M0 C A g fr E (.type "range") [.int b 0] [] loc hp Q:=I3 fun v hv=>by
 refine o0 (S0 hv) fun t hR0=>?_;subst hR0
 exact fun s R S=>call_range_1 ⟨S,loc,_,R.alloc (ao:=M6 0 b 1) rfl ⟨_,_,_,rfl⟩,h _ R.none_at⟩
theorem aB {a b:Int} {Q:Value→j0→HP→Prop} (h:∀ r,hp r=none→Q (.ref r) loc (k0 hp r (M6 a b 1))):M0 C A g fr E (.type "range") [.int a 0,.int b 0] [] loc hp Q:=N5 fun v u hv hu=>by
 refine o0 (S0 hv) fun t hR0=>?_;subst hR0
 refine o0 (S0 hu) fun t' hR0=>?_;subst hR0
 exact fun s R S=>call_range_2 ⟨S,loc,_,R.alloc (ao:=M6 a b 1) rfl ⟨_,_,_,rfl⟩,h _ R.none_at⟩
theorem j5 (hh:A.handled=none) {r:Addr} {a b:Int} {x:Str} {px:Pos} {K:List (List Value)→(HP→Prop)→j0→HP→Prop} (hr:hp r=none) (ha:-1000000 < a∧a < 1000000) (hb:-1000000 < b∧b < 1000000)
  (h:K ((O0 a b).map fun v=>[.int v 0]) (fun Z=>True) loc hp):i3 C A (.Name x px) [x] (.ref r) loc (k0 hp r (M6 a b 1)) K:=by
 refine ⟨_,_,k0 B2 r (M6 a b 1),hp,by rw [←U4 hr,k5],trivial,C4 (E4 _) hr,fun g fr E l p x' Q hx hnd hap hQ s R S=>?_,h⟩
 simp only [Q0 hx]
 have hpr:p r=none:=hap r (by rw [s0];exact fun e=>nomatch e)
 refine lL (R.at_ r _ (U1 hap (s0 ..))) fun t u v Z Z Z ho=>?_
 have hsz:=PySem.rangeSize_one a b
 have hsm:Builtin.Range.small a b 1=true:=by
  have f:∀ z:Int,-4000000 < z→z < 4000000→Builtin.Range.rangeFitsLong z=true:=fun z h1 h2=>by
   unfold Builtin.Range.rangeFitsLong
   simp only [decide_eq_true_eq,Bool.and_eq_true]
   exact nV h1 h2
  unfold Builtin.Range.small
  have g0:Builtin.Range.rangeFitsLong (Builtin.Range.rangeSize a b 1)=true:=f _ (by rw [hsz];split;(exact Int.lt_trans (by decide) (Int.sub_pos_of_lt (by assumption)));decide) (by rw [hsz];split;(exact Int.lt_trans (Int.sub_lt_sub hb.2 ha.1) (by decide));decide)
  have g1:Builtin.Range.rangeFitsLong (b+(1 - 1))=true:=f _ (by exact pB hb) (by exact pA hb)
  rw [f a (Int.lt_trans (by decide) ha.1) (Int.lt_trans ha.2 (by decide)),f b (Int.lt_trans (by decide) hb.1) (Int.lt_trans hb.2 (by decide)),f 1 (by decide) (by decide),g0,if_pos (by decide),g1]
  simp
 refine wpAny_pyIter_range ho hsm ⟨S,l,C0 p (k0 B2 s.heap.objs.size (V5 (a+(0:Nat)) ((O0 a b).length - (0:Nat)) 1)),?_,hQ _ _ _ (oR hh) rfl (C4 (E4 _) ?_)⟩
 ·have:=R.alloc (ao:=V5 (a+(0:Nat)) ((O0 a b).length - (0:Nat)) 1) (o:={cls:=.type "range_iterator",data:=.fields #[rawInt a,rawInt (Builtin.Range.rangeSize a b 1),rawInt 1]}) rfl (by
   show Obj.mk _ _ _ _=Obj.mk _ _ _ _
   have:((O0 a b).length:Int) - (0:Nat)=Builtin.Range.rangeSize a b 1:=by
    unfold O0;simp only [hsz];simp only [List.length_map,List.length_range];split;(exact nU (by assumption));exact nR (by assumption)
   rw [this];simp)
  refine this.forget (fun Z Z e=>e) fun b ao e=>?_
  rw [←U4 ?_,k5] at e
  ·unfold k0 at e ⊢
   by_cases hb:b=s.heap.objs.size
   ·rwa [if_pos hb] at e ⊢
   ·rw [if_neg hb] at e ⊢;exact Z1 e
  ·cases q:p s.heap.objs.size with
   | none=>rfl
   | some o=>exact absurd (R.lt_of_hp (Z1 q)) (Nat.lt_irrefl _)
 ·cases q:p s.heap.objs.size with
  | none=>rfl
  | some o=>exact absurd (R.lt_of_hp (Z1 q)) (Nat.lt_irrefl _)
end
end
section
noncomputable def I5 (scope sc:Scope):Scope:=
 {scope with names:=scope.names.map fun (n,k)=>if (k == .free && sc.kind == .function && sc.names.lookup n == some .cell) then (n,.cell) else (n,k)}
theorem gr {scope sc:Scope} {env:Env} (h:env.scope=sc):relabel scope env=I5 scope sc:=by subst h;rfl
noncomputable def W5 (scope:Scope):Str→Bool:=fun x=>scope.names.lookup x == some .cell
open Classical in
noncomputable def J1 (scope:Scope) (loc:j0):j0:=fun x=>if scope.names.lookup x=some .free then loc x else none
theorem DI {scope:Scope} {loc:j0} {x:Str} {v:Value} (h:scope.names.lookup x=some .free) (e:loc x=some v):J1 scope loc x=some v:=(if_pos h).trans e
theorem bD {scope:Scope} {loc:j0} {x:Str} {v:Value} (e:J1 scope loc x=some v):scope.names.lookup x=some .free∧loc x=some v:=by
 unfold J1 at e
 split at e
 ·exact ⟨‹_›,e⟩
 ·exact J0 e
noncomputable def z5 (cells:List (Str × Addr)):List (Str × NameKind)→List (Str × Addr)→List (Str × Addr)
 | [],acc=>acc
 | (n,k)::r,acc=>if k == .free then z5 cells r ((n,(cells.lookup n).getD 0)::acc) else z5 cells r acc
theorem eP {env:Env} (f:Str × NameKind→List (Str × Addr)→Sem (ForInStep (List (Str × Addr))))
  (hf:∀ n k cs,f (n,k) cs=if k == .free then (do let c ←cellOf env n;pure (.yield ((n,c)::cs))) else pure (.yield cs)) :
  ∀ (names:List (Str × NameKind)) (acc:List (Str × Addr)),(∀ x∈names,x.2=.free→(env.cells.lookup x.1).isSome=true)→forIn names acc f=pure (z5 env.cells names acc)
 | [],acc,_=>by simp only [List.forIn_nil];rfl
 | (n,k)::r,acc,h=>by
  have hr:∀ x∈r,x.2=.free→(env.cells.lookup x.1).isSome=true:=fun x hx=>h x (List.mem_cons_of_mem _ hx)
  rw [List.forIn_cons,hf]
  dsimp only [z5]
  by_cases hk:(k == NameKind.free)=true
  ·simp only [if_pos hk,if_pos hk]
   refine o0 (Option.isSome_iff_exists.mp (h (n,k) (.head _) (by simpa using hk))) fun c hc=>?_
   unfold cellOf
   rw [hc]
   simp -iota only [pure_bind,Option.getD_some]
   exact eP f hf r _ hr
  ·rw [if_neg hk,if_neg hk]
   simp only [pure_bind]
   exact eP f hf r _ hr
theorem DS {scope:Scope} {env:Env} (h:∀ x∈scope.names,x.2=.free→(env.cells.lookup x.1).isSome=true):closureFor scope env=pure (z5 env.cells scope.names []):=by
 show (forIn scope.names ([]:List (Str × Addr)) _ >>= fun cs=>pure cs)=_
 rw [eP (env:=env) _ (fun n k cs=>by cases hk:k == NameKind.free <;> simp [hk]) scope.names [] h]
 rfl
theorem cz (cells:List (Str × Addr)):∀ (names:List (Str × NameKind)) (acc:List (Str × Addr)),z5 cells names acc=z5 cells names []++acc
 | [],acc=>rfl
 | (n,k)::r,acc=>by
  dsimp only [z5]
  split
  ·simp only [cz cells r (_::acc),cz cells r [_],List.append_assoc];rfl
  ·exact cz cells r acc
theorem R8:∀ (names:List (Str × NameKind)) (n:Nat) (acc:List (Str × Addr)),cellsFrom n names acc=cellsFrom n names []++acc
 | [],n,acc=>rfl
 | (x,k)::r,n,acc=>by
  dsimp only [cellsFrom]
  split
  ·simp only [R8 r (n+1) (_::acc),R8 r (n+1) [_],List.append_assoc];rfl
  ·exact R8 r n acc
theorem s9 (cells:List (Str × Addr)):∀ (names:List (Str × NameKind)) {x:Str} {c:Addr},(x,c)∈z5 cells names []↔(x,NameKind.free)∈names∧c=(cells.lookup x).getD 0
 | [],x,c=>by simp [z5]
 | (n,k)::r,x,c=>by
  dsimp only [z5]
  split
  ·rename_i hk
   have hk':k=.free:=by simpa using hk
   subst hk'
   rw [cz,List.mem_append,s9 cells r]
   simp only [List.mem_cons,List.not_mem_nil,or_false,Prod.mk.injEq,and_true]
   constructor
   ·rintro (⟨a,b⟩ | ⟨rfl,b⟩)
    ·exact ⟨.inr a,b⟩
    ·exact ⟨.inl rfl,b⟩
   ·rintro ⟨rfl | a,b⟩
    ·exact .inr ⟨rfl,b⟩
    ·exact .inl ⟨a,b⟩
  ·rename_i hk
   have hk':¬NameKind.free=k:=fun e=>hk (by rw [←e];rfl)
   rw [s9 cells r]
   simp [hk']
theorem bI:∀ (names:List (Str × NameKind)) (n:Nat) {x:Str} {c:Addr},(x,c)∈cellsFrom n names []→(x,NameKind.cell)∈names
 | [],n,x,c,h=>by simp [cellsFrom] at h
 | (y,k)::r,n,x,c,h=>by
  unfold cellsFrom at h
  split at h
  ·rename_i hk
   have hk':k=.cell:=by simpa using hk
   subst hk'
   rw [R8,List.mem_append] at h
   rcases h with h | h
   ·exact .tail _ (bI r _ h)
   ·simp at h;rw [h.1];exact .head _
  ·exact .tail _ (bI r _ h)
theorem bL {α:Type}:∀ {l₁ l₂:List (Str × α)} {x:Str},(l₁++l₂).lookup x=match l₁.lookup x with | some c=>some c | none=>l₂.lookup x
 | [],l₂,x=>rfl
 | (k,v)::r,l₂,x=>by
  simp only [List.cons_append,List.lookup_cons,List.lookup_cons]
  cases x == k
  ·exact bL
  ·rfl
theorem eE {α:Type}:∀ {l:List (Str × α)} {x:Str} {c:α},(x,c)∈l→∃ d,l.lookup x=some d
 | (k,v)::r,x,c,h=>by
  simp only [List.lookup_cons]
  cases hb:x == k
  ·rcases List.mem_cons.mp h with e | h
   ·cases e;simp at hb
   ·exact eE h
  ·exact ⟨_,rfl⟩
theorem jS (f:Str→NameKind→NameKind):∀ (names:List (Str × NameKind)) (x:Str),(names.map fun y=>(y.1,f y.1 y.2)).lookup x=(names.lookup x).map (f x)
 | [],_=>rfl
 | (n,k)::r,x=>by
  rw [List.map_cons,List.lookup_cons,List.lookup_cons]
  cases hb:x == n
  ·exact jS f r x
  ·rw [beq_iff_eq.mp hb];rfl
theorem t8 (scope sc:Scope) (x:Str):(I5 scope sc).names.lookup x=(scope.names.lookup x).map fun k=>if (k == .free && sc.kind == .function && sc.names.lookup x == some .cell) then .cell else k:=by
 unfold I5
 rw [←jS (fun x k=>if (k == .free && sc.kind == .function && sc.names.lookup x == some .cell) then .cell else k)]
 congr 1
 refine List.map_congr_left fun y Z=>?_
 obtain ⟨n,k⟩:=y
 dsimp only
 split <;> rfl
noncomputable def B3 (fr:Fm) (scope:Scope) (L:Addr):Fm:=⟨compEnvC scope (cellsFrom (L+1) scope.names (z5 fr.env.cells scope.names [])) L fr.env,W5 scope⟩
noncomputable def E2 (scope sc:Scope):Bool:=scope.kind == .function && scope.names.all (fun x=>scope.names.lookup x.1 == some x.2) && scope.names.all fun x=>x.2 != .free || (sc.names.lookup x.1 == some .cell || sc.names.lookup x.1 == some .free)
section
variable {α:Type} {C:Cx} {A:Around} {g:Heap} {fr:Fm} {E:Value→Shared→Prop} {loc:j0} {hp:HP} {sc:Scope} {ow:Str→Bool} {scope:Scope}
theorem E2.kind (h:E2 scope sc=true):scope.kind=.function:=by
 unfold E2 at h;simp only [Bool.and_eq_true] at h;simpa using h.1.1
theorem E2.names (h:E2 scope sc=true) {x:Str} {k:NameKind} (hx:(x,k)∈scope.names):scope.names.lookup x=some k:=by
 unfold E2 at h;simp only [Bool.and_eq_true] at h
 simpa using List.all_eq_true.mp h.1.2 _ hx
theorem E2.clo (h:E2 scope sc=true) {x:Str} (hx:(x,NameKind.free)∈scope.names):sc.names.lookup x=some .cell∨sc.names.lookup x=some .free:=by
 unfold E2 at h;simp only [Bool.and_eq_true] at h
 have:=List.all_eq_true.mp h.2 _ hx
 simpa using this
theorem ma (F:P0 fr sc ow) (hs:E2 scope sc=true):closureFor scope fr.env=pure (z5 fr.env.cells scope.names []):=
 DS fun x hx hf=>F.cells _ (E2.clo hs (by obtain ⟨n,k⟩:=x;cases hf;exact hx))
theorem kZ (F:P0 fr sc ow) (hs:E2 scope sc=true) (L:Addr):P0 (B3 fr scope L) (I5 scope sc) (W5 scope) where
 scope:=gr F.scope
 kind:=(E2.kind hs:scope.kind=.function)
 glob:=F.glob
 bi:=F.bi
 cells:=fun x e=>by
  have e':scope.names.lookup x=some .cell∨scope.names.lookup x=some .free:=by
   rw [t8] at e
   cases q:scope.names.lookup x with
   | none=>rw [q] at e;rcases e with e | e <;> exact J0 e
   | some k=>
    rw [q] at e
    simp only [Option.map_some,Option.some.injEq] at e
    cases k <;> first | exact .inl rfl | exact .inr rfl | (exfalso;simp at e)
  show ((cellsFrom (L+1) scope.names (z5 fr.env.cells scope.names [])).lookup x).isSome=true
  rw [R8,bL]
  rcases e' with e | e
  ·have:=cellsFrom_some (x:=x) scope.names (L+1) [] (.inl e)
   refine o0 (Option.isSome_iff_exists.mp this) fun d hd=>?_
   rw [hd];rfl
  ·split
   ·rfl
   ·refine o0 (eE ((s9 fr.env.cells scope.names).mpr ⟨mem_of_lookup e,rfl⟩)) fun d hd=>?_
    rw [hd];rfl
 own:=fun Z e=>e
set_option tactic.hygienic true in
theorem az {x:Str} {c L:Addr} (hs:E2 scope sc=true) (F:P0 fr sc ow) (e:(B3 fr scope L).env.cells.lookup x=some c) :
  (scope.names.lookup x=some .cell∧(x,c)∈cellsFrom (L+1) scope.names [])∨(scope.names.lookup x=some .free∧fr.env.cells.lookup x=some c):=by
 have e':(cellsFrom (L+1) scope.names (z5 fr.env.cells scope.names [])).lookup x=some c:=e
 rw [R8,bL] at e'
 split at e'
 ·rename_i d hd
  cases e'
  exact .inl ⟨E2.names hs (bI _ _ (mem_of_lookup hd)),mem_of_lookup hd⟩
 ·refine B0 ((s9 fr.env.cells scope.names).mp (mem_of_lookup e')) fun h1 h2=>?_
  refine o0 (Option.isSome_iff_exists.mp (F.cells x (E2.clo hs h1))) fun d hd=>?_
  rw [hd] at h2
  exact .inr ⟨E2.names hs h1,by simp only [hd,h2];rfl⟩
set_option tactic.hygienic true in
theorem gq {s:Shared} (F:P0 fr sc ow) (hs:E2 scope sc=true) (R:F0 C.H₀ g fr loc hp s.heap) :
  F0 C.H₀ (H1 s.heap hp) (B3 fr scope s.heap.objs.size) (J1 scope loc) hp (pushCells (s.heap.push {cls:=.type "dict",data:=.dict #[]}) scope.names):=by
 have hk:∀ b o,s.heap.get? b=some o→(pushCells (s.heap.push {cls:=.type "dict",data:=.dict #[]}) scope.names).get? b=some o:=fun b o e=>pushCells_keeps _ _ b o (Heap.get?_push_of_some _ e)
 have fresh:∀ b,s.heap.objs.size≤b→(H1 s.heap hp).get? b=none:=fun b hb=>by
  cases q:(H1 s.heap hp).get? b with
  | none=>rfl
  | some o=>exact absurd (Heap.lt_size (z6 q).1) (Nat.not_lt.mpr hb)
 have ok:=cellsFrom_ok scope.names (s.heap.push {cls:=.type "dict",data:=.dict #[]}) (s.heap.objs.size+1) [] ⟨fun Z Z hm=>(nomatch hm),List.Pairwise.nil⟩ (by rw [Heap.size_push];exact Nat.le_refl _)
 rw [Heap.size_push] at ok
 refine ⟨fun b o e=>hk b o (z6 e).1,mJ R,fun x v e=>?_,⟨_,(Heap.Ns.new s.heap (.type "dict")).keeps (pushCells_keeps _ _)⟩,fresh _ (Nat.le_refl _),fun x c w l=>?_,fun x c l=>?_,fun x y c l l'=>?_,fun b ao e=>?_⟩
 ·refine B0 (bD e) fun e1 e2=>?_
  have hfr:=E2.clo hs (mem_of_lookup e1)
  rcases R.loc x v e2 with ⟨k,_⟩ | ⟨k,c,v',l,n,q⟩
  ·exfalso
   rcases hfr with q | q
   ·rw [F.kindOf q] at k;cases k
   ·rw [F.kindOf q] at k;cases k
  ·refine .inr ⟨?_,c,v',?_,n.keeps hk,q⟩
   ·show (relabel scope fr.env).names.lookup x=_∨(relabel scope fr.env).names.lookup x=_
    simp only [gr F.scope,t8,e1]
    simp only [Option.map_some,Option.some.injEq]
    split
    ·exact .inl rfl
    ·exact .inr rfl
   ·show (cellsFrom _ scope.names (z5 fr.env.cells scope.names [])).lookup x=some c
    rw [R8,bL]
    split
    ·rename_i d hd
     have:=E2.names hs (bI _ _ (mem_of_lookup hd))
     rw [e1] at this;cases this
    ·refine o0 (eE ((s9 fr.env.cells scope.names).mpr ⟨mem_of_lookup e1,rfl⟩)) fun d hd=>?_
     refine B0 ((s9 fr.env.cells scope.names).mp (mem_of_lookup hd)) fun Z h2=>?_
     rw [l] at h2
     rw [hd,h2];rfl
 ·rcases az hs F l with ⟨h1,h2⟩ | ⟨h1,h2⟩
  ·exact fresh _ (Nat.le_of_lt (ok.empty x c h2).2)
  ·have:(scope.names.lookup x == some NameKind.cell)=true:=w
   rw [h1] at this;exact Y5 this
 ·rcases az hs F l with ⟨h1,h2⟩ | ⟨h1,h2⟩
  ·exact ⟨Nat.ne_of_gt (ok.empty x c h2).2,none,(ok.empty x c h2).1⟩
  ·refine P5 (R.cne x c h2) fun Z v z=>?_
   exact ⟨Nat.ne_of_lt z.lt,v,z.keeps hk⟩
 ·rcases az hs F l with ⟨h1,h2⟩ | ⟨h1,h2⟩ <;> rcases az hs F l' with ⟨h3,h4⟩ | ⟨h3,h4⟩
  ·exact name_of_addr ok.apart h2 h4
  ·exact absurd (R.cell_lt h4) (Nat.not_lt.mpr (Nat.le_of_lt (ok.empty x c h2).2))
  ·exact absurd (R.cell_lt h2) (Nat.not_lt.mpr (Nat.le_of_lt (ok.empty y c h4).2))
  ·exact R.apart x y c h2 h4
 ·refine Q2 (R.at_ b ao e) fun Z Z h3 o ho hi=>?_
  have hb:=Heap.lt_size ho
  refine ⟨P7 e,Nat.ne_of_lt hb,fun y c l=>?_,o,hk b o ho,hi⟩
  rcases az hs F l with ⟨h1,h2⟩ | ⟨h1,h2⟩
  ·exact Nat.ne_of_lt (Nat.lt_of_lt_of_le hb (Nat.le_of_lt (ok.empty y c h2).2))
  ·exact h3 y c h2
theorem fM {M:Model} {s:Shared} {globals:Addr} {closure:List (Str × Addr)} {qual:Str} {env:Env} {Q:Env→Shared→Prop}
  (h:Q (newEnv scope s.heap.objs.size globals (cellsFrom (s.heap.objs.size+1) scope.names closure) qual none .none (some env) builtinsNs) {s with heap:=pushCells (s.heap.push {cls:=.type "dict",data:=.dict #[]}) scope.names}) :
  wpAny M A (newFunctionEnv scope globals closure [] qual none .none (some env)) Q E s:=by
 simp only [newFunctionEnv,Option.isSome_some,if_true]
 refine wpAny_bind (wpAny_alloc ?_)
 refine wpAny_bind (wpAny_layCells _ (fun name kind cells=>by cases hkc:kind == NameKind.cell <;> rfl) _ _ _ _ ?_)
 rw [show ({s with heap:=s.heap.push {cls:=.type "dict",data:=.dict #[]}}:Shared).heap.objs.size=s.heap.objs.size+1 from Heap.size_push ..]
 exact wpAny_bind (wpAny_pure (wpAny_pure h))
end
end
section
section
variable {α:Type} {C:Cx} {A:Around} {g:Heap} {fr:Fm} {E:Value→Shared→Prop} {loc:j0} {hp:HP} {sc:Scope} {ow:Str→Bool} {scope:Scope}
theorem DM {prog:Program} {w:World} {R:Result→Shared→Prop} {s:Shared} {elt target iter:Expr} {ifs:List Expr} {scope:Scope} {pos:Pos} {it acc:Value} {env:Env} (I:Nat→Shared→Prop)
  (turn:∀ n s,I n s→wpAny (model prog w) A (pyNext it) (fun r s₁=>match r with
   | none=>R (.ok .next) s₁
   | some v=>wpAny (model prog w) A (letOwnedTupleGo target it v) (fun Z s₁'=>wpAny (model prog w) A (assign target env v) (fun Z s₂=>
     wpAny (model prog w) A (forIn ifs true fun c r=>if r=true then do let ok ←isTrue c env (eval c env);pure (ForInStep.yield ok) else pure (ForInStep.yield r)) (fun ok s₃=>
      if ok=true then wpAny (model prog w) A (eval elt env) (fun x s₄=>
       wpAny (model prog w) A (call (.builtin "list.append") [acc,x]) (fun Z s₅=>∃ m,m < n∧I m s₅) (notedBy (model prog w) A env fun e s'=>R (.error e) s') s₄) (notedBy (model prog w) A env fun e s'=>R (.error e) s') s₃
      else ∃ m,m < n∧I m s₃) (notedBy (model prog w) A env fun e s'=>R (.error e) s') s₂) (notedBy (model prog w) A env fun e s'=>R (.error e) s') s₁') (notedBy (model prog w) A env fun e s'=>R (.error e) s') s₁) (notedBy (model prog w) A env fun e s'=>R (.error e) s') s)
  (n:Nat) (h:I n s):codeAny (model prog w) A (.compLoop (.ListComp elt [⟨target,iter,ifs,0⟩] scope pos) 0 it acc env) R s:=by
 refine codeAny_loop rfl I (fun n s hI=>?_) n h
 show wpAny _ A ((compTurn (.ListComp elt [⟨target,iter,ifs,0⟩] scope pos) 0 it acc env).onRaise (fun x=>do noteFrame x env;theTreesLotGoes x)) _ _ s
 refine wpAny_noted ?_
 rw [compTurn_list]
 refine wpAny_bind (wpAny_standAt (wpAny_bind (wpAny_mono (turn n s hI) (fun r s₁ h₁=>?_) fun Z Z h'=>h')))
 cases r with
 | none=>exact wpAny_pure h₁
 | some v=>
  refine wpAny_bind (wpAny_mono h₁ (fun Z s₁' h₁'=>?_) fun Z Z h'=>h')
  refine wpAny_bind (wpAny_mono h₁' (fun Z s₂ h₂=>wpAny_bind (wpAny_mono h₂ (fun ok s₃ h₃=>?_) fun Z Z h'=>h')) fun Z Z h'=>h')
  cases ok with
  | false=>exact wpAny_pure ⟨rfl,h₃⟩
  | true=>
   exact wpAny_bind (wpAny_bind (wpAny_mono h₃ (fun x s₄ h₄=>wpAny_bind (wpAny_mono h₄ (fun Z s₅ h₅=>wpAny_pure (wpAny_pure ⟨rfl,h₅⟩)) fun Z Z h'=>h')) fun Z Z h'=>h'))
noncomputable def I9 (C:Cx) (A:Around) (g:Heap) (fr:Fm) (E:Value→Shared→Prop) (ifs:List Expr) (l:j0) (p:HP) (K:Bool→j0→HP→Prop):Prop:=
 match ifs with
 | []=>K true l p
 | [c]=>aw C A g fr E (isTrue c fr.env (eval c fr.env)) l p K
 | _=>False
theorem Ev {ifs:List Expr} {K:Bool→j0→HP→Prop} (h:I9 C A g fr E ifs loc hp K) :
  aw C A g fr E (forIn ifs true fun c r=>if r=true then do let ok ←isTrue c fr.env (eval c fr.env);pure (ForInStep.yield ok) else pure (ForInStep.yield r)) loc hp K:=by
 match ifs,h with
 | [],h=>exact fun s R S=>wpAny_tests_nil ⟨S,loc,hp,R,h⟩
 | [c],h=>exact fun s R S=>wpAny_tests_one (h s R S)
theorem cZ:∀ (names:List Str) (vs:List Value) {l l':j0},(∀ x v,l x=some v→l' x=some v)→∀ x v,K0 names vs l x=some v→K0 names vs l' x=some v
 | [],_,_,_,h=>h
 | n::ns,[],_,_,h=>h
 | n::ns,u::us,l,l',h=>cZ ns us fun x v e=>by
  unfold N0 at e ⊢
  split
  ·rename_i hx;rw [if_pos hx] at e;exact e
  ·rename_i hx;rw [if_neg hx] at e;exact h x v e
theorem cY:∀ (names:List Str) (vs:List Value) {l l':j0},(∀ x v,l x=some v→l' x=some v∧x∉names)→∀ x v,l x=some v→K0 names vs l' x=some v
 | [],_,_,_,h,x,v,e=>(h x v e).1
 | n::ns,[],_,_,h,x,v,e=>(h x v e).1
 | n::ns,u::us,l,l',h,x,v,e=>cY ns us (l:=l) (fun y w e'=>by
   refine B0 (h y w e') fun a b=>?_
   refine ⟨?_,fun hm=>b (.tail _ hm)⟩
   unfold N0
   rw [if_neg (by rintro rfl;exact b (.head _))]
   exact a) x v e
theorem fm {D:Addr} {ys:List Value} {x:Value} {Q:Value→j0→HP→Prop} (hD:hp D=some (.list ys)) (hsz:ys.length≤sizeLine) (h:Q .none loc (k0 hp D (.list (ys++[nm x])))) :
  aw C A g fr E (call (.builtin "list.append") [.ref D,x]) loc hp Q:=fun s R S=>by
 refine V0 (R.list hD) fun vs n e q=>?_
 refine wpAny_list_append_plain (items:=vs) ⟨n,e⟩ (fun h' hl hs=>?_) (by rw [M2 q];exact hsz)
 refine o0 hl fun n' e'=>?_;try clear hl
 exact ⟨S,loc,_,R.chg hD hs.extBut (ao':=.list (ys++[nm x])) e' ⟨_,_,rfl,by simp only [Array.toList_push,List.map_append,q];rfl⟩,h⟩
noncomputable def A9:AO:=.sat fun o=>∃ (h:Heap) (a:Addr) (m:Str→Option Value),h.Ns a m∧h.get? a=some o
theorem F0.isNs {H₀ h:Heap} {L:Addr} (R:F0 H₀ g fr loc hp h) (hL:hp L=some A9):∃ m,h.Ns L m:=by
 obtain ⟨_,_,_,o,ho,h₁,a,m,⟨o',es,ep,e,r⟩,e'⟩:=R.at_ L _ hL
 rw [e] at e';cases e'
 exact ⟨m,_,es,ep,ho,r⟩
theorem lZ {elt target iter:Expr} {ifs:List Expr} {pos pos₂:Pos} {names:List Str} {use:Option (Value→Sem Unit)} {Qw:Value→Shared→Prop} (F:P0 fr sc ow) (hs:E2 scope sc=true)
  (hfs:∀ x,foldedSetIterable iter fr.env x=pure x) (hok:names.all (fun x=>scope.names.lookup x == some .local || scope.names.lookup x == some .cell)=true)
  (s:Shared) (R:F0 C.H₀ g fr loc hp s.heap) (S:H2 C s)
  (h:w0 C A g fr E (eval iter fr.env) loc hp fun x l p=>i3 C A target names x l p fun vss need l p=>vss.length≤100000∧∃ Inv:Nat→List Value→HP→Prop,Inv 0 [] p∧(∀ i ys p,Inv i ys p→need p)∧
   (∀ i vs ys p g' fr' E',vss[i]?=some vs→Inv i ys p→P0 fr' (I5 scope sc) (W5 scope)→I9 C A g' fr' E' ifs (K0 names vs (J1 scope l)) p fun b l' p'=>∀ g'' E'',
    if b then w0 C A g'' fr' E'' (eval elt fr'.env) l' p' fun y l'' p''=>l''=K0 names vs (J1 scope l)∧Inv (i+1) (ys++[y]) p'' else l'=K0 names vs (J1 scope l)∧Inv (i+1) ys p')∧
   (∀ D L ys p s',Inv vss.length ys p→p D=none→(k0 p D (.list ys)) L=none→H2 C s'→F0 C.H₀ g fr l (k0 (k0 p D (.list ys)) L A9) s'.heap→(∃ m,s'.heap.Ns L m)→compPost (model C.prog C.w) A E use Qw (.ref D) L (.ok .next) s')) :
  wpAny (model C.prog C.w) A (comprehension (.ListComp elt [⟨target,iter,ifs,0⟩] scope pos) scope fr.env pos₂ (newList []) false (eval iter fr.env) use) Qw E s:=by
 refine wpAny_comprehension_free rfl hfs (ma F hs) (E2.kind hs) (fun x hx hl=>by obtain ⟨n,k⟩:=x;cases hl;exact E2.names hs hx) ?_
 refine wpAny_mono (h s R S) (fun x s₁ hZ0=>lK hZ0 fun l₁ vss need r₁ p₀ S₁ R₁ zr0=>Do zr0 fun hnd hap hit hlen Inv h0 hn zr1=>B0 zr1 fun turn fin=>?_) fun Z Z e=>e
 have:=hit g fr E l₁ p₀ x (fun it l p=>∃ St r₀,l=l₁∧p=C0 p₀ r₀∧H6 C A target names it vss need St∧St 0 r₀∧O1 p₀ r₀) rfl hnd hap (fun it St r₀ W hst hap=>⟨St,r₀,rfl,rfl,W,hst,hap⟩) s₁ R₁ S₁
 refine wpAny_mono this (fun it s₂ hZ0=>fc hZ0 fun l₂ St r₀ S₂ R₂ e1 zr0=>V1 zr0 fun W hst hap=>?_) fun Z Z e=>e
 subst e1
 have hD0:C0 p₀ r₀ s₂.heap.objs.size=none:=R₂.none_at
 have hDp:p₀ s₂.heap.objs.size=none:=by
  cases q:p₀ s₂.heap.objs.size with
  | none=>rfl
  | some o=>rw [Z1 q] at hD0;exact B5 hD0
 generalize hDe:s₂.heap.objs.size=D at hD0 hDp
 have alloc:F0 C.H₀ g fr l₂ (C0 (k0 p₀ D (.list [])) r₀) (s₂.heap.push {cls:=.type "list",data:=.seq ([]:List Value).toArray}):=by
  rw [M8,←hDe]
  exact R₂.alloc rfl ⟨_,_,rfl,rfl⟩
 refine wpAny_newObj_type ?_ (by show ([]:List Value).toArray.size≤sizeLine;rw [sizeLine_eq];decide)
 rw [hDe]
 generalize hs₃:({s₂ with heap:=s₂.heap.push {cls:=.type "list",data:=.seq ([]:List Value).toArray}}:Shared)=s₃
 have R₃:F0 C.H₀ g fr l₂ (C0 (k0 p₀ D (.list [])) r₀) s₃.heap:=by rw [←hs₃];exact alloc
 have S₃:H2 C s₃:=by rw [←hs₃];exact S₂
 clear hs₃ alloc this R₂ S₂ R₁ S₁ hit R S h
 refine fM ?_
 generalize hL:s₃.heap.objs.size=L
 have R₄:=gq F hs R₃
 rw [hL] at R₄
 have hF':=kZ F hs L
 have hapD:O1 (k0 p₀ D (.list [])) r₀:=fun b hb=>by
  by_cases e:b=D
  ·subst e
   exfalso
   unfold C0 at hD0
   rw [hDp] at hD0
   exact hb hD0
  ·rw [H0 _ _ e];exact hap b hb
 have hokS:∀ x∈names,M1 (B3 fr scope L) x:=fun x hx=>by
  have hk:=List.all_eq_true.mp hok x hx
  rcases Bool.or_eq_true_iff.mp hk with q | q
  ·refine hF'.stoL ?_
   simp only [t8,beq_iff_eq.mp q];rfl
  ·refine hF'.stoC ?_ ?_
   ·simp only [t8,beq_iff_eq.mp q];rfl
   ·exact q
 have hbase:∀ x v,J1 scope l₂ x=some v→x∉names:=fun x v e hx=>by
  refine B0 (bD e) fun e1 Z=>?_
  have hk:=List.all_eq_true.mp hok x hx
  rw [e1] at hk
  exact Y5 hk
 have gL:(H1 s₃.heap (C0 (k0 p₀ D (.list [])) r₀)).get? L=none:=by
  cases q:(H1 s₃.heap (C0 (k0 p₀ D (.list [])) r₀)).get? L with
  | none=>rfl
  | some o=>exact absurd (Heap.lt_size (z6 q).1) (by rw [hL];exact Nat.lt_irrefl _)
 have loop:∀ (RR:Result→Shared→Prop) (fr₃:Fm),(∀ ys p s',Inv vss.length ys p→p D=none→(k0 p D (.list ys)) L=none→H2 C s'→F0 C.H₀ g fr l₂ (k0 (k0 p D (.list ys)) L A9) s'.heap→(∃ m,s'.heap.Ns L m)→RR (.ok .next) s')→P0 fr₃ (I5 scope sc) (W5 scope)→fr₃.env.locals=L→(∀ x∈names,M1 fr₃ x)→∀ s:Shared,H2 C s→∀ r,St 0 r→O1 (k0 p₀ D (.list [])) r→F0 C.H₀ (H1 s₃.heap (C0 (k0 p₀ D (.list [])) r₀)) fr₃ (J1 scope l₂) (C0 (k0 p₀ D (.list [])) r) s.heap→
   codeAny (model C.prog C.w) A (.compLoop (.ListComp elt [⟨target,iter,ifs,0⟩] scope pos) 0 it (.ref D) fr₃.env) (RR) s:=fun RR fr₃ fin hF' hfl hokS s Ss r hst hap R=>by
  refine DM (fun k s'=>H2 C s'∧∃ i l p r ys,k=vss.length - i∧i≤vss.length∧ys.length≤i∧p D=none∧O1 (k0 p D (.list ys)) r∧F0 C.H₀ (H1 s₃.heap (C0 (k0 p₀ D (.list [])) r₀)) fr₃ l (C0 (k0 p D (.list ys)) r) s'.heap∧St i r∧
   (∀ x v,J1 scope l₂ x=some v→l x=some v)∧Inv i ys p) ?_ vss.length ⟨Ss,0,_,p₀,r,[],rfl,Nat.zero_le _,Nat.zero_le _,hDp,hap,R,hst,fun Z Z e=>e,h0⟩
  intro k s' hZ0;refine CY hZ0 fun S' i l p r ys hR0 zr0=>cn zr0 fun hi hys hpD hap R' hst' hl hI=>?_;clear hZ0;subst hR0
  have hup:=al (o:=.list ys) hpD
  by_cases hlt:i < vss.length
  ·have hget:vss[i]?=some vss[i]:=List.getElem?_eq_getElem hlt
   have:=W.adv i _ r (k0 p D (.list ys)) _ fr₃ (notedBy (model C.prog C.w) A fr₃.env fun e s'=>RR (.error e) s') l
    (fun l' p'=>∃ r',St (i+1) r'∧O1 (k0 p D (.list ys)) r'∧l'=K0 names vss[i] l∧p'=C0 (k0 p D (.list ys)) r') hget hst' (W.up _ _ hup (hn i ys p hI)) hap hokS (fun r' a b=>⟨r',a,b,rfl,rfl⟩) s' R' S'
   refine wpAny_mono this (fun rr s₁ hZ0=>G7 hZ0 fun S₁ l₁ p₁ R₁ v e h₁=>?_) fun Z Z e=>e
   subst e
   refine wpAny_mono (h₁ s₁ R₁ S₁) (fun Z s₂ hZ0=>Q3 hZ0 fun S₂ l₂' p₂ R₂ h₂=>?_) fun Z Z e=>e
   refine wpAny_mono (h₂ s₂ R₂ S₂) (fun Z s₄ hZ0=>fe hZ0 fun r' S₄ R₅ hst₃ hap₃=>?_) fun Z Z e=>e
   have apD:O1 p (k0 r' D (.list ys)):=C4 (fun b hb=>by
    have:=hap₃ b hb
    by_cases e:b=D
    ·subst e;exact hpD
    ·rwa [H0 _ _ e] at this) hpD
   have ej:C0 (k0 p D (.list ys)) r'=C0 p (k0 r' D (.list ys)):=by rw [M8,U4 hpD]
   rw [ej] at R₅
   have R₆:=R₅.forget (cZ names vss[i] hl) (fun Z Z e=>e)
   have tb:=cG (C:=C) (A:=A) (g:=H1 s₃.heap (C0 (k0 p₀ D (.list [])) r₀)) (fr:=fr₃) (E:=notedBy (model C.prog C.w) A fr₃.env fun e s'=>RR (.error e) s') apD
    (fun g'=>Ev (turn i _ ys p g' fr₃ _ hget hI hF'))
   refine wpAny_mono (tb s₄ R₆ S₄) (fun ok s₅ hZ0=>lJ hZ0 fun l₅ p₆ S₅ R₇ hap₆ q=>?_) fun Z Z e=>e
   have hsup:∀ x v,J1 scope l₂ x=some v→K0 names vss[i] (J1 scope l₂) x=some v:=cY names vss[i] fun x v e=>⟨e,hbase x v e⟩
   have back:∀ {p':HP} {zs:List Value},O1 p' (k0 r' D (.list ys))→p' D=none∧O1 (k0 p' D (.list zs)) r':=fun {p' zs} ha=>by
    have hD:p' D=none:=ha D (by rw [s0];exact fun e=>nomatch e)
    refine ⟨hD,fun b hb=>?_⟩
    by_cases e:b=D
    ·subst e
     have:=hap₃ _ hb
     rw [s0] at this;exact B5 this
    ·rw [H0 _ _ e];exact ha b (by rw [H0 _ _ e];exact hb)
   cases ok with
   | false=>
    have q':=q (H1 s₃.heap (C0 (k0 p₀ D (.list [])) r₀)) (fun Z Z=>True)
    simp only [Bool.false_eq_true,if_false] at q' ⊢
    refine B0 q' fun hR0 hI'=>?_;try clear q';subst hR0
    refine B0 (back (zs:=ys) hap₆) fun hD' ha'=>?_
    refine ⟨vss.length - (i+1),by exact C8 hlt,S₅,i+1,_,p₆,r',ys,rfl,hlt,by exact yX hys,hD',ha',?_,hst₃,hsup,hI'⟩
    have ej':C0 (k0 p₆ D (.list ys)) r'=C0 p₆ (k0 r' D (.list ys)):=by rw [M8,U4 hD']
    simp only [ej'];exact R₇
   | true=>
    simp only [if_true] at q ⊢
    have te:=cG (C:=C) (A:=A) (g:=H1 s₃.heap (C0 (k0 p₀ D (.list [])) r₀)) (fr:=fr₃) (E:=notedBy (model C.prog C.w) A fr₃.env fun e s'=>RR (.error e) s') hap₆
     (fun g'=>q g' _)
    refine wpAny_mono (te s₅ R₇ S₅) (fun y s₆ hZ0=>lI hZ0 fun p₈ S₆ R₈ hap₈ hI'=>?_) fun Z Z e=>e
    refine B0 (back (zs:=ys++[nm y]) hap₈) fun hD' ha'=>?_
    have hDin:C0 p₈ (k0 r' D (.list ys)) D=some (.list ys):=U1 hap₈ (s0 ..)
    have ap:=fm (C:=C) (A:=A) (g:=H1 s₃.heap (C0 (k0 p₀ D (.list [])) r₀)) (fr:=fr₃) (E:=notedBy (model C.prog C.w) A fr₃.env fun e s'=>RR (.error e) s')
     (loc:=K0 names vss[i] (J1 scope l₂)) (x:=y) (Q:=fun Z l p=>l=K0 names vss[i] (J1 scope l₂)∧p=k0 (C0 p₈ (k0 r' D (.list ys))) D (.list (ys++[nm y]))) hDin (by rw [sizeLine_eq];exact yW hlen hlt hys) ⟨rfl,rfl⟩
    refine wpAny_mono (ap s₆ R₈ S₆) (fun Z s₇ hZ0=>cg hZ0 fun S₇ R₉=>?_) fun Z Z e=>e
    refine ⟨vss.length - (i+1),by exact C8 hlt,S₇,i+1,_,p₈,r',ys++[nm y],rfl,hlt,by simp;exact dP hys,hD',ha',?_,hst₃,hsup,hI'⟩
    rw [U4 hD',X6] at R₉
    have ej':C0 (k0 p₈ D (.list (ys++[nm y]))) r'=C0 p₈ (k0 r' D (.list (ys++[nm y]))):=by rw [M8,U4 hD']
    simp only [ej'];exact R₉
  ·have hin:i=vss.length:=by exact T7 hi hlt
   subst hin
   have:=W.stp r (k0 p D (.list ys)) _ fr₃ (notedBy (model C.prog C.w) A fr₃.env fun e s'=>RR (.error e) s') l
    (fun l' p'=>l'=l∧∃ r',p'=C0 (k0 p D (.list ys)) r') hst' (W.up _ _ hup (hn _ ys p hI)) hap (fun r' Z=>⟨rfl,r',rfl⟩) s' R' S'
   refine wpAny_mono this (fun rr s₁ hZ0=>fg hZ0 fun l₁ r' S₁ R₁ e e1=>?_) fun Z Z e=>e
   subst e;subst e1
   have R₂:=R₁.forget (fun Z Z e=>e) (am (k0 p D (.list ys)) r')
   have hLn:k0 p D (.list ys) L=none:=by
    cases q:k0 p D (.list ys) L with
    | none=>rfl
    | some o=>exact absurd hfl.symm (R₂.at_ L o q).2.1
   refine fin ys p s₁ hI hpD hLn S₁ ?_ (hfl▸R₂.ns)
   refine R₃.asleep R₂.keep fun b ao e=>?_
   by_cases hb:b=L
   ·subst hb
    rw [s0] at e;cases e
    refine aq (hfl▸R₂.ns) fun m o es ep ho r=>?_
    exact ⟨gL,o,ho,s₁.heap,_,m,⟨o,es,ep,ho,r⟩,ho⟩
   ·rw [H0 _ _ hb] at e
    refine P1 (R₂.at_ b ao e) fun a1 Z Z a4=>?_
    exact ⟨a1,a4⟩
 refine codeAny_compStart_list ?_ ?_
 ·refine loop (compPost (model C.prog C.w) A E use Qw (.ref D) L) (B3 fr scope L) (fin D L) hF' rfl hokS _ ?_ r₀ hst hapD ?_
  ·exact S₃
  ·exact R₄
 ·have sf:=W.self 0 r₀ (k0 p₀ D (.list [])) (H1 s₃.heap (C0 (k0 p₀ D (.list [])) r₀)) (B3 fr scope L) (notedBy (model C.prog C.w) A (B3 fr scope L).env fun x s'=>compPost (model C.prog C.w) A E use Qw (.ref D) L (.error x) s') (J1 scope l₂)
   (fun it' l p=>it'=it∧l=J1 scope l₂∧p=C0 (k0 p₀ D (.list [])) r₀) hst (W.up _ _ (al hDp) hnd) hapD ⟨rfl,rfl,rfl⟩
  refine wpAny_mono (sf {s₃ with heap:=pushCells (s₃.heap.push {cls:=.type "dict",data:=.dict #[]}) scope.names} R₄ S₃) (fun it' s₅ hZ0=>ff hZ0 fun S₅ R₅ e1=>?_) fun Z Z e=>e
  subst e1
  exact loop (compPost (model C.prog C.w) A E use Qw (.ref D) L) (B3 fr scope L) (fin D L) hF' rfl hokS s₅ S₅ r₀ hst hapD R₅
noncomputable def r6 (C:Cx) (A:Around) (fr:Fm) (sc scope:Scope) (target elt:Expr) (ifs:List Expr) (names:List Str) (x:Value) (l:j0) (p:HP) (Q:Value→j0→HP→Prop):Prop:=
 i3 C A target names x l p fun vss need l p=>vss.length≤100000∧∃ Inv:Nat→List Value→HP→Prop,Inv 0 [] p∧(∀ i ys p,Inv i ys p→need p)∧
   (∀ i vs ys p g' fr' E',vss[i]?=some vs→Inv i ys p→P0 fr' (I5 scope sc) (W5 scope)→I9 C A g' fr' E' ifs (K0 names vs (J1 scope l)) p fun b l' p'=>∀ g'' E'',
    if b then w0 C A g'' fr' E'' (eval elt fr'.env) l' p' fun y l'' p''=>l''=K0 names vs (J1 scope l)∧Inv (i+1) (ys++[y]) p'' else l'=K0 names vs (J1 scope l)∧Inv (i+1) ys p')∧
   (∀ D ys p,Inv vss.length ys p→p D=none→Q (.ref D) l (k0 p D (.list ys)))
theorem bC {target:Expr} {names:List Str} {x:Value} {K K':List (List Value)→(HP→Prop)→j0→HP→Prop} (h:i3 C A target names x loc hp K) (hk:∀ vss need l p,K vss need l p→K' vss need l p):i3 C A target names x loc hp K':=
 let ⟨vss,need,r₁,p₀,a,b,c,d,k⟩:=h;⟨vss,need,r₁,p₀,a,b,c,d,hk _ _ _ _ k⟩
theorem Fb {elt target iter:Expr} {ifs:List Expr} {pos:Pos} {names:List Str} {Q:Value→j0→HP→Prop} (F:P0 fr sc ow) (hs:E2 scope sc=true)
  (hfs:∀ x,foldedSetIterable iter fr.env x=pure x) (hok:names.all (fun x=>scope.names.lookup x == some .local || scope.names.lookup x == some .cell)=true)
  (h:w0 C A g fr E (eval iter fr.env) loc hp fun x l p=>r6 C A fr sc scope target elt ifs names x l p Q) :
  w0 C A g fr E (eval (.ListComp elt [⟨target,iter,ifs,0⟩] scope pos) fr.env) loc hp Q:=fun s R S=>by
 rw [eval_ListComp]
 refine lZ (use:=none) F hs hfs hok s R S (k7 h fun x l p hx=>bC hx fun vss need l p hZ0=>av hZ0 fun h1 Inv h2 h3 h4 h5=>⟨h1,Inv,h2,h3,h4,fun D L ys p s' hI hD hL S' R' hn=>?_⟩)
 refine o0 hn fun m n=>?_;try clear hn
 refine ⟨m,n,fun h' hsb=>⟨S',l,k0 p D (.list ys),?_,h5 D ys p hI hD⟩⟩
 exact R'.drop1 (s0 ..) hsb.extBut fun b o e=>⟨(by rintro rfl;rw [hL] at e;exact J0 e),E1 hL e⟩
theorem Fp {elt target iter:Expr} {ifs:List Expr} {pos pos' spos:Pos} {x:Str} {names:List Str} {Q:Flow→j0→HP→Prop} (hsw:swapsWith (.ListComp elt [⟨target,iter,ifs,0⟩] scope pos) (some (.Name x pos')) spos.line fr.env=pure true)
  (hx:M1 fr x) (F:P0 fr sc ow) (hs:E2 scope sc=true)
  (hfs:∀ x,foldedSetIterable iter fr.env x=pure x) (hok:names.all (fun x=>scope.names.lookup x == some .local || scope.names.lookup x == some .cell)=true)
  (h:w0 C A g fr E (eval iter fr.env) loc hp fun y l p=>r6 C A fr sc scope target elt ifs names y l p fun v l p=>Q .next (N0 l x v) p) :
  I0 C A g fr E (exec (.Assign [.Name x pos'] (.ListComp elt [⟨target,iter,ifs,0⟩] scope pos) spos) fr.env) loc hp Q:=fun s R S=>by
 rw [exec_Assign_Name_used _ _ _ _ hsw]
 refine wpAny_bind (wpAny_standAt (wpAny_bind ?_))
 show wpAny _ A (do let _ ←comprehension (.ListComp elt [⟨target,iter,ifs,0⟩] scope pos) scope fr.env _ (newList []) false (eval iter fr.env) (some (assign (.Name x pos') fr.env))) _ _ s
 refine wpAny_bind (wpAny_mono (lZ (use:=some (assign (.Name x pos') fr.env)) (Qw:=fun Z s'=>H2 C s'∧∃ l p,F0 C.H₀ g fr l p s'.heap∧Q .next l p) F hs hfs hok s R S (k7 h fun y l p hy=>bC hy fun vss need l p hZ0=>av hZ0 fun h1 Inv h2 h3 h4 h5=>⟨h1,Inv,h2,h3,h4,fun D L ys p s' hI hD hL S' R' hn=>?_⟩)) (fun Z s' q=>wpAny_pure (wpAny_pure q)) fun Z Z e=>e)
 have st:=F6 (C:=C) (A:=A) (g:=g) (fr:=fr) (E:=E) (loc:=l) (hp:=k0 (k0 p D (.list ys)) L A9) (x:=x) (pos:=pos') (v:=.ref D)
  (Q:=fun Z l' p'=>l'=N0 l x (.ref D)∧p'=k0 (k0 p D (.list ys)) L A9) hx ⟨rfl,rfl⟩
 show wpAny _ A (assign (.Name x pos') fr.env (.ref D)) _ _ _
 refine wpAny_mono (st s' R' S') (fun Z s₂ hZ0=>cg hZ0 fun S₂ R₂=>?_) fun Z Z e=>e
 refine o0 (R₂.isNs (s0 ..)) fun m n=>?_
 refine ⟨m,n,fun h' hsb=>⟨S₂,_,k0 p D (.list ys),?_,h5 D ys p hI hD⟩⟩
 exact R₂.drop1 (s0 ..) hsb.extBut fun b o e=>⟨(by rintro rfl;rw [hL] at e;exact J0 e),E1 hL e⟩
end
end
section
section
variable {α:Type} {C:Cx} {A:Around} {g:Heap} {fr:Fm} {E:Value→Shared→Prop} {loc:j0} {hp:HP} {sc:Scope} {scope:Scope}
noncomputable def m0 (p p':HP):Prop:=∀ b o,p b=some o→p' b=some o
theorem m0.rfl {p:HP}:m0 p p:=fun Z Z e=>e
theorem m0.trans {p q r:HP} (h:m0 p q) (h':m0 q r):m0 p r:=fun b o e=>h' b o (h b o e)
theorem m0.set {p:HP} {a:Addr} {o:AO} (h:p a=none):m0 p (k0 p a o):=al h
theorem m0.none {p q:HP} (h:m0 p q) {a:Addr} (e:q a=none):p a=none:=by
 cases z:p a with
 | none=>rfl
 | some o=>rw [h _ _ z] at e;exact B5 e
theorem oB {β γ:Type} (f:β→Option γ) (l:List β) (i:Nat) (v:β) (h:l[i]?=some v):(l.take (i+1)).filterMap f=(l.take i).filterMap f++(f v).toList:=by
 simp only [List.take_add_one,h,List.filterMap_append]
 simp [List.filterMap_cons]
 cases f v <;> rfl
theorem j7 {β:Type} {target elt:Expr} {ifs:List Expr} {names:List Str} {x:Value} {Q:Value→j0→HP→Prop} (xs:List β) (m:β→List Value) (f:β→Option Value)
  (h:i3 C A target names x loc hp fun vss need l p=>vss=xs.map m∧xs.length≤100000∧
   (∀ x∈xs,∀ g' fr' E',P0 fr' (I5 scope sc) (W5 scope)→I9 C A g' fr' E' ifs (K0 names (m x) (J1 scope l)) p fun b l' p'=>l'=K0 names (m x) (J1 scope l)∧m0 p p'∧
    if b then ∀ g'' E'',w0 C A g'' fr' E'' (eval elt fr'.env) l' p' fun y l'' p''=>l''=K0 names (m x) (J1 scope l)∧m0 p p''∧f x=some y else f x=none)∧
   ∀ D,p D=none→Q (.ref D) l (k0 p D (.list (xs.filterMap f)))) :
  r6 C A fr sc scope target elt ifs names x loc hp Q:=by
 refine bZ h fun need r₁ p₀ a hnd c d zr0=>V1 zr0 fun h1 h2 h3=>?_;try clear h
 refine ⟨_,need,r₁,p₀,a,hnd,c,d,by rwa [List.length_map],fun i ys p=>p=p₀∧ys=(xs.take i).filterMap f,⟨rfl,rfl⟩,fun i ys p e=>e.1▸hnd,?_,?_⟩
 ·intro i vs ys p g' fr' E' hv hZ0 hF;refine B0 hZ0 fun hR0 hR1=>?_;clear hZ0;subst hR0;subst hR1
  rw [List.getElem?_map] at hv
  refine z0 (Option.map_eq_some_iff.mp hv) fun x hx hR0=>?_;subst hR0
  have:=h2 x (List.mem_of_getElem? hx) g' fr' E' hF
  have hI:∀ y,f x=y→(xs.take i).filterMap f++y.toList=(xs.take (i+1)).filterMap f:=fun y e=>by simp only [oB f xs i x hx,e]
  have cl:∀ b l' p',(l'=K0 names (m x) (J1 scope loc)∧m0 p p'∧if b=true then ∀ g'' E'',w0 C A g'' fr' E'' (eval elt fr'.env) l' p' fun y l'' p''=>l''=K0 names (m x) (J1 scope loc)∧m0 p p''∧f x=some y else f x=none)→
    ∃ p₂,(∀ b o,p₂ b=some o→p' b=some o)∧∀ g'' E'',if b=true then w0 C A g'' fr' E'' (eval elt fr'.env) l' p₂ fun y l'' p''=>l''=K0 names (m x) (J1 scope loc)∧p''=p∧(xs.take i).filterMap f++[y]=(xs.take (i+1)).filterMap f
     else l'=K0 names (m x) (J1 scope loc)∧p₂=p∧(xs.take i).filterMap f=(xs.take (i+1)).filterMap f:=by
   intro b l' p' hZ0;refine V1 hZ0 fun e1 e2 q=>?_;clear hZ0
   cases b with
   | false=>
    refine ⟨p,e2,fun g'' E''=>?_⟩
    rw [if_neg (by decide)] at q ⊢
    exact ⟨e1,rfl,by have:=hI none q;simpa using this⟩
   | true=>
    refine ⟨p',m0.rfl,fun g'' E''=>?_⟩
    rw [if_pos rfl] at q ⊢
    exact aD (Z0 (q g'' E'') fun y l'' p'' hZ0=>V1 hZ0 fun a1 a2 a3=>⟨p,a2,a1,rfl,hI (some _) a3⟩)
  match ifs,this with
  | [],this=>
   refine V1 this fun e1 e2 q=>?_;try clear this
   intro g'' E''
   rw [if_pos rfl] at q ⊢
   exact aD (Z0 (q g'' E'') fun y l'' p'' hZ0=>V1 hZ0 fun a1 a2 a3=>⟨p,a2,a1,rfl,hI (some _) a3⟩)
  | [c],this=>exact aD (Z0 this fun b l' p' q=>cl b l' p' q)
 ·intro D ys p hZ0 hD;refine B0 hZ0 fun hR0 hR1=>?_;clear hZ0;subst hR0;subst hR1
  rw [List.length_map,List.take_length]
  exact h3 D hD
theorem W4 {β:Type} {target elt:Expr} {names:List Str} {x:Value} {Q:Value→j0→HP→Prop} (xs:List β) (m:β→List Value) (f:β→Value)
  (h:i3 C A target names x loc hp fun vss need l p=>vss=xs.map m∧xs.length≤100000∧
   (∀ x∈xs,∀ g' fr' E',P0 fr' (I5 scope sc) (W5 scope)→w0 C A g' fr' E' (eval elt fr'.env) (K0 names (m x) (J1 scope l)) p fun y l'' p''=>l''=K0 names (m x) (J1 scope l)∧m0 p p''∧y=f x)∧
   ∀ D,p D=none→Q (.ref D) l (k0 p D (.list (xs.map f)))) :
  r6 C A fr sc scope target elt [] names x loc hp Q:=
 j7 xs m (fun x=>some (f x)) (bC h fun vss need l p hZ0=>P1 hZ0 fun h1 h2 h3 h4=>⟨h1,h2,fun x hx g' fr' E' hF=>⟨rfl,m0.rfl,by
  rw [if_pos rfl]
  exact fun g'' E''=>k7 (h3 x hx g'' fr' E'' hF) fun y l'' p'' hZ0=>V1 hZ0 fun a b c=>⟨a,b,by rw [c]⟩⟩,by rw [List.filterMap_eq_map'];exact h4⟩)
theorem Q8 {β:Type} {target elt:Expr} {names:List Str} {x:Value} {Q:Value→j0→HP→Prop} (xs:List β) (m:β→List Value) (F:β→AO)
  (h:i3 C A target names x loc hp fun vss need l p=>vss=xs.map m∧xs.length≤100000∧(∀ p',m0 p p'→need p')∧
   (∀ x∈xs,∀ g' fr' E' p',P0 fr' (I5 scope sc) (W5 scope)→m0 p p'→w0 C A g' fr' E' (eval elt fr'.env) (K0 names (m x) (J1 scope l)) p' fun y l'' p''=>l''=K0 names (m x) (J1 scope l)∧∃ T,y=.ref T∧p' T=none∧m0 p' p''∧p'' T=some (F x))∧
   ∀ D (ts:List Addr) p',ts.length=xs.length→ts.Nodup→(∀ (k:Nat) (T:Addr) (x:β),ts[k]?=some T→xs[k]?=some x→p' T=some (F x))→(∀ T∈ts,p T=none)→m0 p p'→p' D=none→Q (.ref D) l (k0 p' D (.list (ts.map .ref)))) :
  r6 C A fr sc scope target elt [] names x loc hp Q:=by
 refine bZ h fun need r₁ p₀ a hnd c d zr0=>P1 zr0 fun h1 h0 h2 h3=>?_;try clear h
 refine ⟨_,need,r₁,p₀,a,hnd,c,d,by rwa [List.length_map],fun i ys p=>m0 p₀ p∧i≤xs.length∧∃ ts:List Addr,ys=ts.map .ref∧ts.length=i∧ts.Nodup∧(∀ T∈ts,p₀ T=none)∧∀ (k:Nat) (T:Addr) (x:β),ts[k]?=some T→xs[k]?=some x→p T=some (F x),
  ⟨m0.rfl,Nat.zero_le _,[],rfl,rfl,List.nodup_nil,(fun T h=>by cases h),fun k T x e=>by exact J0 e⟩,fun i ys p e=>h0 p e.1,?_,?_⟩
 ·intro i vs ys p g' fr' E' hv hZ0 hF g'' E'';refine E9 hZ0 fun hs hi ts hR0 hl hnod I2 hts=>?_;clear hZ0;subst hR0
  rw [List.getElem?_map] at hv
  refine z0 (Option.map_eq_some_iff.mp hv) fun x hx hR0=>?_;subst hR0
  have hTs:∀ U∈ts,p U≠none:=fun U hu e=>by
   refine o0 (List.mem_iff_getElem?.mp hu) fun k hk=>?_
   have hk':k < xs.length:=by have:=(List.getElem?_eq_some_iff.mp hk).1;exact yV hi hl this
   have:=hts k U _ hk (List.getElem?_eq_getElem hk')
   simp only [e] at this;exact J0 this
  rw [if_pos rfl]
  refine Z0 (h2 x (List.mem_of_getElem? hx) g'' fr' E'' p hF hs) fun y l'' p'' hZ0=>av hZ0 fun e1 T e2 e3 e4 e5=>⟨e1,hs.trans e4,(List.getElem?_eq_some_iff.mp hx).1,ts++[T],?_,by simp [hl],?_,?_,?_⟩
  ·rw [e2];simp
  ·refine List.nodup_append.mpr ⟨hnod,by simp,fun u hu v hv'=>?_⟩
   rcases List.mem_cons.mp hv' with rfl | h
   ·rintro rfl;exact hTs u hu e3
   ·cases h
  ·intro U hU
   rcases List.mem_append.mp hU with h | h
   ·exact I2 U h
   ·rcases List.mem_cons.mp h with rfl | h
    ·exact hs.none e3
    ·cases h
  ·intro k U y' hk hw
   rcases Nat.lt_or_ge k ts.length with q | q
   ·rw [List.getElem?_append_left q] at hk
    exact e4 _ _ (hts k U y' hk hw)
   ·rw [List.getElem?_append_right q] at hk
    have hk0:k - ts.length=0:=by
     have:=(List.getElem?_eq_some_iff.mp hk).1
     simp at this;exact dO this
    rw [hk0] at hk
    cases hk
    have:k=i:=by exact yU hl hk0 q
    subst this
    rw [hx] at hw;cases hw
    exact e5
 ·intro D ys p hZ0 hD;refine E9 hZ0 fun hs hi ts hR0 hl hnod I2 hts=>?_;clear hZ0;subst hR0
  rw [List.length_map] at hl
  exact h3 D ts p hl hnod hts I2 hs hD
theorem V6 (hh:A.handled=none) {a:Addr} {ns:List Int} {x:Str} {px:Pos} {K:List (List Value)→(HP→Prop)→j0→HP→Prop} (ha:hp a=some (.list (ns.map fun i=>.int i 0)))
  (h:K (ns.map fun i=>[.int i 0]) (fun p=>p a=some (.list (ns.map fun i=>.int i 0))) loc hp):i3 C A (.Name x px) [x] (.ref a) loc hp K:=
 bT hh ha (by rw [List.map_map];exact h)
noncomputable def F7:Nat→List Value→List (List Value)
 | _,[]=>[]
 | n,x::xs=>[.int n 0,x]::F7 (n+1) xs
theorem lD:∀ (xs:List Value) (n i:Nat),(F7 n xs)[i]?=(xs[i]?).map fun x=>[.int ((n+i:Nat):Int) 0,x]
 | [],n,i=>by rfl
 | x::xs,n,0=>by rfl
 | x::xs,n,i+1=>by
  have:=lD xs (n+1) i
  simp only [F7,List.getElem?_cons_succ,this]
  have e:n+1+i=n+(i+1):=by exact yT
  rw [e]
theorem lB:∀ (xs:List Value) (n:Nat),F7 n xs=(xs.zipIdx n).map fun x=>[.int x.2 0,x.1]
 | [],n=>rfl
 | x::xs,n=>by simp only [F7,lB xs (n+1),List.zipIdx_cons,List.map_cons]
theorem lC:∀ (xs:List Value) (n:Nat),(F7 n xs).length=xs.length
 | [],n=>rfl
 | x::xs,n=>by simp [F7,lC xs]
noncomputable def lA (e it a:Addr) (i:Nat) (r:HP):Prop:=e≠it∧∃ old,r=k0 (k0 B2 it (X0 a i)) e (Z7 e it i .none old)
theorem eV {e it a:Addr} {i:Nat} {r:HP} (h:lA e it a i r):∃ old,r it=some (X0 a i)∧r e=some (Z7 e it i .none old):=by
 refine P5 h fun hne old hR0=>?_;try clear h;subst hR0
 exact ⟨old,by rw [H0 _ _ hne.symm,s0],s0 ..⟩
theorem oU (hh:A.handled=none) {a e it:Addr} {xs:List Value} {x y:Str} {px py pos:Pos} {k} :
  H6 C A (.Tuple [.Name x px,.Name y py] k pos) [x,y] (.ref e) (F7 0 xs) (fun p=>p a=some (.list xs)) (lA e it a) where
 adv:=by
  intro i vs r p g fr E l Q hv hst hnd hap hok hQ s R S
  refine z0 (eV hst) fun old hrit hre=>?_
  refine P5 hst fun hne old' hr=>?_;try clear hst
  rw [lD,Nat.zero_add] at hv
  refine z0 (Option.map_eq_some_iff.mp hv) fun v hv2 hR0=>?_;subst hR0
  refine V0 (R.list (Z1 hnd)) fun us n el q=>?_
  refine z0 (X5 q hv2) fun u hu hR0=>?_;subst hR0
  have hIt:=U1 hap hrit
  have hE:=U1 hap hre
  have pit:p it=none:=hap it (by rw [hrit];exact fun e=>nomatch e)
  have pe:p e=none:=hap e (by rw [hre];exact fun e=>nomatch e)
  have hae:a≠e:=by rintro rfl;rw [pe] at hnd;exact J0 hnd
  have hai:a≠it:=by rintro rfl;rw [pit] at hnd;exact J0 hnd
  refine wpAny_pyNext_enum_item (R.obj hE) (R.iter hIt) ⟨_,el,rfl,n,rfl⟩ hu hne fun h' a1 a2 a3 a4 a5=>?_
  have hTe:s.heap.objs.size≠e:=Nat.ne_of_gt (R.lt_of_hp hE)
  have hTi:s.heap.objs.size≠it:=Nat.ne_of_gt (R.lt_of_hp hIt)
  have pT:p s.heap.objs.size=none:=by
   cases q:p s.heap.objs.size with
   | none=>rfl
   | some o=>exact absurd (R.lt_of_hp (Z1 q)) (Nat.lt_irrefl _)
  generalize hT:s.heap.objs.size=T at a1 a3 a4 hTe hTi pT ⊢
  let r₂:HP:=k0 (k0 (k0 B2 it (X0 a (i+1))) e (Z7 e it ((i:Int)+1) (rawInt T) u)) T (.tuple [.int i 0,nm u])
  have ap₂:O1 p r₂:=C4 (C4 (C4 (E4 _) pit) pe) pT
  have R₂:F0 C.H₀ g fr l (C0 p r₂) h':=by
   refine R.step (W:=fun b=>b=e∨b=it) (fun b hb=>?_) (fun b o hb eo=>a5 b o (fun q=>hb (.inl q)) (fun q=>hb (.inr q)) eo) fun b ao eb=>?_
   ·rcases hb with rfl | rfl
    ·exact ⟨_,hE⟩
    ·exact ⟨_,hIt⟩
   ·unfold C0 at eb
    cases q:p b with
    | some o=>
     rw [q] at eb;cases eb
     refine Q2 (R.at_ b _ (Z1 q)) fun Z Z Z o' ho' hi'=>?_
     exact ⟨.inl ⟨_,Z1 q⟩,o',a5 b o' (by rintro rfl;rw [pe] at q;exact J0 q) (by rintro rfl;rw [pit] at q;exact J0 q) ho',hi'⟩
    | none=>
     rw [q] at eb
     by_cases hbT:b=T
     ·subst hbT
      simp only [r₂,s0] at eb
      cases eb
      exact ⟨.inr (by rw [hT];exact Nat.le_refl _),_,a3,_,_,rfl,rfl⟩
     ·by_cases hbe:b=e
      ·subst hbe
       simp only [r₂] at eb
       rw [H0 _ _ hTe.symm,s0] at eb
       cases eb
       exact ⟨.inl ⟨_,hE⟩,_,a1,rfl⟩
      ·by_cases hbi:b=it
       ·subst hbi
        simp only [r₂] at eb
        rw [H0 _ _ hTi.symm,H0 _ _ hbe,s0] at eb
        cases eb
        refine J2 a2 fun o ho hc hd=>?_;try clear a2
        exact ⟨.inl ⟨_,hIt⟩,o,ho,hc,hd⟩
       ·simp only [r₂] at eb
        rw [H0 _ _ hbT,H0 _ _ hbe,H0 _ _ hbi] at eb
        exact J0 eb
  refine ⟨S,l,C0 p r₂,R₂,_,rfl,?_⟩
  intro s₃ R₃ S₃
  have hE₂:C0 p r₂ e=some (Z7 e it ((i:Int)+1) (rawInt T) u):=U1 ap₂ (by simp only [r₂];rw [H0 _ _ hTe.symm,s0])
  refine wpAny_letOwnedTupleGo_enum (R₃.obj hE₂) fun h₄ he₄ hs₄=>?_
  have R₄:=R₃.chg hE₂ hs₄.extBut he₄ (ao':=Z7 e it ((i:Int)+1) .none u) rfl
  refine ⟨S₃,l,_,R₄,?_⟩
  have hTT:k0 (C0 p r₂) e (Z7 e it ((i:Int)+1) .none u) T=some (.tuple [.int i 0,nm u]):=by
   rw [H0 _ _ hTe]
   exact U1 ap₂ (s0 ..)
  refine aD (cH hh hTT (hok x (.head _)) (hok y (.tail _ (.head _))) ⟨C0 p (k0 (k0 B2 it (X0 a (i+1))) e (Z7 e it ((i+1:Nat):Int) .none u)),fun b o eb=>?_,hQ _ ⟨hne,u,rfl⟩ (C4 (C4 (E4 _) pit) pe)⟩)
  rw [U4 pe]
  unfold C0 at eb ⊢
  cases q:p b with
  | some o'=>rw [q] at eb;exact eb
  | none=>
   rw [q] at eb
   simp only at eb ⊢
   by_cases hbe:b=e
   ·subst hbe
    rw [s0] at eb ⊢
    simp only [←eb];rfl
   ·rw [H0 _ _ hbe] at eb ⊢
    simp only [r₂]
    rw [H0 _ _ (show b≠T by
     rintro rfl
     rw [H0 _ _ hTi] at eb;exact J0 eb),H0 _ _ hbe]
    exact eb
 stp:=by
  intro r p g fr E l Q hst hnd hap hQ s R S
  refine z0 (eV hst) fun old hrit hre=>?_
  rw [lC] at hrit hre
  refine V0 (R.list (Z1 hnd)) fun us n el q=>?_
  have hIt:=U1 hap hrit
  have hE:=U1 hap hre
  have pit:p it=none:=hap it (by rw [hrit];exact fun e=>nomatch e)
  refine wpAny_pyNext_enum_end hh (R.obj hE) (R.iter hIt) ⟨_,el,rfl,n,rfl⟩ (by rw [←M2 q];simp) fun h' hx=>⟨S,l,C0 p B2,?_,rfl,hQ _ (E4 _)⟩
  rw [k5]
  exact R.drop1 hIt hx fun b o e=>⟨(by rintro rfl;rw [pit] at e;exact J0 e),Z1 e⟩
 self:=by
  intro i r p g fr E l Q hst hnd hap hQ s R S
  refine z0 (eV hst) fun old hrit hre=>?_
  exact wpAny_pyIter_enum (R.obj (U1 hap hre)) ⟨S,l,_,R,hQ⟩
 up:=fun p p' h e=>h _ _ e
theorem Cp (hh:A.handled=none) {a:Addr} {xs:List Value} {x y:Str} {px py pos:Pos} {k} {K:List (List Value)→(HP→Prop)→j0→HP→Prop} (ha:hp a=some (.list xs))
  (h:K (F7 0 xs) (fun p=>p a=some (.list xs)) loc hp) :
  M0 C A g fr E (.type "enumerate") [.ref a] [] loc hp fun v l p=>i3 C A (.Tuple [.Name x px,.Name y py] k pos) [x,y] v l p K:=I3 fun v hv=>by
 have:=Q0 hv;subst this
 intro s R S
 refine V0 (R.list ha) fun us n el q=>?_
 refine call_enumerate_list ⟨_,el,rfl,n,rfl⟩ fun h' he hi hz hk=>?_
 have n0:=R.none_at
 have n1:hp (s.heap.objs.size+1)=none:=by
  cases q:hp (s.heap.objs.size+1) with
  | none=>rfl
  | some o=>exact absurd (R.lt_of_hp q) (Nat.not_lt.mpr (Nat.le_succ _))
 generalize hit:s.heap.objs.size=it at he hi hz n0 n1 ⊢
 have hne:it+1≠it:=by exact yS
 let r:HP:=k0 (k0 B2 it (X0 a 0)) (it+1) (Z7 (it+1) it ((0:Nat):Int) .none .none)
 have hap:O1 hp r:=C4 (C4 (E4 _) n0) n1
 refine ⟨S,loc,C0 hp r,?_,_,_,r,hp,rfl,ha,hap,fun g fr E l p x' Q hx hnd hap hQ s R S=>?_,h⟩
 ·refine R.step (W:=fun Z=>False) (fun b hb=>hb.elim) (fun b o Z e=>hk b o e) fun b ao eb=>?_
  unfold C0 at eb
  cases q:hp b with
  | some o=>
   rw [q] at eb;cases eb
   refine Q2 (R.at_ b _ q) fun Z Z Z o' ho' hi'=>?_
   exact ⟨.inl ⟨_,rfl⟩,o',hk b o' ho',hi'⟩
  | none=>
   rw [q] at eb
   simp only [r] at eb
   by_cases hb1:b=it+1
   ·subst hb1
    rw [s0] at eb;cases eb
    exact ⟨.inr (by exact yR hit),_,he,rfl⟩
   ·rw [H0 _ _ hb1] at eb
    by_cases hb2:b=it
    ·subst hb2
     rw [s0] at eb;cases eb
     refine J2 hi fun o ho hc hd=>?_;try clear hi
     exact ⟨.inr (by exact gB hit),o,ho,hc,hd⟩
    ·rw [H0 _ _ hb2] at eb;exact J0 eb
 ·simp only [Q0 hx]
  exact wpAny_pyIter_enum (R.obj (U1 hap (s0 ..))) ⟨S,l,_,R,hQ _ _ r (oU hh) ⟨hne,.none,rfl⟩ hap⟩
theorem ah (hh:A.handled=none) {a:Addr} {xs:List Value} {x y:Str} {px py pos:Pos} {k} {K:List (List Value)→(HP→Prop)→j0→HP→Prop} (ha:hp a=some (.list xs))
  (h:K (xs.zipIdx.map fun x=>[.int x.2 0,x.1]) (fun p=>p a=some (.list xs)) loc hp) :
  M0 C A g fr E (.type "enumerate") [.ref a] [] loc hp fun v l p=>i3 C A (.Tuple [.Name x px,.Name y py] k pos) [x,y] v l p K:=Cp hh ha (by rw [lB];exact h)
end
end
section
section
variable {α:Type} {C:Cx} {A:Around} {g:Heap} {fr:Fm} {E:Value→Shared→Prop} {loc:j0} {hp:HP}
theorem mU {elts:List Expr} {pos:Pos} {Q:Value→j0→HP→Prop} (hs:elts.all i5=true)
  (h:V3 C A g fr E elts loc hp fun xs l p=>xs.length≤100000∧∀ a,p a=none→Q (.ref a) l (k0 p a (.list xs))):w0 C A g fr E (eval (.List elts pos) fr.env) loc hp Q:=by
 refine N3 (arm_eval_List ..) (E0 (U2 (E0 (Z0 (cF hs h) fun vs l p hZ0=>B0 hZ0 fun h1 h2=>?_))))
 rw [List.length_map] at h1
 exact ED (by rw [sizeLine_eq];exact bx h1) h2
theorem ET {elts:List Expr} {k} {pos:Pos} {Q:Value→j0→HP→Prop} (hs:elts.all i5=true)
  (h:V3 C A g fr E elts loc hp fun xs l p=>xs.length≤100000∧∀ a,p a=none→Q (.ref a) l (k0 p a (.tuple xs))):w0 C A g fr E (eval (.Tuple elts k pos) fr.env) loc hp Q:=by
 refine N3 (arm_eval_Tuple ..) (E0 (U2 (E0 (Z0 (cF hs h) fun vs l p hZ0=>B0 hZ0 fun h1 h2=>?_))))
 rw [List.length_map] at h1
 exact EC (by rw [sizeLine_eq];exact bx h1) h2
theorem F0.alloc' {H₀ h:Heap} {o:Obj} {ao:AO} (R:F0 H₀ g fr loc hp h) (hf:o.isFreed=false) (hi:ao.is o):F0 H₀ g fr loc (k0 hp h.objs.size ao) (h.push o):=R.alloc hf hi
theorem ae {a b:Addr} {xs ys:List Value} {Q:Value→j0→HP→Prop} (ha:hp a=some (.list xs)) (hb:hp b=some (.list ys)) (hsz:xs.length+ys.length≤100000)
  (h:∀ c,hp c=none→Q (.ref c) loc (k0 hp c (.list (xs++ys)))):I1 C A g fr E (binaryOp .Add) (.ref a) (.ref b) loc hp Q:=by
 intro x y hx hy
 rw [Q0 hx,Q0 hy]
 intro s R S
 refine V0 (R.list ha) fun vs n e q=>?_
 refine V0 (R.list hb) fun ws n' e' q'=>?_
 have h1:=M2 q
 have h2:=M2 q'
 exact P.add_list e e' ⟨S,loc,_,R.alloc (ao:=.list (xs++ys)) rfl ⟨_,_,rfl,by simp only [Array.toList_append,List.map_append,q,q']⟩,h _ R.none_at⟩ (by rw [sizeLine_eq];exact yQ h1 h2 hsz)
noncomputable def t5 (C:Cx) (A:Around) (g:Heap) (fr:Fm) (E:Value→Shared→Prop) (e:Option Expr) (l:j0) (p:HP) (K:Option Int→j0→HP→Prop):Prop:=
 match e with
 | none=>K none l p
 | some e=>w0 C A g fr E (eval e fr.env) l p fun v l p=>∃ i,v=.int i 0∧K (some i) l p
theorem I7 {e:Option Expr} {K:Option Int→j0→HP→Prop} (h:t5 C A g fr E e loc hp K):aw C A g fr E (evalPart e fr.env) loc hp fun v l p=>∃ i,IsPart v i∧K i l p:=by
 cases e with
 | none=>simp only [evalPart_none];exact N1 ⟨_,.none,h⟩
 | some e=>
  simp only [evalPart_some]
  refine Z0 h fun v l p hZ0=>z0 hZ0 fun i e q=>?_
  refine o0 (S0 e) fun t hR0=>?_;subst hR0
  exact ⟨_,.int i t,q⟩
noncomputable def W2 (xs:List Value) (lo hi:Option Int):List Value:=(xs.drop (lo.elim 0 (clipAt xs.length))).take (hi.elim xs.length (clipAt xs.length) - lo.elim 0 (clipAt xs.length))
theorem EZ {value:Expr} {lower upper:Option Expr} {p₁ pos:Pos} {Q:Value→j0→HP→Prop} (ht:∀ o r,letTemporaryGo value o r=pure ())
  (h:w0 C A g fr E (eval value fr.env) loc hp fun x l p=>t5 C A g fr E lower l p fun lo l p=>t5 C A g fr E upper l p fun hi l p=>∃ a xs,x=.ref a∧p a=some (.list xs)∧xs.length≤100000∧
   ∀ c,p c=none→Q (.ref c) l (k0 p c (.list (W2 xs lo hi)))) :
  w0 C A g fr E (eval (.Subscript value (.Slice lower upper none p₁) pos) fr.env) loc hp Q:=fun s R S=>by
 refine wpAny_Subscript_list_slice (wpAny_mono (h s R S) (fun x s₁ hZ0=>Q3 hZ0 fun S₁ l₁ p₁ R₁ h₁=>wpAny_mono (I7 h₁ s₁ R₁ S₁) (fun vl s₂ hZ0=>G7 hZ0 fun S₂ l₂ p₂ R₂ lo hlo h₂=>
  wpAny_mono (I7 h₂ s₂ R₂ S₂) (fun vu s₃ hZ0=>ch hZ0 fun S₃ l₃ p₃ R₃ hi hhi a zr0=>P8 zr0 fun xs e ha hsz hQ=>?_) fun Z Z e=>e) fun Z Z e=>e) fun Z Z e=>e) ht
 have:=Q0 e;subst this
 refine V0 (R₃.list ha) fun vs n e q=>?_
 have hz:=M2 q
 refine ⟨a,vs,lo,hi,rfl,⟨_,e,rfl,n,rfl⟩,by rw [sizeLine_eq];exact B8 hsz hz,hlo,hhi,S₃,l₃,k0 p₃ (s₃.heap.objs.size+1) (.list (W2 xs lo hi)),?_,hQ _ ?_⟩
 ·have R₄:=R₃.alloc (ao:=.sat fun Z=>True) (o:={cls:=.type "slice",data:=.fields #[vl,vu,.none]}) rfl trivial
  have R₅:=R₄.alloc (ao:=.list (W2 xs lo hi)) (o:={cls:=.type "list",data:=.seq (slicePick vs lo hi none)}) rfl ⟨_,_,rfl,by
   rw [slicePick_plain,hz,List.map_take,List.map_drop,q];rfl⟩
  simp only [Heap.size_push] at R₅
  refine R₅.forget (fun Z Z e=>e) fun b o eb=>?_
  unfold k0 at eb ⊢
  by_cases hb:b=s₃.heap.objs.size+1
  ·rwa [if_pos hb] at eb ⊢
  ·rw [if_neg hb] at eb ⊢
   rw [if_neg (by rintro rfl;rw [R₃.none_at] at eb;cases eb)]
   exact eb
 ·cases q:p₃ (s₃.heap.objs.size+1) with
  | none=>rfl
  | some o=>exact absurd (R₃.lt_of_hp q) (Nat.not_lt.mpr (Nat.le_succ _))
theorem kK {vs:Array Value} {ns:List Int} (q:vs.toList.map nm=ns.map fun i=>Value.int i 0):∃ xs:Array (Int × Tok),vs=intItems xs∧xs.toList.map (·.1)=ns:=by
 have:∀ (vl:List Value) (ns:List Int),vl.map nm=ns.map (fun i=>Value.int i 0)→∃ xl:List (Int × Tok),vl=xl.map (fun p=>Value.int p.1 p.2)∧xl.map (·.1)=ns:=by
  intro vl
  induction vl with
  | nil=>intro ns q;cases ns with
   | nil=>exact ⟨[],rfl,rfl⟩
   | cons=>cases q
  | cons v r ih=>
   intro ns q
   cases ns with
   | nil=>cases q
   | cons n ns=>
    injection q with a b
    refine o0 (S0 a) fun t hR0=>?_;subst hR0
    refine z0 (ih ns b) fun xl e1 e2=>?_
    exact ⟨(n,t)::xl,by rw [e1];rfl,by rw [←e2];rfl⟩
 refine z0 (this vs.toList ns q) fun xl e1 e2=>?_
 refine ⟨xl.toArray,?_,e2⟩
 apply Array.toList_inj.mp
 rw [e1];simp [intItems]
theorem cB {a:Addr} {ns:List Int} {Q:Value→j0→HP→Prop} (hh:A.handled=none) (ha:hp a=some (.list (ns.map fun i=>.int i 0))) (hne:ns≠[]) (h:∀ M,M∈ns→(∀ x∈ns,x≤M)→Q (.int M 0) loc hp) :
  M0 C A g fr E (.builtin "max") [.ref a] [] loc hp Q:=I3 fun v hv=>by
 have:=Q0 hv;subst this
 intro s R S
 refine V0 (R.list ha) fun vs n e q=>?_
 refine z0 (kK q) fun xs hR0 e2=>?_;subst hR0
 have hsz:0 < xs.size:=by
  rw [←Array.length_toList,←List.length_map (f:=(·.1)),e2];exact List.length_pos_iff.mpr hne
 refine max_intList hh ⟨_,e,rfl,n,rfl⟩ hsz fun v h' tk hv hk=>?_
 refine o0 (intItems_at hv) fun t hR0=>?_;subst hR0
 refine B0 (argBest_gt (numAt xs) (xs.size - 1)) fun h1 h2=>?_
 refine ⟨S,loc,hp,R.keeps hk,h _ ?_ fun x hx=>?_⟩
 ·rw [numAt_eq,e2];exact PySem.getD_mem (by simp only [←e2,List.length_map,Array.length_toList];exact yP hsz h1)
 ·refine z0 (PySem.mem_getD hx) fun j hj hR0=>?_;subst hR0
  rw [←e2,List.length_map,Array.length_toList] at hj
  rw [←e2,←numAt_eq];exact h2 j (by exact gA hj)
noncomputable def F8 (C:Cx) (A:Around) (g:Heap) (fr:Fm) (E:Value→Shared→Prop) (name:Str) (x:Value) (l:j0) (p:HP) (f:Value):Prop:=
 ∀ v pl,nm v=x→aw C A g fr E (getMethod v name pl) l p fun r l' p'=>l'=l∧p'=p∧r=(f,[v])
theorem B6 {a:Addr} {xs:List Value} {name:Str} {id:String} (slot:Slot "list" name id) (hty:typeOf (.builtin id)=pure (.type "method_descriptor")) (ha:hp a=some (.list xs)):F8 C A g fr E name (.ref a) loc hp (.builtin id):=by
 intro v pl hv s R S
 have:=Q0 hv;subst this
 refine V0 (R.list ha) fun vs n e q=>?_
 exact getMethod_builtin ⟨_,e,rfl⟩ F.plainAttrs_list slot hty (fun b eb=>by cases eb;exact ⟨_,e,rfl⟩) ⟨S,loc,hp,R,rfl,rfl,rfl⟩
theorem bH {x:Str} {name:Str} {id:String} (slot:Slot "str" name id) (hty:typeOf (.builtin id)=pure (.type "method_descriptor")):F8 C A g fr E name (.str x 0) loc hp (.builtin id):=by
 intro v pl hv s R S
 refine o0 (w4 hv) fun t hR0=>?_;subst hR0
 exact getMethod_builtin (typeIs_str _ _ _) F.plainAttrs_str slot hty (fun b eb=>by cases eb) ⟨S,loc,hp,R,rfl,rfl,rfl⟩
theorem Fj {o:Expr} {name:Str} {apos pos:Pos} {es:List Expr} {Q:Value→j0→HP→Prop} (hbase:attributeBase o name fr.env (eval o fr.env)=eval o fr.env) (hs:es.all i5=true) (hlen:es.length < 30) (hline:(apos.endLine == pos.line)=true)
  (h:w0 C A g fr E (eval o fr.env) loc hp fun x l p=>∃ f,F8 C A g fr E name x l p f∧V3 C A g fr E es l p fun xs l p=>Kp C A g fr E f l p∧M0 C A g fr E f (x::xs) [] l p Q) :
  w0 C A g fr E (eval (.Call (.Attribute o name apos) es [] pos) fr.env) loc hp Q:=by
 refine N3 (arm_eval_Call ..) ?_
 simp only [hbase]
 refine E0 (Z0 h fun v l p hZ0=>z0 hZ0 fun f hm ha=>E0 (U2 ?_))
 have hform:methodCallForm (es.length+([]:List Keyword).length) (backTo pos (starEach es fr.env)) (backToKw pos (keywordEach [] fr.env))=true:=by
  unfold methodCallForm
  have h1:(backTo pos (starEach es fr.env)).all (fun x=>!x.1)=true:=by
   have:=dQ (pos:=pos) (env:=fr.env) hs
   rw [List.any_eq_false] at this
   rw [List.all_eq_true]
   intro x hx
   have:=this x hx
   simpa using this
  rw [h1]
  simp only [Bool.true_and,backToKw,keywordEach,List.map_nil,List.all_nil,List.length_nil,Nat.add_zero,List.isEmpty_nil,if_true,decide_eq_true_eq]
  exact hlen
 unfold methodCall
 rw [hform]
 have hpos:methodCallPos true o fr.env apos pos=pure pos:=by unfold methodCallPos;simp [hline]
 rw [hpos]
 refine E0 (N2 ?_)
 have:=hm v (do return (←importBound o fr.env).getD true) rfl
 refine Z0 (show aw C A g fr E (calleeOf true o fr.env v name) l p _ from this) fun r l' p' hZ0=>V1 hZ0 fun e1 e2 e3=>?_
 subst e1;subst e2;subst e3
 refine E0 (N1 ?_)
 have hk:V3 C A g fr E es l' p' fun xs l p=>R5 C A g fr E [] l p fun kx l p=>Kp C A g fr E f l p∧M0 C A g fr E f ([v].map nm++xs) kx l p Q:=ha
 exact mQ hs rfl hk
theorem ag {a:Addr} {xs:List Value} {y:Value} {Q:Value→j0→HP→Prop} (ha:hp a=some (.list xs)) (hsz:xs.length≤100000) (h:Q .none loc (k0 hp a (.list (xs++[y])))) :
  M0 C A g fr E (.builtin "list.append") [.ref a,y] [] loc hp Q:=N5 fun v u hv hu=>by
 have:=Q0 hv;subst this
 subst hu
 exact fm ha (by rw [sizeLine_eq];exact bx hsz) h
theorem F0.updSeq {H₀ h:Heap} {a:Addr} {xs ys:List Value} {f:Array Value→Array Value} (R:F0 H₀ g fr loc hp h) (ha:hp a=some (.list xs)) (hf:∀ vs:Array Value,vs.toList.map nm=xs→(f vs).toList.map nm=ys) :
  F0 H₀ g fr loc (k0 hp a (.list ys)) (h.update a (Obj.mapSeq f)):=by
 refine V0 (R.list ha) fun vs n e q=>?_
 exact R.chg ha (Heap.SameBut.update ..).extBut (PySem.IsL.update e f) ⟨_,_,rfl,hf vs q⟩
noncomputable def T4 (xs:List Value) (k:Nat) (y:Value):List Value:=xs.take k++y::xs.drop k
theorem bJ {a:Addr} {xs:List Value} {k:Nat} {y:Value} {Q:Value→j0→HP→Prop} (ha:hp a=some (.list xs)) (hk:k≤xs.length) (hsz:xs.length≤100000) (h:Q .none loc (k0 hp a (.list (T4 xs k y)))) :
  M0 C A g fr E (.builtin "list.insert") [.ref a,.int k 0,y] [] loc hp Q:=G8 fun v u w hv hu hw=>by
 have:=Q0 hv;subst this
 refine o0 (S0 hu) fun t hR0=>?_;subst hR0
 subst hw
 intro s R S
 refine V0 (R.list ha) fun vs n e q=>?_
 have hz:=M2 q
 obtain ⟨z,hzk⟩:∃ z:Int,z=k:=⟨_,rfl⟩
 rw [←hzk]
 have hf:¬(!Builtin.List.listFitsIndex z)=true:=by
  have:Builtin.List.listFitsIndex z=true:=by
   unfold Builtin.List.listFitsIndex
   simp only [Bool.and_eq_true,decide_eq_true_eq]
   exact nQ hzk hk hsz
  rw [this];exact Bool.false_ne_true
 have hz':vs.size≤sizeLine:=by rw [sizeLine_eq];exact B8 hsz hz
 refine call_meets PySem.F.slot_list_insert ⟨_,e,rfl⟩ PySem.F.entry_list_insert (PySem.F.args_list_insert_3 _ _ _) (PySem.AutoSeq1.list_insert_list_int_val_1 a vs n z t w hf hz') ⟨e,S,loc,_,R.updSeq (ys:=T4 xs k (nm w)) ha (fun us hus=>?_),h⟩
 have hu:=M2 hus
 dsimp only
 have h0:¬z < 0:=by exact yO hzk
 have h1:min z.toNat us.size=k:=by exact yN hzk hu hk
 rw [if_neg h0,h1]
 unfold T4
 subst hus
 simp [List.map_take,List.map_drop]
 rw [List.take_of_length_le]
 simp
end
end
section
noncomputable def W0:Expr→List Str
 | .Name x _=>[x]
 | .Tuple [.Name x _,.Name y _] _ _=>[x,y]
 | _=>[]
section
variable {α:Type} {C:Cx} {A:Around} {g:Heap} {fr:Fm} {E:Value→Shared→Prop} {loc:j0} {hp:HP} {sc:Scope} {ow:Str→Bool} {scope:Scope}
theorem mT {elt target iter:Expr} {ifs:List Expr} {pos:Pos} {Q:Value→j0→HP→Prop} (F:P0 fr sc ow) (hs:E2 scope sc=true)
  (hfs:∀ x,foldedSetIterable iter fr.env x=pure x) (hok:(W0 target).all (fun x=>scope.names.lookup x == some .local || scope.names.lookup x == some .cell)=true)
  (h:w0 C A g fr E (eval iter fr.env) loc hp fun x l p=>r6 C A fr sc scope target elt ifs (W0 target) x l p Q) :
  w0 C A g fr E (eval (.ListComp elt [⟨target,iter,ifs,0⟩] scope pos) fr.env) loc hp Q:=Fb F hs hfs hok h
theorem Fo {elt target iter:Expr} {ifs:List Expr} {pos pos' spos:Pos} {x:Str} {Q:Flow→j0→HP→Prop} (hsw:swapsWith (.ListComp elt [⟨target,iter,ifs,0⟩] scope pos) (some (.Name x pos')) spos.line fr.env=pure true)
  (hx:M1 fr x) (F:P0 fr sc ow) (hs:E2 scope sc=true)
  (hfs:∀ x,foldedSetIterable iter fr.env x=pure x) (hok:(W0 target).all (fun x=>scope.names.lookup x == some .local || scope.names.lookup x == some .cell)=true)
  (h:w0 C A g fr E (eval iter fr.env) loc hp fun y l p=>r6 C A fr sc scope target elt ifs (W0 target) y l p fun v l p=>Q .next (N0 l x v) p) :
  I0 C A g fr E (exec (.Assign [.Name x pos'] (.ListComp elt [⟨target,iter,ifs,0⟩] scope pos) spos) fr.env) loc hp Q:=Fp hsw hx F hs hfs hok h
theorem Ff (F:P0 fr sc ow) {e pos} {Q:Flow→j0→HP→Prop} (hs:swapsWith e none pos.line fr.env=pure false)
  (h:w0 C A g fr E (eval e fr.env) loc hp fun v l p=>v=.none∧Q .next l p):I0 C A g fr E (exec (.Expr e pos) fr.env) loc hp Q:=
 Fg (by unfold interactive;rw [F.scope,F.kind];rfl) hs (k7 h fun v l p hZ0=>B0 hZ0 fun a b=>⟨(fun x e=>by rw [a] at e;cases e),b⟩)
theorem oE {i:Int} {Q:Bool→j0→HP→Prop} (h:Q (decide (i≠0)) loc hp):o9 C A g fr E truthy (.int i 0) loc hp Q:=by
 intro x hx
 refine o0 (S0 hx) fun t hR0=>?_;subst hR0
 have e:decide (i≠0)=(i != 0):=by by_cases h:i=0 <;> simp [h]
 rw [e] at h
 exact fun s R S=>PyProof.Rows.truthy_int ⟨S,loc,hp,R,h⟩
noncomputable def cS (sc scope:Scope) (t:Str) (l1 l2:Nat):Bool:=sc.names.lookup t == some .local && l1 == l2 && !(scope.names.any fun (n,k)=>n == t && (k == .local || k == .cell))
theorem fW (F:P0 fr sc ow) {elt:Expr} {gens:List Comprehension} {pos pos':Pos} {t:Str} {line:Nat}:swapsWith (.ListComp elt gens scope pos) (some (.Name t pos')) line fr.env=pure (cS sc scope t pos'.line pos.line):=by
 delta swapsWith cS
 simp only
 unfold Env.blockKind Env.kindOf
 rw [F.scope,F.kind]
 rfl
theorem Fw {elt target iter:Expr} {ifs:List Expr} {pos pos' spos:Pos} {x:Str} {Q:Flow→j0→HP→Prop} (F:P0 fr sc ow)
  (hx:M1 fr x) (hs:E2 scope sc=true)
  (hfs:∀ x,foldedSetIterable iter fr.env x=pure x) (hok:(W0 target).all (fun x=>scope.names.lookup x == some .local || scope.names.lookup x == some .cell)=true)
  (h:w0 C A g fr E (eval iter fr.env) loc hp fun y l p=>r6 C A fr sc scope target elt ifs (W0 target) y l p fun v l p=>Q .next (N0 l x v) p) :
  I0 C A g fr E (exec (.Assign [.Name x pos'] (.ListComp elt [⟨target,iter,ifs,0⟩] scope pos) spos) fr.env) loc hp Q:=by
 cases hb:cS sc scope x pos'.line pos.line with
 | true=>exact Fo (by rw [fW F,hb]) hx F hs hfs hok h
 | false=>exact fB (by rw [fW F,hb]) hx (mT F hs hfs hok h)
noncomputable def nb (C:Cx) (A:Around) (fr:Fm) (target:Expr) (names:List Str) (body orelse:List Stmt) (x:Value) (l:j0) (p:HP) (Q:Flow→j0→HP→Prop):Prop:=
 i3 C A target names x l p fun vss need l p=>
   ∃ Inv:Nat→j0→HP→Prop,Inv 0 l p∧(∀ i l p,Inv i l p→need p)∧
    (∀ i vs l p g' E',vss[i]?=some vs→Inv i l p→I0 C A g' fr E' (execs body fr.env) (K0 names vs l) p (Ce Inv i Q))∧(∀ l p g' E',Inv vss.length l p→I0 C A g' fr E' (execs orelse fr.env) l p Q)
noncomputable def cI (sc:Scope) (ow:Str→Bool) (names:List Str):Bool:=names.all fun x=>sc.names.lookup x == some .local || (sc.names.lookup x == some .cell && ow x)
theorem P0.stoAll (F:P0 fr sc ow) {names:List Str} (h:cI sc ow names=true):∀ x∈names,M1 fr x:=fun x hx=>by
 have:=List.all_eq_true.mp h x hx
 rcases Bool.or_eq_true_iff.mp this with q | q
 ·exact F.stoL (by simpa using q)
 ·simp only [Bool.and_eq_true] at q
  exact F.stoC (by simpa using q.1) q.2
theorem Es {target iter:Expr} {body orelse:List Stmt} {pos:Pos} {Q:Flow→j0→HP→Prop} (F:P0 fr sc ow) (hfs:∀ x,foldedSetIterable iter fr.env x=pure x) (hok:cI sc ow (W0 target)=true)
  (h:w0 C A g fr E (eval iter fr.env) loc hp fun x l p=>nb C A fr target (W0 target) body orelse x l p Q) :
  I0 C A g fr E (exec (.For target iter body orelse pos) fr.env) loc hp Q:=Et hfs (F.stoAll hok) h
theorem EE {e:Expr} {Q:Bool→j0→HP→Prop} (he:isTrue e fr.env (eval e fr.env)=(do let v ←eval e fr.env;standAt e.pos;holding [v] (truthy v)))
  (h:w0 C A g fr E (eval e fr.env) loc hp fun x l p=>o9 C A g fr E truthy x l p Q):aw C A g fr E (isTrue e fr.env (eval e fr.env)) loc hp Q:=EF he h
end
noncomputable def Y0 (p:HP) (a:Addr) (ts:List Addr) (rows:List (List Int)):Prop:=
 p a=some (.list (ts.map .ref))∧ts.length=rows.length∧ts.Nodup∧∀ (k:Nat) (T:Addr) (r:List Int),ts[k]?=some T→rows[k]?=some r→p T=some (.list (r.map fun i=>.int i 0))
end
section
section
variable {α:Type} {C:Cx} {A:Around} {g:Heap} {fr:Fm} {E:Value→Shared→Prop} {loc:j0} {hp:HP} {sc:Scope} {scope:Scope}
theorem m9 {f:Value} {xs:List Value} {kx:List (Str × Value)} {Q Q':Value→j0→HP→Prop} (h:M0 C A g fr E f xs kx loc hp Q) (hq:∀ v l p,Q v l p→Q' v l p):M0 C A g fr E f xs kx loc hp Q':=
 fun vs kw a b=>k7 (h vs kw a b) hq
noncomputable def k8 (TI TO:Addr) (f0:Value):AO:=.obj {cls:=.type "zip",dict:=none,data:=.fields #[f0,.bool false,.bool false,.ref TI,.ref TO],slots:=#[]}
noncomputable def l9 (a b:Value):AO:=.obj {cls:=.type "tuple",data:=.seq #[a,b]}
noncomputable def O3 (z TI TO i1 i2 l1 l2:Addr) (f0 a b:Value) (i j:Nat):HP:=k0 (k0 (k0 (k0 (k0 B2 i2 (X0 l2 j)) i1 (X0 l1 i)) TO (l9 a b)) TI (l9 (.ref i1) (.ref i2))) z (k8 TI TO f0)
structure j8 (z TI TO i1 i2:Addr):Prop where
 a1:TI≠z
 a2:TO≠z
 a3:i1≠z
 a4:i2≠z
 a5:TI≠TO
 a6:TI≠i1
 a7:TI≠i2
 a8:TO≠i1
 a9:TO≠i2
 a10:i1≠i2
section
variable {z TI TO i1 i2 l1 l2:Addr} {f0 a b:Value} {i j:Nat}
theorem U5:O3 z TI TO i1 i2 l1 l2 f0 a b i j z=some (k8 TI TO f0):=s0 ..
theorem X8 (D:j8 z TI TO i1 i2):O3 z TI TO i1 i2 l1 l2 f0 a b i j TI=some (l9 (.ref i1) (.ref i2)):=by
 unfold O3;rw [H0 _ _ D.a1,s0]
theorem A7 (D:j8 z TI TO i1 i2):O3 z TI TO i1 i2 l1 l2 f0 a b i j TO=some (l9 a b):=by
 unfold O3;rw [H0 _ _ D.a2,H0 _ _ D.a5.symm,s0]
theorem z7 (D:j8 z TI TO i1 i2):O3 z TI TO i1 i2 l1 l2 f0 a b i j i1=some (X0 l1 i):=by
 unfold O3;rw [H0 _ _ D.a3,H0 _ _ D.a6.symm,H0 _ _ D.a8.symm,s0]
theorem w7 (D:j8 z TI TO i1 i2):O3 z TI TO i1 i2 l1 l2 f0 a b i j i2=some (X0 l2 j):=by
 unfold O3;rw [H0 _ _ D.a4,H0 _ _ D.a7.symm,H0 _ _ D.a9.symm,H0 _ _ D.a10.symm,s0]
theorem W8 {c:Addr} {o:AO} (D:j8 z TI TO i1 i2) (e:O3 z TI TO i1 i2 l1 l2 f0 a b i j c=some o) :
  (c=z∧o=k8 TI TO f0)∨(c=TI∧o=l9 (.ref i1) (.ref i2))∨(c=TO∧o=l9 a b)∨(c=i1∧o=X0 l1 i)∨(c=i2∧o=X0 l2 j):=by
 by_cases h1:c=z
 ·subst h1;rw [U5] at e;cases e;exact .inl ⟨rfl,rfl⟩
 by_cases h2:c=TI
 ·subst h2;rw [X8 D] at e;cases e;exact .inr (.inl ⟨rfl,rfl⟩)
 by_cases h3:c=TO
 ·subst h3;rw [A7 D] at e;cases e;exact .inr (.inr (.inl ⟨rfl,rfl⟩))
 by_cases h4:c=i1
 ·subst h4;rw [z7 D] at e;cases e;exact .inr (.inr (.inr (.inl ⟨rfl,rfl⟩)))
 by_cases h5:c=i2
 ·subst h5;rw [w7 D] at e;cases e;exact .inr (.inr (.inr (.inr ⟨rfl,rfl⟩)))
 unfold O3 at e
 rw [H0 _ _ h1,H0 _ _ h2,H0 _ _ h3,H0 _ _ h4,H0 _ _ h5] at e
 exact J0 e
end
noncomputable def nk (z TI TO i1 i2 l1 l2:Addr) (i:Nat) (r:HP):Prop:=j8 z TI TO i1 i2∧∃ a b,r=O3 z TI TO i1 i2 l1 l2 .none a b i i
theorem fI {z TI TO i1 i2 l1 l2:Addr} {p:HP} (D:j8 z TI TO i1 i2) {xs ys:List Value} {f0 a b:Value} {i j:Nat} (h1:p l1=some (.list xs)) (h2:p l2=some (.list ys)) (hap:O1 p (O3 z TI TO i1 i2 l1 l2 f0 a b i j)):ZipApart z TI TO i1 i2 l1 l2:=by
 have nz:p z=none:=hap z (by rw [U5];exact fun e=>nomatch e)
 have nTO:p TO=none:=hap TO (by rw [A7 D];exact fun e=>nomatch e)
 have n1:p i1=none:=hap i1 (by rw [z7 D];exact fun e=>nomatch e)
 have n2:p i2=none:=hap i2 (by rw [w7 D];exact fun e=>nomatch e)
 have ne:∀ {l c:Addr} {o:AO},p l=some o→p c=none→l≠c:=fun a b e=>by subst e;rw [b] at a;exact J0 a
 exact ⟨D.a1,D.a2,D.a3,D.a4,D.a5,D.a6,D.a7,D.a8,D.a9,D.a10,ne h1 nz,ne h1 nTO,ne h1 n1,ne h1 n2,ne h2 nz,ne h2 nTO,ne h2 n1,ne h2 n2⟩
theorem oQ (hh:A.handled=none) {z TI TO i1 i2 l1 l2:Addr} {xs ys:List Value} {x y:Str} {px py pos:Pos} {k} :
  H6 C A (.Tuple [.Name x px,.Name y py] k pos) [x,y] (.ref z) ((xs.zip ys).map fun v=>[v.1,v.2]) (fun p=>p l1=some (.list xs)∧p l2=some (.list ys)) (nk z TI TO i1 i2 l1 l2) where
 adv:=by
  intro i vs r p g fr E l Q hv hZ0 hZ1 hap hok hQ s R S;refine cj hZ0 fun D a b hR0=>?_;clear hZ0;subst hR0;refine B0 hZ1 fun hl1 hl2=>?_;clear hZ1
  rw [List.getElem?_map] at hv
  obtain ⟨⟨v1,v2⟩,hv2,rfl⟩:=Option.map_eq_some_iff.mp hv
  have hz:=List.getElem?_zip_eq_some.mp hv2
  refine V0 (R.list (Z1 hl1)) fun us1 n1 e1 q1=>?_
  refine V0 (R.list (Z1 hl2)) fun us2 n2 e2 q2=>?_
  refine z0 (X5 q1 hz.1) fun u1 hu1 hR0=>?_;subst hR0
  refine z0 (X5 q2 hz.2) fun u2 hu2 hR0=>?_;subst hR0
  have DA:=fI D hl1 hl2 hap
  have hZ:=U1 hap (U5 (z:=z) (TI:=TI) (TO:=TO) (i1:=i1) (i2:=i2) (l1:=l1) (l2:=l2) (f0:=.none) (a:=a) (b:=b) (i:=i) (j:=i))
  have hTI:=U1 hap (X8 (l1:=l1) (l2:=l2) (f0:=.none) (a:=a) (b:=b) (i:=i) (j:=i) D)
  have hTO:=U1 hap (A7 (l1:=l1) (l2:=l2) (f0:=.none) (a:=a) (b:=b) (i:=i) (j:=i) D)
  have h1:=U1 hap (z7 (l1:=l1) (l2:=l2) (f0:=.none) (a:=a) (b:=b) (i:=i) (j:=i) D)
  have h2:=U1 hap (w7 (l1:=l1) (l2:=l2) (f0:=.none) (a:=a) (b:=b) (i:=i) (j:=i) D)
  refine wpAny_pyNext_zip_item DA (R.obj hZ) (R.obj hTI) (R.obj hTO) (R.iter h1) (R.iter h2) ⟨_,e1,rfl,n1,rfl⟩ ⟨_,e2,rfl,n2,rfl⟩ hu1 hu2 fun h' a1 a2 a3 a4 a5 a6 a7=>?_
  have nT:C0 p (O3 z TI TO i1 i2 l1 l2 .none a b i i) s.heap.objs.size=none:=R.none_at
  have hTlt:s.heap.objs.size=s.heap.objs.size:=rfl
  generalize hT:s.heap.objs.size=T at a1 a5 nT ⊢
  have ne:∀ {c:Addr} {o:AO},C0 p (O3 z TI TO i1 i2 l1 l2 .none a b i i) c=some o→c≠T:=fun e e'=>by subst e';rw [nT] at e;exact J0 e
  have pn:∀ {c:Addr} {o:AO},O3 z TI TO i1 i2 l1 l2 .none a b i i c=some o→p c=none:=fun e=>hap _ (by rw [e];exact fun e=>nomatch e)
  have pT:p T=none:=by
   cases q:p T with
   | none=>rfl
   | some o=>rw [Z1 q] at nT;exact B5 nT
  let r₁:=O3 z TI TO i1 i2 l1 l2 (rawInt T) u1 u2 (i+1) (i+1)
  let r₂:HP:=k0 r₁ T (.tuple [nm u1,nm u2])
  have ap₁:O1 p r₁:=fun c hc=>by
   refine o0 (Option.ne_none_iff_exists'.mp hc) fun o ho=>?_
   rcases W8 D ho with ⟨rfl,_⟩ | ⟨rfl,_⟩ | ⟨rfl,_⟩ | ⟨rfl,_⟩ | ⟨rfl,_⟩
   ·exact pn U5
   ·exact pn (X8 D)
   ·exact pn (A7 D)
   ·exact pn (z7 D)
   ·exact pn (w7 D)
  have ap₂:O1 p r₂:=C4 ap₁ pT
  have R₂:F0 C.H₀ g fr l (C0 p r₂) h':=by
   refine R.step (W:=fun c=>c=z∨c=TO∨c=i1∨c=i2) (fun c hc=>?_) (fun c o hc eo=>a7 c o (fun q=>hc (.inl q)) (fun q=>hc (.inr (.inl q))) (fun q=>hc (.inr (.inr (.inl q)))) (fun q=>hc (.inr (.inr (.inr q)))) eo) fun c ao ec=>?_
   ·rcases hc with rfl | rfl | rfl | rfl
    ·exact ⟨_,hZ⟩
    ·exact ⟨_,hTO⟩
    ·exact ⟨_,h1⟩
    ·exact ⟨_,h2⟩
   ·unfold C0 at ec
    cases q:p c with
    | some o=>
     rw [q] at ec;cases ec
     refine Q2 (R.at_ c _ (Z1 q)) fun Z Z Z o' ho' hi'=>?_
     have nn:∀ {d:Addr} {o:AO},O3 z TI TO i1 i2 l1 l2 .none a b i i d=some o→c≠d:=fun e e'=>by subst e';rw [pn e] at q;exact J0 q
     exact ⟨.inl ⟨_,Z1 q⟩,o',a7 c o' (nn U5) (nn (A7 D)) (nn (z7 D)) (nn (w7 D)) ho',hi'⟩
    | none=>
     rw [q] at ec
     by_cases hcT:c=T
     ·subst hcT
      simp only [r₂,s0] at ec
      cases ec
      exact ⟨.inr (by rw [hT];exact Nat.le_refl _),_,a5,_,_,rfl,rfl⟩
     ·simp only [r₂] at ec
      rw [H0 _ _ hcT] at ec
      rcases W8 D ec with ⟨rfl,rfl⟩ | ⟨rfl,rfl⟩ | ⟨rfl,rfl⟩ | ⟨rfl,rfl⟩ | ⟨rfl,rfl⟩
      ·exact ⟨.inl ⟨_,hZ⟩,_,a1,rfl⟩
      ·exact ⟨.inl ⟨_,hTI⟩,_,a7 _ _ D.a1 D.a5 D.a6 D.a7 (R.obj hTI),rfl⟩
      ·exact ⟨.inl ⟨_,hTO⟩,_,a2,rfl⟩
      ·refine J2 a3 fun o ho hc hd=>?_;try clear a3
       exact ⟨.inl ⟨_,h1⟩,o,ho,hc,hd⟩
      ·refine J2 a4 fun o ho hc hd=>?_;try clear a4
       exact ⟨.inl ⟨_,h2⟩,o,ho,hc,hd⟩
  refine ⟨S,l,C0 p r₂,R₂,_,rfl,?_⟩
  intro s₃ R₃ S₃
  have hzT:z≠T:=ne hZ
  have hE₂:C0 p r₂ z=some (k8 TI TO (rawInt T)):=U1 ap₂ (by simp only [r₂];rw [H0 _ _ hzT];exact U5)
  refine wpAny_letOwnedTupleGo_zip (R₃.obj hE₂) fun h₄ he₄ hs₄=>?_
  have R₄:=R₃.chg hE₂ hs₄.extBut he₄ (ao':=k8 TI TO .none) rfl
  refine ⟨S₃,l,_,R₄,?_⟩
  have hTT:k0 (C0 p r₂) z (k8 TI TO .none) T=some (.tuple [nm u1,nm u2]):=by
   rw [H0 _ _ hzT.symm]
   exact U1 ap₂ (s0 ..)
  have ap₅:O1 p (O3 z TI TO i1 i2 l1 l2 .none u1 u2 (i+1) (i+1)):=fun c hc=>by
   refine o0 (Option.ne_none_iff_exists'.mp hc) fun o ho=>?_
   rcases W8 D ho with ⟨rfl,_⟩ | ⟨rfl,_⟩ | ⟨rfl,_⟩ | ⟨rfl,_⟩ | ⟨rfl,_⟩
   ·exact pn U5
   ·exact pn (X8 D)
   ·exact pn (A7 D)
   ·exact pn (z7 D)
   ·exact pn (w7 D)
  refine aD (cH hh hTT (hok x (.head _)) (hok y (.tail _ (.head _))) ⟨C0 p (O3 z TI TO i1 i2 l1 l2 .none u1 u2 (i+1) (i+1)),fun c o ec=>?_,hQ _ ⟨D,u1,u2,rfl⟩ ap₅⟩)
  unfold C0 at ec
  cases q:p c with
  | some o'=>
   rw [q] at ec;cases ec
   rw [H0 _ _ (by rintro rfl;rw [pn U5] at q;cases q)]
   exact Z1 q
  | none=>
   rw [q] at ec
   have hj:∀ {d:Addr} {o:AO},r₁ d=some o→d≠z→d≠T→k0 (C0 p r₂) z (k8 TI TO .none) d=some o:=fun e h1 h2=>by
    rw [H0 _ _ h1]
    exact U1 ap₂ (by simp only [r₂];rw [H0 _ _ h2];exact e)
   rcases W8 D ec with ⟨rfl,rfl⟩ | ⟨rfl,rfl⟩ | ⟨rfl,rfl⟩ | ⟨rfl,rfl⟩ | ⟨rfl,rfl⟩
   ·exact s0 ..
   ·exact hj (X8 D) D.a1 (ne hTI)
   ·exact hj (A7 D) D.a2 (ne hTO)
   ·exact hj (z7 D) D.a3 (ne h1)
   ·exact hj (w7 D) D.a4 (ne h2)
 stp:=by
  intro r p g fr E l Q hZ0 hZ1 hap hQ s R S;refine cj hZ0 fun D a b hR0=>?_;clear hZ0;subst hR0;refine B0 hZ1 fun hl1 hl2=>?_;clear hZ1
  refine V0 (R.list (Z1 hl1)) fun us1 n1 e1 q1=>?_
  refine V0 (R.list (Z1 hl2)) fun us2 n2 e2 q2=>?_
  have DA:=fI D hl1 hl2 hap
  generalize hN:((xs.zip ys).map fun v:Value × Value=>[v.1,v.2]).length=N at R hap ⊢
  have hN':N=min xs.length ys.length:=by rw [←hN];simp
  have hZ:=U1 hap (U5 (z:=z) (TI:=TI) (TO:=TO) (i1:=i1) (i2:=i2) (l1:=l1) (l2:=l2) (f0:=.none) (a:=a) (b:=b) (i:=N) (j:=N))
  have hTI:=U1 hap (X8 (l1:=l1) (l2:=l2) (f0:=.none) (a:=a) (b:=b) (i:=N) (j:=N) D)
  have hTO:=U1 hap (A7 (l1:=l1) (l2:=l2) (f0:=.none) (a:=a) (b:=b) (i:=N) (j:=N) D)
  have h1:=U1 hap (z7 (l1:=l1) (l2:=l2) (f0:=.none) (a:=a) (b:=b) (i:=N) (j:=N) D)
  have h2:=U1 hap (w7 (l1:=l1) (l2:=l2) (f0:=.none) (a:=a) (b:=b) (i:=N) (j:=N) D)
  have pn:∀ {c:Addr} {o:AO},O3 z TI TO i1 i2 l1 l2 .none a b N N c=some o→p c=none:=fun e=>hap _ (by rw [e];exact fun e=>nomatch e)
  have hz1:=M2 q1
  have hz2:=M2 q2
  refine wpAny_pyNext_zip_end hh DA (R.obj hZ) (R.obj hTI) (R.obj hTO) (R.iter h1) (R.iter h2) ⟨_,e1,rfl,n1,rfl⟩ ⟨_,e2,rfl,n2,rfl⟩ (by
   rcases Nat.le_total xs.length ys.length with h | h
   ·exact .inl (Array.getElem?_eq_none (by exact yx hz1 hN' h))
   ·exact .inr (Array.getElem?_eq_none (by exact yw hz2 hN' h))) fun h' hk=>⟨S,l,C0 p B2,?_,rfl,hQ _ (E4 _)⟩
  rw [k5]
  refine R.step (W:=fun c=>c=z∨c=TO∨c=i1∨c=i2) (fun c hc=>?_) (fun c o hc eo=>hk c o (fun q=>hc (.inl q)) (fun q=>hc (.inr (.inl q))) (fun q=>hc (.inr (.inr (.inl q)))) (fun q=>hc (.inr (.inr (.inr q)))) eo) fun c ao ec=>?_
  ·rcases hc with rfl | rfl | rfl | rfl
   ·exact ⟨_,hZ⟩
   ·exact ⟨_,hTO⟩
   ·exact ⟨_,h1⟩
   ·exact ⟨_,h2⟩
  ·refine Q2 (R.at_ c _ (Z1 ec)) fun Z Z Z o' ho' hi'=>?_
   have nn:∀ {d:Addr} {o:AO},O3 z TI TO i1 i2 l1 l2 .none a b N N d=some o→c≠d:=fun e e'=>by subst e';rw [pn e] at ec;exact J0 ec
   exact ⟨.inl ⟨_,Z1 ec⟩,o',hk c o' (nn U5) (nn (A7 D)) (nn (z7 D)) (nn (w7 D)) ho',hi'⟩
 self:=by
  intro i r p g fr E l Q hZ0 hnd hap hQ s R S;refine cj hZ0 fun D a b hR0=>?_;clear hZ0;subst hR0
  exact wpAny_pyIter_zip (R.obj (U1 hap U5)) ⟨S,l,_,R,hQ⟩
 up:=fun p p' h e=>⟨h _ _ e.1,h _ _ e.2⟩
theorem kH (hh:A.handled=none) {l1 l2:Addr} {xs ys:List Value} {x y:Str} {px py pos:Pos} {k} {K:List (List Value)→(HP→Prop)→j0→HP→Prop} (hl1:hp l1=some (.list xs)) (hl2:hp l2=some (.list ys))
  (h:K ((xs.zip ys).map fun v=>[v.1,v.2]) (fun p=>p l1=some (.list xs)∧p l2=some (.list ys)) loc hp) :
  M0 C A g fr E (.type "zip") [.ref l1,.ref l2] [] loc hp fun v l p=>i3 C A (.Tuple [.Name x px,.Name y py] k pos) [x,y] v l p K:=N5 fun v u hv hu=>by
 have:=Q0 hv;subst this
 have:=Q0 hu;subst this
 intro s R S
 refine V0 (R.list hl1) fun us1 n1 e1 q1=>?_
 refine V0 (R.list hl2) fun us2 n2 e2 q2=>?_
 refine call_zip_2 ⟨_,e1,rfl,n1,rfl⟩ ⟨_,e2,rfl,n2,rfl⟩ fun h' a1 a2 a3 a4 a5 a6 hk=>?_
 have nn:∀ d,s.heap.objs.size≤d→hp d=none:=fun d hd=>by
  cases q:hp d with
  | none=>rfl
  | some o=>exact absurd (R.lt_of_hp q) (Nat.not_lt.mpr hd)
 generalize hN:s.heap.objs.size=N at a1 a2 a3 a4 a5 nn ⊢
 have D:j8 (N+4) (N+2) (N+3) N (N+1):=by constructor <;> (intro e;have e':@Eq Nat _ _:=e;first | exact absurd (Nat.add_left_cancel e') (by decide) | exact absurd (Nat.add_left_cancel (m:=0) e') (by decide) | exact absurd (Nat.add_left_cancel (k:=0) e') (by decide))
 let r:=O3 (N+4) (N+2) (N+3) N (N+1) l1 l2 .none .none .none 0 0
 have hap:O1 hp r:=fun c hc=>by
  refine o0 (Option.ne_none_iff_exists'.mp hc) fun o ho=>?_
  rcases W8 D ho with ⟨rfl,_⟩ | ⟨rfl,_⟩ | ⟨rfl,_⟩ | ⟨rfl,_⟩ | ⟨rfl,_⟩ <;> exact nn _ (by first | exact Nat.le_refl _ | exact Nat.le_add_right _ _)
 refine ⟨S,loc,C0 hp r,?_,_,_,r,hp,rfl,⟨hl1,hl2⟩,hap,fun g fr E l p x' Q hx hnd hap hQ s R S=>?_,h⟩
 ·refine R.step (W:=fun Z=>False) (fun b hb=>hb.elim) (fun b o Z e=>hk b o e) fun c ao ec=>?_
  unfold C0 at ec
  cases q:hp c with
  | some o=>
   rw [q] at ec;cases ec
   refine Q2 (R.at_ c _ q) fun Z Z Z o' ho' hi'=>?_
   exact ⟨.inl ⟨_,rfl⟩,o',hk c o' ho',hi'⟩
  | none=>
   rw [q] at ec
   rw [hN]
   rcases W8 D ec with ⟨rfl,rfl⟩ | ⟨rfl,rfl⟩ | ⟨rfl,rfl⟩ | ⟨rfl,rfl⟩ | ⟨rfl,rfl⟩
   ·exact ⟨.inr (Nat.le_add_right _ _),_,a1,rfl⟩
   ·exact ⟨.inr (Nat.le_add_right _ _),_,a2,rfl⟩
   ·exact ⟨.inr (Nat.le_add_right _ _),_,a3,rfl⟩
   ·refine J2 a4 fun o ho hc hd=>?_;try clear a4
    exact ⟨.inr (Nat.le_refl _),o,ho,hc,hd⟩
   ·refine J2 a5 fun o ho hc hd=>?_;try clear a5
    exact ⟨.inr (Nat.le_add_right _ _),o,ho,hc,hd⟩
 ·simp only [Q0 hx]
  exact wpAny_pyIter_zip (R.obj (U1 hap U5)) ⟨S,l,_,R,hQ _ _ r (oQ hh) ⟨D,.none,.none,rfl⟩ hap⟩
end
end
section
section
variable (C:Cx) (A:Around) (g:Heap) (fr:Fm) (E:Value→Shared→Prop)
noncomputable abbrev BV (rest:List Stmt) (Q:Flow→j0→HP→Prop):Flow→j0→HP→Prop:=fun f l p=>match f with | .next=>I0 C A g fr E (execs rest fr.env) l p Q | f=>Q f l p
noncomputable abbrev z9 (x:Str) (Q:Flow→j0→HP→Prop):Value→j0→HP→Prop:=fun v l p=>Q .next (N0 l x v) p
noncomputable abbrev BY (Q:Flow→j0→HP→Prop):Value→j0→HP→Prop:=fun v l p=>Q (.ret v) l p
noncomputable abbrev kq (Q:Flow→j0→HP→Prop):Value→j0→HP→Prop:=fun v l p=>v=.none∧Q .next l p
noncomputable abbrev bQ (f:Value→Value→Sem Value) (x:Value) (Q:Value→j0→HP→Prop):Value→j0→HP→Prop:=fun y l p=>I1 C A g fr E f x y l p Q
noncomputable abbrev w9 (r:Expr) (f:Value→Value→Sem Value) (Q:Value→j0→HP→Prop):Value→j0→HP→Prop:=fun x l p=>w0 C A g fr E (eval r fr.env) l p (bQ C A g fr E f x Q)
noncomputable abbrev eH (Q:Bool→j0→HP→Prop):Value→j0→HP→Prop:=fun v l p=>∃ b,v=.bool b∧Q b l p
noncomputable abbrev kU (f:Value→Sem Value) (Q:Value→j0→HP→Prop):Value→j0→HP→Prop:=fun x l p=>dX C A g fr E f x l p Q
noncomputable def kp (b1 b2:List Stmt) (Q:Flow→j0→HP→Prop):Bool→j0→HP→Prop:=fun b l p=>if b then I0 C A g fr E (execs b1 fr.env) l p Q else I0 C A g fr E (execs b2 fr.env) l p Q
noncomputable def kn (b1 b2:Expr) (Q:Value→j0→HP→Prop):Bool→j0→HP→Prop:=fun b l p=>if b then w0 C A g fr E (eval b1 fr.env) l p Q else w0 C A g fr E (eval b2 fr.env) l p Q
noncomputable def ku (y:Expr) (Q:Bool→j0→HP→Prop):Bool→j0→HP→Prop:=fun b l p=>if b then aw C A g fr E (isTrue y fr.env (eval y fr.env)) l p Q else Q false l p
noncomputable def ki (y:Expr) (Q:Bool→j0→HP→Prop):Bool→j0→HP→Prop:=fun b l p=>if b then Q true l p else aw C A g fr E (isTrue y fr.env (eval y fr.env)) l p Q
noncomputable abbrev Cb (Q:Bool→j0→HP→Prop):Bool→j0→HP→Prop:=fun b l p=>Q (!b) l p
noncomputable abbrev ke (Q:Bool→j0→HP→Prop):Value→j0→HP→Prop:=fun x l p=>o9 C A g fr E truthy x l p Q
noncomputable abbrev km (target:Expr) (body orelse:List Stmt) (Q:Flow→j0→HP→Prop):Value→j0→HP→Prop:=fun x l p=>nb C A fr target (W0 target) body orelse x l p Q
noncomputable abbrev bP (sc scope:Scope) (target elt:Expr) (ifs:List Expr) (Q:Value→j0→HP→Prop):Value→j0→HP→Prop:=fun x l p=>r6 C A fr sc scope target elt ifs (W0 target) x l p Q
noncomputable abbrev bO (mk:List Value→AO) (Q:Value→j0→HP→Prop):List Value→j0→HP→Prop:=fun xs l p=>xs.length≤100000∧∀ a,p a=none→Q (.ref a) l (k0 p a (mk xs))
noncomputable abbrev Ci (x:Value) (Q:List Value→j0→HP→Prop):List Value→j0→HP→Prop:=fun xs l p=>Q (x::xs) l p
noncomputable abbrev Cj (es:List Expr) (Q:List Value→j0→HP→Prop):Value→j0→HP→Prop:=fun x l p=>V3 C A g fr E es l p (Ci x Q)
noncomputable abbrev BT (n:Str) (x:Value) (Q:List (Str × Value)→j0→HP→Prop):List (Str × Value)→j0→HP→Prop:=fun xs l p=>Q ((n,x)::xs) l p
noncomputable abbrev BU (n:Str) (ks:List Keyword) (Q:List (Str × Value)→j0→HP→Prop):Value→j0→HP→Prop:=fun x l p=>R5 C A g fr E ks l p (BT n x Q)
noncomputable abbrev Cf (f:Value) (xs:List Value) (Q:Value→j0→HP→Prop):List (Str × Value)→j0→HP→Prop:=fun kx l p=>∀ f',nm f'=f→Kp C A g fr E f' l p∧M0 C A g fr E f' xs kx l p Q
noncomputable abbrev Ch (ks:List Keyword) (f:Value) (Q:Value→j0→HP→Prop):List Value→j0→HP→Prop:=fun xs l p=>R5 C A g fr E ks l p (Cf C A g fr E f xs Q)
noncomputable abbrev kr (es:List Expr) (ks:List Keyword) (Q:Value→j0→HP→Prop):Value→j0→HP→Prop:=fun f l p=>V3 C A g fr E es l p (Ch C A g fr E ks f Q)
noncomputable abbrev Cd (f x:Value) (Q:Value→j0→HP→Prop):List Value→j0→HP→Prop:=fun xs l p=>Kp C A g fr E f l p∧M0 C A g fr E f (x::xs) [] l p Q
noncomputable abbrev kj (name:Str) (es:List Expr) (Q:Value→j0→HP→Prop):Value→j0→HP→Prop:=fun x l p=>∃ f,F8 C A g fr E name x l p f∧V3 C A g fr E es l p (Cd C A g fr E f x Q)
noncomputable abbrev BW (x:Value) (lo:Option Int) (Q:Value→j0→HP→Prop):Option Int→j0→HP→Prop:=fun hi l p=>∃ a xs,x=.ref a∧p a=some (.list xs)∧xs.length≤100000∧∀ c,p c=none→Q (.ref c) l (k0 p c (.list (W2 xs lo hi)))
noncomputable abbrev BX (upper:Option Expr) (x:Value) (Q:Value→j0→HP→Prop):Option Int→j0→HP→Prop:=fun lo l p=>t5 C A g fr E upper l p (BW x lo Q)
noncomputable abbrev kg (lower upper:Option Expr) (Q:Value→j0→HP→Prop):Value→j0→HP→Prop:=fun x l p=>t5 C A g fr E lower l p (BX C A g fr E upper x Q)
noncomputable abbrev kP (K:Option Int→j0→HP→Prop):Value→j0→HP→Prop:=fun v l p=>∃ i,v=.int i 0∧K (some i) l p
noncomputable abbrev BZ (op':CmpOp) (r':Expr) (y:Value) (Q:Bool→j0→HP→Prop):Value→j0→HP→Prop:=fun v l p=>∃ b,v=.bool b∧(if b then w0 C A g fr E (eval r' fr.env) l p (bQ C A g fr E (compareOp op') y (eH Q)) else Q false l p)
noncomputable abbrev Ca (op op':CmpOp) (r':Expr) (x:Value) (Q:Bool→j0→HP→Prop):Value→j0→HP→Prop:=fun y l p=>I1 C A g fr E (compareOp op) x y l p (BZ C A g fr E op' r' y Q)
noncomputable abbrev kh (op op':CmpOp) (r r':Expr) (Q:Bool→j0→HP→Prop):Value→j0→HP→Prop:=fun x l p=>w0 C A g fr E (eval r fr.env) l p (Ca C A g fr E op op' r' x Q)
end
section
variable {C:Cx} {A:Around} {g:Heap} {fr:Fm} {E:Value→Shared→Prop} {loc:j0} {hp:HP} {sc:Scope} {ow:Str→Bool} {scope:Scope}
theorem Y1 {st rest} {Q:Flow→j0→HP→Prop} (h:I0 C A g fr E (exec st fr.env) loc hp (BV C A g fr E rest Q)):I0 C A g fr E (execs (st::rest) fr.env) loc hp Q:=fy h
theorem BH {x pos' value pos} {Q:Flow→j0→HP→Prop} (hs:swapsWith value (some (.Name x pos')) pos.line fr.env=pure false) (hx:M1 fr x) (h:w0 C A g fr E (eval value fr.env) loc hp (z9 x Q)):I0 C A g fr E (exec (.Assign [.Name x pos'] value pos) fr.env) loc hp Q:=fB hs hx h
theorem BG {x pos' op value pos} {u:Value} {Q:Flow→j0→HP→Prop} (hk:fr.env.scope.kind=.function) (hl:loc x=some u) (hc:(x == ("__classdict__":Str))=false) (hx:M1 fr x) (h:w0 C A g fr E (eval value fr.env) loc hp (bQ C A g fr E (inplaceOp op) u (z9 x Q))):I0 C A g fr E (exec (.AugAssign (.Name x pos') op value pos) fr.env) loc hp Q:=Fn hk hl hc hx h
theorem Bv {e pos} {Q:Flow→j0→HP→Prop} (h:w0 C A g fr E (eval e fr.env) loc hp (BY Q)):I0 C A g fr E (exec (.Return (some e) pos) fr.env) loc hp Q:=fz h
theorem BB (F:P0 fr sc ow) {e pos} {Q:Flow→j0→HP→Prop} (hs:swapsWith e none pos.line fr.env=pure false) (h:w0 C A g fr E (eval e fr.env) loc hp (kq Q)):I0 C A g fr E (exec (.Expr e pos) fr.env) loc hp Q:=Ff F hs h
theorem BF {l op r pos} {Q:Value→j0→HP→Prop} (h:w0 C A g fr E (eval l fr.env) loc hp (w9 C A g fr E r (binaryOp op) Q)):w0 C A g fr E (eval (.BinOp l op r pos) fr.env) loc hp Q:=Fl h
theorem BC {l op r pos} {Q:Value→j0→HP→Prop} (hm:behindInMarks op r=false) (h:w0 C A g fr E (eval l fr.env) loc hp (w9 C A g fr E r (compareOp op) Q)):w0 C A g fr E (eval (.Compare l [op] [r] pos) fr.env) loc hp Q:=Fh hm h
theorem Bt {value slice:Expr} {pos:Pos} {Q:Value→j0→HP→Prop} (h:w0 C A g fr E (eval value fr.env) loc hp (w9 C A g fr E slice (subscriptTail value slice) Q)):w0 C A g fr E (eval (.Subscript value slice pos) fr.env) loc hp Q:=EV h
theorem Bm {l op r pos whole} {Q:Bool→j0→HP→Prop} (hm:behindInMarks op r=false) (h:w0 C A g fr E (eval l fr.env) loc hp (w9 C A g fr E r (compareOp op) (eH Q))):aw C A g fr E (isTrue (.Compare l [op] [r] pos) fr.env whole) loc hp Q:=EJ hm h
theorem Bl {l op op' r r' pos whole} {Q:Bool→j0→HP→Prop} (hm:behindInMarks op r=false) (hm':behindInMarks op' r'=false) (h:w0 C A g fr E (eval l fr.env) loc hp (kh C A g fr E op op' r r' Q))
  (hme:markedEach [op,op'] [r,r'] (evalEach [r,r'] fr.env)=[markedBehindIn op r (eval r fr.env),markedBehindIn op' r' (eval r' fr.env)]:=by with_unfolding_all rfl):aw C A g fr E (isTrue (.Compare l [op,op'] [r,r'] pos) fr.env whole) loc hp Q:=EI hm hm' h hme
theorem Bq {op x pos} {Q:Value→j0→HP→Prop} (h:w0 C A g fr E (eval x fr.env) loc hp (kU C A g fr E (unaryOp op) Q)):w0 C A g fr E (eval (.UnaryOp op x pos) fr.env) loc hp Q:=ES h
theorem Bz {test body orelse pos} {Q:Flow→j0→HP→Prop} (h:aw C A g fr E (isTrue test fr.env (eval test fr.env)) loc hp (kp C A g fr E body orelse Q)):I0 C A g fr E (exec (.If test body orelse pos) fr.env) loc hp Q:=Fd h
theorem By {test body orelse pos} {Q:Value→j0→HP→Prop} (h:aw C A g fr E (isTrue test fr.env (eval test fr.env)) loc hp (kn C A g fr E body orelse Q)):w0 C A g fr E (eval (.IfExp test body orelse pos) fr.env) loc hp Q:=Fc h
theorem Bp {x y pos whole} {Q:Bool→j0→HP→Prop} (h:aw C A g fr E (isTrue x fr.env (eval x fr.env)) loc hp (ku C A g fr E y Q)):aw C A g fr E (isTrue (.BoolOp .And [x,y] pos) fr.env whole) loc hp Q:=EK h
theorem Bg {x y pos whole} {Q:Bool→j0→HP→Prop} (h:aw C A g fr E (isTrue x fr.env (eval x fr.env)) loc hp (ki C A g fr E y Q)):aw C A g fr E (isTrue (.BoolOp .Or [x,y] pos) fr.env whole) loc hp Q:=EG h
theorem Bh {x pos whole} {Q:Bool→j0→HP→Prop} (h:aw C A g fr E (isTrue x fr.env (eval x fr.env)) loc hp (Cb Q)):aw C A g fr E (isTrue (.UnaryOp .Not x pos) fr.env whole) loc hp Q:=EH h
theorem Bd {e:Expr} {Q:Bool→j0→HP→Prop} (he:isTrue e fr.env (eval e fr.env)=(do let v ←eval e fr.env;standAt e.pos;holding [v] (truthy v))) (h:w0 C A g fr E (eval e fr.env) loc hp (ke C A g fr E Q)):aw C A g fr E (isTrue e fr.env (eval e fr.env)) loc hp Q:=EE he h
theorem BA {target iter:Expr} {body orelse:List Stmt} {pos:Pos} {Q:Flow→j0→HP→Prop} (F:P0 fr sc ow) (hfs:∀ x,foldedSetIterable iter fr.env x=pure x) (hok:cI sc ow (W0 target)=true)
  (h:w0 C A g fr E (eval iter fr.env) loc hp (km C A fr target body orelse Q)):I0 C A g fr E (exec (.For target iter body orelse pos) fr.env) loc hp Q:=Es F hfs hok h
theorem Bw {elt target iter:Expr} {ifs:List Expr} {pos:Pos} {Q:Value→j0→HP→Prop} (F:P0 fr sc ow) (hs:E2 scope sc=true)
  (hfs:∀ x,foldedSetIterable iter fr.env x=pure x) (hok:(W0 target).all (fun x=>scope.names.lookup x == some .local || scope.names.lookup x == some .cell)=true)
  (h:w0 C A g fr E (eval iter fr.env) loc hp (bP C A fr sc scope target elt ifs Q)):w0 C A g fr E (eval (.ListComp elt [⟨target,iter,ifs,0⟩] scope pos) fr.env) loc hp Q:=mT F hs hfs hok h
theorem BJ {elt target iter:Expr} {ifs:List Expr} {pos pos' spos:Pos} {x:Str} {Q:Flow→j0→HP→Prop} (F:P0 fr sc ow) (hx:M1 fr x) (hs:E2 scope sc=true)
  (hfs:∀ x,foldedSetIterable iter fr.env x=pure x) (hok:(W0 target).all (fun x=>scope.names.lookup x == some .local || scope.names.lookup x == some .cell)=true)
  (h:w0 C A g fr E (eval iter fr.env) loc hp (bP C A fr sc scope target elt ifs (z9 x Q))):I0 C A g fr E (exec (.Assign [.Name x pos'] (.ListComp elt [⟨target,iter,ifs,0⟩] scope pos) spos) fr.env) loc hp Q:=Fw F hx hs hfs hok h
theorem Bx {elts:List Expr} {pos:Pos} {Q:Value→j0→HP→Prop} (hs:elts.all i5=true) (h:V3 C A g fr E elts loc hp (bO .list Q)):w0 C A g fr E (eval (.List elts pos) fr.env) loc hp Q:=mU hs h
theorem Br {elts:List Expr} {k} {pos:Pos} {Q:Value→j0→HP→Prop} (hs:elts.all i5=true) (h:V3 C A g fr E elts loc hp (bO .tuple Q)):w0 C A g fr E (eval (.Tuple elts k pos) fr.env) loc hp Q:=ET hs h
theorem BD {id:Str} {p pos:Pos} {es:List Expr} {ks:List Keyword} {Q:Value→j0→HP→Prop} (hs:es.all i5=true) (hk:ks.all (·.arg.isSome)=true) (h:w0 C A g fr E (eval (.Name id p) fr.env) loc hp (kr C A g fr E es ks Q)):w0 C A g fr E (eval (.Call (.Name id p) es ks pos) fr.env) loc hp Q:=Fi hs hk h
theorem BE {o:Expr} {name:Str} {apos pos:Pos} {es:List Expr} {Q:Value→j0→HP→Prop} (hbase:attributeBase o name fr.env (eval o fr.env)=eval o fr.env) (hs:es.all i5=true) (hlen:es.length < 30) (hline:(apos.endLine == pos.line)=true)
  (h:w0 C A g fr E (eval o fr.env) loc hp (kj C A g fr E name es Q)):w0 C A g fr E (eval (.Call (.Attribute o name apos) es [] pos) fr.env) loc hp Q:=Fj hbase hs hlen hline h
theorem Bu {value:Expr} {lower upper:Option Expr} {p₁ pos:Pos} {Q:Value→j0→HP→Prop} (ht:∀ o r,letTemporaryGo value o r=pure ()) (h:w0 C A g fr E (eval value fr.env) loc hp (kg C A g fr E lower upper Q)):w0 C A g fr E (eval (.Subscript value (.Slice lower upper none p₁) pos) fr.env) loc hp Q:=EZ ht h
theorem Bo {Q:List Value→j0→HP→Prop} (h:Q [] loc hp):V3 C A g fr E [] loc hp Q:=h
theorem Bn {e es} {Q:List Value→j0→HP→Prop} (h:w0 C A g fr E (eval e fr.env) loc hp (Cj C A g fr E es Q)):V3 C A g fr E (e::es) loc hp Q:=h
theorem Bj {Q:List (Str × Value)→j0→HP→Prop} (h:Q [] loc hp):R5 C A g fr E [] loc hp Q:=h
theorem Bi {k ks n} {Q:List (Str × Value)→j0→HP→Prop} (h:w0 C A g fr E (eval k.value fr.env) loc hp (BU C A g fr E n ks Q)) (e:k.arg=some n:=by with_unfolding_all rfl):R5 C A g fr E (k::ks) loc hp Q:=by
 cases k;cases e;exact h
theorem Bs {c} {K:Bool→j0→HP→Prop} (h:aw C A g fr E (isTrue c fr.env (eval c fr.env)) loc hp K):I9 C A g fr E [c] loc hp K:=h
theorem Bf {K:Option Int→j0→HP→Prop} (h:K none loc hp):t5 C A g fr E none loc hp K:=h
theorem Be {e} {K:Option Int→j0→HP→Prop} (h:w0 C A g fr E (eval e fr.env) loc hp (kP K)):t5 C A g fr E (some e) loc hp K:=h
theorem BQ {b1 b2:List Stmt} {Q:Flow→j0→HP→Prop} {b:Bool} (h:if b then I0 C A g fr E (execs b1 fr.env) loc hp Q else I0 C A g fr E (execs b2 fr.env) loc hp Q):kp C A g fr E b1 b2 Q b loc hp:=h
theorem BP {b1 b2:Expr} {Q:Value→j0→HP→Prop} {b:Bool} (h:if b then w0 C A g fr E (eval b1 fr.env) loc hp Q else w0 C A g fr E (eval b2 fr.env) loc hp Q):kn C A g fr E b1 b2 Q b loc hp:=h
theorem BR {y:Expr} {Q:Bool→j0→HP→Prop} {b:Bool} (h:if b then aw C A g fr E (isTrue y fr.env (eval y fr.env)) loc hp Q else Q false loc hp):ku C A g fr E y Q b loc hp:=h
theorem BO {y:Expr} {Q:Bool→j0→HP→Prop} {b:Bool} (h:if b then Q true loc hp else aw C A g fr E (isTrue y fr.env (eval y fr.env)) loc hp Q):ki C A g fr E y Q b loc hp:=h
theorem Bk {j:Int} {K:Int→Prop} (h:K j):∃ i,Value.int j 0=.int i 0∧K i:=⟨j,rfl,h⟩
end
end
section
section
variable {C:Cx} {A:Around} {g:Heap} {fr:Fm} {E:Value→Shared→Prop} {loc:j0} {hp:HP} {sc:Scope} {ow:Str→Bool} {scope:Scope}
theorem Bb {x pos' value pos} {Q:Flow→j0→HP→Prop} (h:w0 C A g fr E (eval value fr.env) loc hp (z9 x Q)) (hs:swapsWith value (some (.Name x pos')) pos.line fr.env=pure false:=by with_unfolding_all rfl) (hx:M1 fr x:=by with_unfolding_all walk_at "sto"):I0 C A g fr E (exec (.Assign [.Name x pos'] value pos) fr.env) loc hp Q:=BH hs hx h
theorem AQ {x:Str} {pos:Pos} {v:Value} {Q:Value→j0→HP→Prop} (h:Q v loc hp) (hk:fr.env.scope.kind=.function:=by exact P0.k (by assumption)) (hd:(x == ("__debug__":Str))=false:=by with_unfolding_all decide) (hc:(x == ("__classdict__":Str))=false:=by with_unfolding_all decide) (hl:loc x=some v:=by with_unfolding_all (walk_at "loc" <;> fail)):w0 C A g fr E (eval (.Name x pos) fr.env) loc hp Q:=mS hk hl h hd hc
theorem AT {x:Str} {pos:Pos} {v:Value} {Q:Value→j0→HP→Prop} (h:Q v loc hp) (hk:fr.env.scope.kind=.function:=by exact P0.k (by assumption)) (hg:fr.env.globals=mainGlobals:=by exact P0.glob (by assumption)) (hb:fr.env.builtins=builtinsNs:=by exact P0.bi (by assumption)) (hd:(x == ("__debug__":Str))=false:=by with_unfolding_all decide) (hG:Q1 C x v:=by assumption) (hv:nm v=v:=by with_unfolding_all rfl) (hx:fr.env.kindOf x=some .globalImplicit:=by with_unfolding_all exact P0.kindOf (by assumption) (by rfl)):w0 C A g fr E (eval (.Name x pos) fr.env) loc hp Q:=mV hk hg hb hx hG h hd hv
theorem Ba {x pos' op value pos} {u:Value} {Q:Flow→j0→HP→Prop} (h:w0 C A g fr E (eval value fr.env) loc hp (bQ C A g fr E (inplaceOp op) u (z9 x Q))) (hk:fr.env.scope.kind=.function:=by exact P0.k (by assumption)) (hc:(x == ("__classdict__":Str))=false:=by with_unfolding_all decide) (hx:M1 fr x:=by with_unfolding_all walk_at "sto") (hl:loc x=some u:=by with_unfolding_all (walk_at "loc" <;> fail)):I0 C A g fr E (exec (.AugAssign (.Name x pos') op value pos) fr.env) loc hp Q:=BG hk hl hc hx h
theorem Bc {elt target iter:Expr} {ifs:List Expr} {pos pos' spos:Pos} {x:Str} {Q:Flow→j0→HP→Prop} (F:P0 fr sc ow) (h:w0 C A g fr E (eval iter fr.env) loc hp (bP C A fr sc scope target elt ifs (z9 x Q))) (hx:M1 fr x:=by with_unfolding_all walk_at "sto") (hs:E2 scope sc=true:=by with_unfolding_all rfl)
  (hfs:∀ x,foldedSetIterable iter fr.env x=pure x:=by with_unfolding_all (intros;rfl)) (hok:(W0 target).all (fun x=>scope.names.lookup x == some .local || scope.names.lookup x == some .cell)=true:=by with_unfolding_all rfl):I0 C A g fr E (exec (.Assign [.Name x pos'] (.ListComp elt [⟨target,iter,ifs,0⟩] scope pos) spos) fr.env) loc hp Q:=BJ F hx hs hfs hok h
theorem AR {elt target iter:Expr} {ifs:List Expr} {pos:Pos} {Q:Value→j0→HP→Prop} (F:P0 fr sc ow) (h:w0 C A g fr E (eval iter fr.env) loc hp (bP C A fr sc scope target elt ifs Q)) (hs:E2 scope sc=true:=by with_unfolding_all rfl)
  (hfs:∀ x,foldedSetIterable iter fr.env x=pure x:=by with_unfolding_all (intros;rfl)) (hok:(W0 target).all (fun x=>scope.names.lookup x == some .local || scope.names.lookup x == some .cell)=true:=by with_unfolding_all rfl):w0 C A g fr E (eval (.ListComp elt [⟨target,iter,ifs,0⟩] scope pos) fr.env) loc hp Q:=Bw F hs hfs hok h
theorem AU {target iter:Expr} {body orelse:List Stmt} {pos:Pos} {Q:Flow→j0→HP→Prop} (F:P0 fr sc ow) (h:w0 C A g fr E (eval iter fr.env) loc hp (km C A fr target body orelse Q)) (hfs:∀ x,foldedSetIterable iter fr.env x=pure x:=by with_unfolding_all (intros;rfl)) (hok:cI sc ow (W0 target)=true:=by with_unfolding_all rfl):I0 C A g fr E (exec (.For target iter body orelse pos) fr.env) loc hp Q:=BA F hfs hok h
theorem AS {elts:List Expr} {pos:Pos} {Q:Value→j0→HP→Prop} (h:V3 C A g fr E elts loc hp (bO .list Q)) (hs:elts.all i5=true:=by with_unfolding_all rfl):w0 C A g fr E (eval (.List elts pos) fr.env) loc hp Q:=Bx hs h
theorem AI {elts:List Expr} {k} {pos:Pos} {Q:Value→j0→HP→Prop} (h:V3 C A g fr E elts loc hp (bO .tuple Q)) (hs:elts.all i5=true:=by with_unfolding_all rfl):w0 C A g fr E (eval (.Tuple elts k pos) fr.env) loc hp Q:=Br hs h
theorem AV (F:P0 fr sc ow) {e pos} {Q:Flow→j0→HP→Prop} (h:w0 C A g fr E (eval e fr.env) loc hp (kq Q)) (hs:swapsWith e none pos.line fr.env=pure false:=by with_unfolding_all rfl):I0 C A g fr E (exec (.Expr e pos) fr.env) loc hp Q:=BB F hs h
theorem AZ {o:Expr} {name:Str} {apos pos:Pos} {es:List Expr} {Q:Value→j0→HP→Prop} (h:w0 C A g fr E (eval o fr.env) loc hp (kj C A g fr E name es Q)) (hbase:attributeBase o name fr.env (eval o fr.env)=eval o fr.env:=by with_unfolding_all rfl) (hs:es.all i5=true:=by with_unfolding_all rfl) (hlen:es.length < 30:=by with_unfolding_all decide) (hline:(apos.endLine == pos.line)=true:=by with_unfolding_all rfl):w0 C A g fr E (eval (.Call (.Attribute o name apos) es [] pos) fr.env) loc hp Q:=BE hbase hs hlen hline h
theorem AH {l op r pos whole} {Q:Bool→j0→HP→Prop} (h:w0 C A g fr E (eval l fr.env) loc hp (w9 C A g fr E r (compareOp op) (eH Q))) (hm:behindInMarks op r=false:=by with_unfolding_all rfl):aw C A g fr E (isTrue (.Compare l [op] [r] pos) fr.env whole) loc hp Q:=Bm hm h
theorem AX {l op r pos} {Q:Value→j0→HP→Prop} (h:w0 C A g fr E (eval l fr.env) loc hp (w9 C A g fr E r (compareOp op) Q)) (hm:behindInMarks op r=false:=by with_unfolding_all rfl):w0 C A g fr E (eval (.Compare l [op] [r] pos) fr.env) loc hp Q:=BC hm h
theorem AG {l op op' r r' pos whole} {Q:Bool→j0→HP→Prop} (h:w0 C A g fr E (eval l fr.env) loc hp (kh C A g fr E op op' r r' Q)) (hm:behindInMarks op r=false:=by with_unfolding_all rfl) (hm':behindInMarks op' r'=false:=by with_unfolding_all rfl)
  (hme:markedEach [op,op'] [r,r'] (evalEach [r,r'] fr.env)=[markedBehindIn op r (eval r fr.env),markedBehindIn op' r' (eval r' fr.env)]:=by with_unfolding_all rfl):aw C A g fr E (isTrue (.Compare l [op,op'] [r,r'] pos) fr.env whole) loc hp Q:=Bl hm hm' h hme
theorem AB {e:Expr} {Q:Bool→j0→HP→Prop} (h:w0 C A g fr E (eval e fr.env) loc hp (ke C A g fr E Q)) (he:isTrue e fr.env (eval e fr.env)=(do let v ←eval e fr.env;standAt e.pos;holding [v] (truthy v)):=by with_unfolding_all rfl):aw C A g fr E (isTrue e fr.env (eval e fr.env)) loc hp Q:=Bd he h
theorem AM {value:Expr} {lower upper:Option Expr} {p₁ pos:Pos} {Q:Value→j0→HP→Prop} (h:w0 C A g fr E (eval value fr.env) loc hp (kg C A g fr E lower upper Q)) (ht:∀ o r,letTemporaryGo value o r=pure ():=by with_unfolding_all (intros;rfl)):w0 C A g fr E (eval (.Subscript value (.Slice lower upper none p₁) pos) fr.env) loc hp Q:=Bu ht h
theorem AY {id:Str} {p pos:Pos} {es:List Expr} {ks:List Keyword} {Q:Value→j0→HP→Prop} (h:w0 C A g fr E (eval (.Name id p) fr.env) loc hp (kr C A g fr E es ks Q)) (hs:es.all i5=true:=by with_unfolding_all rfl) (hk:ks.all (·.arg.isSome)=true:=by with_unfolding_all rfl):w0 C A g fr E (eval (.Call (.Name id p) es ks pos) fr.env) loc hp Q:=BD hs hk h
theorem AF {a b:Int} {Q:Value→j0→HP→Prop} (h:Q (.int (a / b) 0) loc hp) (hb:0 < b:=by with_unfolding_all decide) (hs:b.natAbs < 1073741824:=by with_unfolding_all decide):I1 C A g fr E (binaryOp .FloorDiv) (.int a 0) (.int b 0) loc hp Q:=zB hb hs h
theorem AC {a b:Int} {Q:Value→j0→HP→Prop} (h:Q (.int (a % b) 0) loc hp) (hb:0 < b:=by with_unfolding_all decide):I1 C A g fr E (binaryOp .Mod) (.int a 0) (.int b 0) loc hp Q:=zv hb h
theorem AJ {value slice:Expr} {l:Addr} {i:Int} {xs:List Value} {x:Value} {Q:Value→j0→HP→Prop} (h:Q x loc hp) (hs:∀ o j,subscripted slice false o j=operate [o,j] (getItem o j):=by with_unfolding_all (intros;rfl)) (hl:hp l=some (.tuple xs):=by (walk_at "hp" <;> fail)) (h0:0≤i:=by with_unfolding_all decide) (hi:i < 2 ^ 63:=by with_unfolding_all decide) (hx:xs[i.toNat]?=some x:=by with_unfolding_all rfl):I1 C A g fr E (subscriptTail value slice) (.ref l) (.int i 0) loc hp Q:=oJ hs hl h0 hi hx h
theorem AE {c:Prop} [Decidable c] {P Q:Prop} (h:Q) (hc:¬c:=by with_unfolding_all decide):ite c P Q:=(if_neg hc).mpr h
theorem AD {c:Prop} [Decidable c] {P Q:Prop} (h:P) (hc:c:=by with_unfolding_all decide):ite c P Q:=(if_pos hc).mpr h
end
end
section
theorem bK {l:j0} {x:Str} {v:Value}:N0 l x v x=some v:=if_pos rfl
theorem I4 {l:j0} {x y:Str} {v u:Value} (h:y≠x) (e:l y=some u):N0 l x v y=some u:=(if_neg h).trans e
structure N7 (C:Cx) (a b:Addr):Prop where
 t:∃ t n,C.H₀.get? a=some ⟨.type "tuple",none,.seq #[.int 0 t,.none] n,#[]⟩
 k:∃ h t n,C.H₀.get? b=some ⟨.type "dict",none,.dict #[⟨h,.str "key" t,.none⟩] n,#[]⟩
noncomputable def M7 (C:Cx) (f:Addr) (i:Nat) (name:Str) (code:Addr):Prop:=∃ pm,j4 C f (U0 (G0 i) name .none .none (.ref code) pm [] .none)
noncomputable def G9:List Str:=["OPTIMIZED","NEWLOCALS","VARARGS","VARKEYWORDS","NESTED","GENERATOR","NOFREE","COROUTINE","ITERABLE_COROUTINE","ASYNC_GENERATOR"]
structure G1 (C:Cx):Prop where
 lim:C.H₀.NoLimit
 len:Q1 C "len" (.builtin "len")
 max:Q1 C "max" (.builtin "max")
 range:Q1 C "range" (.type "range")
 fL:∃ pm,j4 C 57 (U0 (G0 5) "bisect_left" (.ref 49) (.ref 50) (.ref 56) pm [] .none)
 dL:N7 C 49 50
 fIR:∃ pm,j4 C 30 (U0 (G0 2) "insort_right" (.ref 22) (.ref 23) (.ref 29) pm [] .none)
 dIR:N7 C 22 23
 fIL:∃ pm,j4 C 48 (U0 (G0 4) "insort_left" (.ref 40) (.ref 41) (.ref 47) pm [] .none)
 dIL:N7 C 40 41
 gR:Q1 C "bisect_right" (.ref 39)
 gL:Q1 C "bisect_left" (.ref 57)
 zip:Q1 C "zip" (.type "zip")
 gIR:Q1 C "insort_right" (.ref 30)
 gIL:Q1 C "insort_left" (.ref 48)
 fLevel:M7 C 170 16 "_law_level" 169
 chr:Q1 C "chr" (.builtin "chr")
 hex:Q1 C "hex" (.builtin "hex")
 sum:Q1 C "sum" (.builtin "sum")
 enumerate:Q1 C "enumerate" (.type "enumerate")
 iter:Q1 C "iter" (.builtin "iter")
 next:Q1 C "next" (.builtin "next")
 sorted:Q1 C "sorted" (.builtin "sorted")
 strT:Q1 C "str" (.type "str")
 fMet:M7 C 185 19 "_law_met" 184
 fText:M7 C 190 20 "_law_text" 189
 fNames:M7 C 165 15 "_law_names" 164
 fPlace:M7 C 175 17 "_law_place" 174
 fRead:M7 C 160 14 "_law_read" 159
 fVarint:M7 C 72 9 "_parse_varint" 71
 fPretty:M7 C 65 8 "pretty_flags" 64
 gRead:Q1 C "_law_read" (.ref 160)
 gNames:Q1 C "_law_names" (.ref 165)
 gLevel:Q1 C "_law_level" (.ref 170)
 gPlace:Q1 C "_law_place" (.ref 175)
 gDue:Q1 C "_law_due" (.ref 180)
 gMet:Q1 C "_law_met" (.ref 185)
 gText:Q1 C "_law_text" (.ref 190)
 gVarint:Q1 C "_parse_varint" (.ref 72)
 gPretty:Q1 C "pretty_flags" (.ref 65)
 gFlags:Q1 C "COMPILER_FLAG_NAMES" (.ref 58)
 gAcc:Q1 C "_Accumulator" (.ref 151)
 flagsM:∃ f:Int→Option Value,C.H₀.MapOf (intKind C.prog C.w) 58 f∧∀ i:Nat,i < 32→(f (2 ^ i)).map nm=if i < 10 then some (.str (G9.getD i Str.empty) 0) else none
 fDue:M7 C 180 18 "_law_due" 179
 fR:∃ pm,j4 C 39 (U0 (G0 3) "bisect_right" (.ref 31) (.ref 32) (.ref 38) pm [] .none)
 dR:N7 C 31 32
theorem bW {h:Heap} {a b:Addr} {o o':Obj} (hab:a≠b) (e:h.get? a=some o) (e':h.get? b=some o'):Frag.In [(a,o),(b,o')] h:=by
 intro x y q
 rw [List.lookup_cons] at q
 by_cases h1:x=a
 ·subst h1;simp at q;subst q;exact e
 ·have:(x == a)=false:=by simpa using h1
  rw [this] at q
  simp only [List.lookup_cons,List.lookup_nil] at q
  by_cases h2:x=b
  ·subst h2;simp at q;subst q;exact e'
  ·have:(x == b)=false:=by simpa using h2
   rw [this] at q;exact J0 q
theorem E5 {h:Heap}:Frag.In [] h:=fun a o e=>by exact J0 e
noncomputable abbrev iv (i:Int):Value:=.int i 0
section
variable {C:Cx} {A:Around} {g:Heap} {fr:Fm} {E:Value→Shared→Prop} {loc:j0} {hp:HP}
theorem gd {value slice:Expr} {l:Addr} {i:Int} {ys:List Int} {Q:Value→j0→HP→Prop} (hs:∀ o j,subscripted slice false o j=operate [o,j] (getItem o j)) (hl:hp l=some (.list (ys.map iv))) (h0:0≤i) (hi:i < ys.length) (hsz:ys.length≤sizeLine)
  (h:∀ (k:Nat) (hk:k < ys.length),(k:Int)=i→Q (iv ys[k]) loc hp):I1 C A g fr E (subscriptTail value slice) (.ref l) (.int i 0) loc hp Q:=by
 have hk:i.toNat < ys.length:=by exact j9 h0 hi
 rw [sizeLine_eq] at hsz
 exact M5 hs hl h0 (u1 hi hsz) (by simp only [List.getElem?_map,List.getElem?_eq_getElem hk];rfl) (h i.toNat hk (by exact bh h0))
end
end
section
noncomputable def C2 (xs:List Int) (x:Int):Nat:=xs.countP fun y=>decide (y≤x)
noncomputable def j3 (xs:List Int) (x:Int):Nat:=xs.countP fun y=>decide (y < x)
theorem cy {p:Int→Bool} {xs:List Int} {k:Nat} (hk:k≤xs.length) (h1:∀ i (hi:i < xs.length),i < k→p xs[i]=true) (h2:∀ i (hi:i < xs.length),k≤i→p xs[i]=false):xs.countP p=k:=by
 have e:xs=xs.take k++xs.drop k:=(List.take_append_drop k xs).symm
 rw [e,List.countP_append]
 have a:(xs.take k).countP p=k:=by
  have:(xs.take k).countP p=(xs.take k).length:=List.countP_eq_length.mpr fun y hy=>by
   obtain ⟨i,hi,rfl⟩:=List.mem_iff_getElem.mp hy
   rw [List.length_take] at hi
   rw [List.getElem_take]
   exact h1 i (by exact sH hi) (by exact sG hi)
  rw [this,List.length_take];exact sE hk
 have c:(xs.drop k).countP p=0:=List.countP_eq_zero.mpr fun y hy=>by
  obtain ⟨i,hi,rfl⟩:=List.mem_iff_getElem.mp hy
  rw [List.length_drop] at hi
  rw [List.getElem_drop]
  rw [h2 (k+i) (by exact sC hi) (by exact dK)]
  exact Bool.false_ne_true
 simp only [a,c,Nat.add_zero]
theorem mD {C:Cx} (W:G1 C) {A:Around} {g:Heap} {fr:Fm} {E:Value→Shared→Prop} {loc:j0} {hp:HP} {Q:Value→j0→HP→Prop} {a:Addr} {xs:List Int} {x:Int} {vals:List Value} {kw:List (Str × Value)} {v u vl vh vk:Value} {pm:Value}
  (F:j4 C 39 (U0 (G0 3) "bisect_right" (.ref 31) (.ref 32) (.ref 38) pm [] .none))
  (hb:∀ s:Shared,(∀ b o,C.H₀.get? b=some o→s.heap.get? b=some o)→BindsTo s (U0 (G0 3) "bisect_right" (.ref 31) (.ref 32) (.ref 38) pm [] .none) ⟨vals,kw⟩ [("a",v),("x",u),("lo",vl),("hi",vh),("key",vk)])
  (hv:nm v=.ref a) (hu:nm u=iv x) (hl:nm vl=iv 0) (hh':nm vh=.none) (hk':nm vk=.none)
  (hroom:A.depth < recursionLimit) (ha:hp a=some (.list (xs.map iv))) (hsz:xs.length≤1000) (hs:xs.Pairwise (·≤·)) (h:Q (iv (C2 xs x)) loc hp) :
  w0 C A g fr E (call (.ref 39) vals kw) loc hp Q:=by
 have hlen:=W.len
 refine X4 F rfl rfl W.lim hroom hb (by rfl) rfl rfl (by rfl) fun A' g' fr' E' hd hu' hh hF=>?_
 dsimp only [X1]
 simp only [hv,hu,hl,hh',hk']
 clear F hb
 refine Y1 ?_
 repeat' walk_at "kl"
 refine E6 ha (by simp only [List.length_map,sizeLine_eq];exact Y9 hsz) ?_
 repeat' walk_at "kl"
 refine aE (fun n l p=>∃ lo hi:Nat,n=hi - lo∧lo≤hi∧hi≤xs.length∧(∀ i (hi:i < xs.length),i < lo→xs[i]≤x)∧(∀ i (h:i < xs.length),hi≤i→x < xs[i])∧p=hp∧
  l "a" = some (.ref a)∧l "x" = some (iv x)∧l "lo" = some (iv lo)∧l "hi" = some (iv hi)) ?turn _ ⟨0,xs.length,rfl,Nat.zero_le _,Nat.le_refl _,fun i Z h=>absurd h (Nat.not_lt_zero _),fun i h h'=>absurd h (Nat.not_lt.mpr h'),rfl,?_,?_,?_,?_⟩
 case turn=>
  intro n l p E'' hZ0;refine i6 hZ0 fun lo hi hR0 h1 h2 h3 h4 zr0=>F9 zr0 fun hR1 ea ex elo ehi=>?_;clear hZ0;subst hR0;subst hR1
  repeat' walk_at "kl"
  by_cases hlt:lo < hi
  ·rw [if_pos (by simpa using hlt)]
   repeat' walk_at "kl"
   refine gd (by intro _ _;with_unfolding_all rfl) ha (by exact be) (by exact ic hlt h2) (by rw [sizeLine_eq];exact Y9 hsz) fun k hk ek=>?_
   repeat' walk_at "kl"
   have hk1:lo≤k:=by exact bc hlt ek
   have hk2:k < hi:=by exact bb hlt ek
   by_cases hx:x < xs[k]
   ·rw [if_pos (by simpa using hx)]
    repeat' walk_at "kl"
    refine ⟨k - lo,by exact ba hk2 hk1,lo,k,rfl,hk1,by exact D8 hk,h3,fun i hi' hle=>?_,rfl,?_,?_,?_,?_⟩
    ·rcases Nat.lt_or_ge k i with q | q
     ·exact Int.lt_of_lt_of_le hx (List.pairwise_iff_getElem.mp hs k i hk hi' q)
     ·have:i=k:=by exact aZ q hle
      subst this;exact hx
    all_goals (first | (walk_at "loc";done) | (rw [ek];walk_at "loc"))
   ·rw [if_neg (by simpa using hx)]
    repeat' walk_at "kl"
    refine ⟨hi - (k+1),by exact aY hk2 hk1,k+1,hi,rfl,by exact q5 hk2,h2,fun i hi' hle=>?_,h4,rfl,?_,?_,?_,?_⟩
    ·rcases Nat.lt_or_ge i k with q | q
     ·exact Int.le_trans (List.pairwise_iff_getElem.mp hs i k hi' hk q) (Int.not_lt.mp hx)
     ·have:i=k:=by exact q2 hle q
      subst this;exact Int.not_lt.mp hx
    all_goals (first | (walk_at "loc";done) | (rw [←ek];walk_at "loc"))
  ·rw [if_neg (by simpa using hlt)]
   repeat' walk_at "kl"
   have e:lo=C2 xs x:=(cy (by exact A8 h2 h1) (fun i hi q=>decide_eq_true (h3 i hi q)) fun i hi q=>decide_eq_false (Int.not_le.mpr (h4 i hi (by exact aX q hlt)))).symm
   subst e
   exact h
 all_goals (first | (walk_at "loc";done) | (rw [List.length_map];walk_at "loc"))
theorem mE {C:Cx} (W:G1 C) {A:Around} {g:Heap} {fr:Fm} {E:Value→Shared→Prop} {loc:j0} {hp:HP} {Q:Value→j0→HP→Prop} {a:Addr} {xs:List Int} {x:Int} {vals:List Value} {kw:List (Str × Value)} {v u vl vh vk:Value} {pm:Value}
  (F:j4 C 57 (U0 (G0 5) "bisect_left" (.ref 49) (.ref 50) (.ref 56) pm [] .none))
  (hb:∀ s:Shared,(∀ b o,C.H₀.get? b=some o→s.heap.get? b=some o)→BindsTo s (U0 (G0 5) "bisect_left" (.ref 49) (.ref 50) (.ref 56) pm [] .none) ⟨vals,kw⟩ [("a",v),("x",u),("lo",vl),("hi",vh),("key",vk)])
  (hv:nm v=.ref a) (hu:nm u=iv x) (hl:nm vl=iv 0) (hh':nm vh=.none) (hk':nm vk=.none)
  (hroom:A.depth < recursionLimit) (ha:hp a=some (.list (xs.map iv))) (hsz:xs.length≤1000) (hs:xs.Pairwise (·≤·)) (h:Q (iv (j3 xs x)) loc hp) :
  w0 C A g fr E (call (.ref 57) vals kw) loc hp Q:=by
 have hlen:=W.len
 refine X4 F rfl rfl W.lim hroom hb (by rfl) rfl rfl (by rfl) fun A' g' fr' E' hd hu' hh hF=>?_
 dsimp only [X1]
 simp only [hv,hu,hl,hh',hk']
 clear F hb
 refine Y1 ?_
 repeat' walk_at "kl"
 refine E6 ha (by simp only [List.length_map,sizeLine_eq];exact Y9 hsz) ?_
 repeat' walk_at "kl"
 refine aE (fun n l p=>∃ lo hi:Nat,n=hi - lo∧lo≤hi∧hi≤xs.length∧(∀ i (hi:i < xs.length),i < lo→xs[i] < x)∧(∀ i (h:i < xs.length),hi≤i→x≤xs[i])∧p=hp∧
  l "a" = some (.ref a)∧l "x" = some (iv x)∧l "lo" = some (iv lo)∧l "hi" = some (iv hi)) ?turn _ ⟨0,xs.length,rfl,Nat.zero_le _,Nat.le_refl _,fun i Z h=>absurd h (Nat.not_lt_zero _),fun i h h'=>absurd h (Nat.not_lt.mpr h'),rfl,?_,?_,?_,?_⟩
 case turn=>
  intro n l p E'' hZ0;refine i6 hZ0 fun lo hi hR0 h1 h2 h3 h4 zr0=>F9 zr0 fun hR1 ea ex elo ehi=>?_;clear hZ0;subst hR0;subst hR1
  repeat' walk_at "kl"
  by_cases hlt:lo < hi
  ·rw [if_pos (by simpa using hlt)]
   repeat' walk_at "kl"
   refine gd (by intro _ _;with_unfolding_all rfl) ha (by exact be) (by exact ic hlt h2) (by rw [sizeLine_eq];exact Y9 hsz) fun k hk ek=>?_
   repeat' walk_at "kl"
   have hk1:lo≤k:=by exact bc hlt ek
   have hk2:k < hi:=by exact bb hlt ek
   by_cases hx:xs[k] < x
   ·rw [if_pos (by simpa using hx)]
    repeat' walk_at "kl"
    refine ⟨hi - (k+1),by exact aY hk2 hk1,k+1,hi,rfl,by exact q5 hk2,h2,fun i hi' hle=>?_,h4,rfl,?_,?_,?_,?_⟩
    ·rcases Nat.lt_or_ge i k with q | q
     ·exact Int.lt_of_le_of_lt (List.pairwise_iff_getElem.mp hs i k hi' hk q) hx
     ·have:i=k:=by exact q2 hle q
      subst this;exact hx
    all_goals (first | (walk_at "loc";done) | (rw [←ek];walk_at "loc"))
   ·rw [if_neg (by simpa using hx)]
    repeat' walk_at "kl"
    refine ⟨k - lo,by exact ba hk2 hk1,lo,k,rfl,hk1,by exact D8 hk,h3,fun i hi' hle=>?_,rfl,?_,?_,?_,?_⟩
    ·rcases Nat.lt_or_ge k i with q | q
     ·exact Int.le_trans (Int.not_lt.mp hx) (List.pairwise_iff_getElem.mp hs k i hk hi' q)
     ·have:i=k:=by exact aZ q hle
      subst this;exact Int.not_lt.mp hx
    all_goals (first | (walk_at "loc";done) | (rw [ek];walk_at "loc"))
  ·rw [if_neg (by simpa using hlt)]
   repeat' walk_at "kl"
   have e:lo=j3 xs x:=(cy (by exact A8 h2 h1) (fun i hi q=>decide_eq_true (h3 i hi q)) fun i hi q=>decide_eq_false (Int.not_lt.mpr (h4 i hi (by exact aX q hlt)))).symm
   subst e
   exact h
 all_goals (first | (walk_at "loc";done) | (rw [List.length_map];walk_at "loc"))
theorem cC {C:Cx} {i:Nat} {q:Str} {ad ak ac:Addr} (D:N7 C ad ak) {pm va vx:Value}
  (h:∀ h' t t' n n' S,peek [(ad,⟨.type "tuple",none,.seq #[.int 0 t,.none] n,#[]⟩),(ak,⟨.type "dict",none,.dict #[⟨h',.str "key" t',.none⟩] n',#[]⟩)] S (bindArgs (U0 (G0 i) q (.ref ad) (.ref ak) (.ref ac) pm [] .none) ⟨[va,vx],[]⟩)=some [(("a":Str),va),("x",vx),("lo",.int 0 t),("hi",.none),("key",.none)]) (hab:ad≠ak) :
  ∃ t,∀ s:Shared,(∀ b o,C.H₀.get? b=some o→s.heap.get? b=some o)→BindsTo s (U0 (G0 i) q (.ref ad) (.ref ak) (.ref ac) pm [] .none) ⟨[va,vx],[]⟩ [("a",va),("x",vx),("lo",.int 0 t),("hi",.none),("key",.none)]:=by
 refine i8 (D.t) fun t n e=>?_
 refine O8 (D.k) fun h' t' n' e'=>?_
 exact ⟨t,fun s hk=>kp_binds (bW hab (hk _ _ e) (hk _ _ e')) fun S=>h h' t t' n n' S⟩
theorem mG {C:Cx} {i:Nat} {q:Str} {ad ak ac:Addr} (D:N7 C ad ak) {pm va vx vl vh:Value}
  (h:∀ h' t t' n n' S,peek [(ad,⟨.type "tuple",none,.seq #[.int 0 t,.none] n,#[]⟩),(ak,⟨.type "dict",none,.dict #[⟨h',.str "key" t',.none⟩] n',#[]⟩)] S (bindArgs (U0 (G0 i) q (.ref ad) (.ref ak) (.ref ac) pm [] .none) ⟨[va,vx,vl,vh],[]⟩)=some [(("a":Str),va),("x",vx),("lo",vl),("hi",vh),("key",.none)]) (hab:ad≠ak) :
  ∀ s:Shared,(∀ b o,C.H₀.get? b=some o→s.heap.get? b=some o)→BindsTo s (U0 (G0 i) q (.ref ad) (.ref ak) (.ref ac) pm [] .none) ⟨[va,vx,vl,vh],[]⟩ [("a",va),("x",vx),("lo",vl),("hi",vh),("key",.none)]:=by
 refine i8 (D.t) fun t n e=>?_
 refine O8 (D.k) fun h' t' n' e'=>?_
 exact fun s hk=>kp_binds (bW hab (hk _ _ e) (hk _ _ e')) fun S=>h h' t t' n n' S
section
variable {C:Cx} (W:G1 C) {A:Around} {g:Heap} {fr:Fm} {E:Value→Shared→Prop} {loc:j0} {hp:HP} {Q:Value→j0→HP→Prop} {a:Addr} {xs:List Int} {x:Int}
  (hroom:A.depth < recursionLimit) (ha:hp a=some (.list (xs.map iv))) (hsz:xs.length≤1000) (hs:xs.Pairwise (·≤·))
include W hroom ha hsz hs
theorem fv (h:Q (iv (C2 xs x)) loc hp):M0 C A g fr E (.ref 39) [.ref a,iv x] [] loc hp Q:=N5 fun v u hv hu=>by
 refine o0 (W.fR) fun pm F=>?_
 refine o0 (cC (i:=3) (q:="bisect_right") (ac:=38) W.dR (pm:=pm) (va:=v) (vx:=u) (fun Z Z Z Z Z Z=>by rfl) (by decide)) fun t hb=>?_
 exact mD W F hb hv hu rfl rfl rfl hroom ha hsz hs h
theorem mC (h:Q (iv (j3 xs x)) loc hp):M0 C A g fr E (.ref 57) [.ref a,iv x] [] loc hp Q:=N5 fun v u hv hu=>by
 refine o0 (W.fL) fun pm F=>?_
 refine o0 (cC (i:=5) (q:="bisect_left") (ac:=56) W.dL (pm:=pm) (va:=v) (vx:=u) (fun Z Z Z Z Z Z=>by rfl) (by decide)) fun t hb=>?_
 exact mE W F hb hv hu rfl rfl rfl hroom ha hsz hs h
end
theorem jH {C:Cx} {A:Around} {g:Heap} {fr:Fm} {E:Value→Shared→Prop} {loc:j0} {hp:HP} {f x y z w:Value} {Q:Value→j0→HP→Prop} (h:∀ v u a b,nm v=x→nm u=y→nm a=z→nm b=w→w0 C A g fr E (call f [v,u,a,b] []) loc hp Q):M0 C A g fr E f [x,y,z,w] [] loc hp Q:=fun vs kw hv hk=>mc vs hv fun v0 vs h0 hv=>mc vs hv fun v1 vs h1 hv=>mc vs hv fun v2 vs h2 hv=>mc vs hv fun v3 vs h3 hv=>mn vs hv (mn kw hk (h v0 v1 v2 v3 h0 h1 h2 h3))
theorem kM {C:Cx} (W:G1 C) {A:Around} {g:Heap} {fr:Fm} {E:Value→Shared→Prop} {loc:j0} {hp:HP} {Q:Value→j0→HP→Prop} {a:Addr} {xs:List Int} {x:Int}
  (hroom:A.depth+1 < recursionLimit) (ha:hp a=some (.list (xs.map iv))) (hsz:xs.length≤1000) (hs:xs.Pairwise (·≤·))
  (h:Q .none loc (k0 hp a (.list (T4 (xs.map iv) (C2 xs x) (iv x))))):M0 C A g fr E (.ref 30) [.ref a,iv x] [] loc hp Q:=N5 fun v u hv hu=>by
 refine o0 (W.fIR) fun pm F=>?_
 refine o0 (cC (i:=2) (q:="insort_right") (ac:=29) W.dIR (pm:=pm) (va:=v) (vx:=u) (fun Z Z Z Z Z Z=>by rfl) (by decide)) fun t hb=>?_
 have hgR:=W.gR
 have hfR:=W.fR
 refine o0 hfR fun pm' FR=>?_;try clear hfR
 refine X4 F rfl rfl W.lim (by exact S7 hroom) hb (by rfl) rfl rfl (by rfl) fun A' g' fr' E' hd hu' hh hF=>?_
 dsimp only [X1]
 rw [hv,hu]
 simp only [nm]
 clear F hb
 refine Y1 ?_
 repeat' walk_at "kl"
 refine jH fun v₁ v₂ v₃ v₄ h₁ h₂ h₃ h₄=>mD W FR (mG (i:=3) (q:="bisect_right") (ac:=38) W.dR (fun Z Z Z Z Z Z=>by rfl) (by decide)) h₁ h₂ h₃ h₄ rfl (by exact bd hroom hd) ha hsz hs ?_
 repeat' walk_at "kl"
 refine ⟨_,B6 F.slot_list_insert F.type_list_insert ha,?_⟩
 repeat' walk_at "kl"
 refine ⟨S4,bJ ha (by rw [List.length_map];exact List.countP_le_length) (by rw [List.length_map];exact q9 hsz) ⟨rfl,?_⟩⟩
 repeat' walk_at "kl"
 exact h
theorem Cy {C:Cx} (W:G1 C) {A:Around} {g:Heap} {fr:Fm} {E:Value→Shared→Prop} {loc:j0} {hp:HP} {Q:Value→j0→HP→Prop} {a:Addr} {xs:List Int} {x:Int}
  (hroom:A.depth+1 < recursionLimit) (ha:hp a=some (.list (xs.map iv))) (hsz:xs.length≤1000) (hs:xs.Pairwise (·≤·))
  (h:Q .none loc (k0 hp a (.list (T4 (xs.map iv) (j3 xs x) (iv x))))):M0 C A g fr E (.ref 48) [.ref a,iv x] [] loc hp Q:=N5 fun v u hv hu=>by
 refine o0 (W.fIL) fun pm F=>?_
 refine o0 (cC (i:=4) (q:="insort_left") (ac:=47) W.dIL (pm:=pm) (va:=v) (vx:=u) (fun Z Z Z Z Z Z=>by rfl) (by decide)) fun t hb=>?_
 have hgR:=W.gL
 have hfR:=W.fL
 refine o0 hfR fun pm' FR=>?_;try clear hfR
 refine X4 F rfl rfl W.lim (by exact S7 hroom) hb (by rfl) rfl rfl (by rfl) fun A' g' fr' E' hd hu' hh hF=>?_
 dsimp only [X1]
 rw [hv,hu]
 simp only [nm]
 clear F hb
 refine Y1 ?_
 repeat' walk_at "kl"
 refine jH fun v₁ v₂ v₃ v₄ h₁ h₂ h₃ h₄=>mE W FR (mG (i:=5) (q:="bisect_left") (ac:=56) W.dL (fun Z Z Z Z Z Z=>by rfl) (by decide)) h₁ h₂ h₃ h₄ rfl (by exact bd hroom hd) ha hsz hs ?_
 repeat' walk_at "kl"
 refine ⟨_,B6 F.slot_list_insert F.type_list_insert ha,?_⟩
 repeat' walk_at "kl"
 refine ⟨S4,bJ ha (by rw [List.length_map];exact List.countP_le_length) (by rw [List.length_map];exact q9 hsz) ⟨rfl,?_⟩⟩
 repeat' walk_at "kl"
 exact h
end
section
noncomputable def j6 (r:List Int) (k:Int):Nat:=r.countP fun y=>decide (y≤k)
noncomputable def U8 (rows:List (List Int)) (lo hi:Nat) (k:Nat):Prop:=∀ at_,lo≤at_→at_ < hi→j6 (rows.getD at_ []) k≤k
noncomputable def F5 (rows:List (List Int)) (lo hi:Nat) (k:Nat):List (List Int):=rows.mapIdx fun at_ r=>if lo≤at_∧at_ < hi then r++[(k:Int)] else r
theorem U9 {a b:Int} {i:Nat} {vs:List Value} (h:((O0 a b).map fun v=>[(.int v 0:Value)])[i]?=some vs):a+i < b∧vs=[.int (a+i) 0]:=by
 rw [List.getElem?_map] at h
 refine z0 (Option.map_eq_some_iff.mp h) fun v hv hR0=>?_;subst hR0
 unfold O0 at hv
 rw [List.getElem?_map] at hv
 refine z0 (Option.map_eq_some_iff.mp hv) fun j hj hR0=>?_;subst hR0
 have:=List.getElem?_eq_some_iff.mp hj
 refine o0 this fun h1 h2=>?_;try clear this
 rw [List.length_range] at h1
 rw [List.getElem_range] at h2
 subst h2
 exact ⟨by exact yM h1,rfl⟩
theorem T9 {a b:Int}:((O0 a b).map fun v=>[(.int v 0:Value)]).length=(b - a).toNat:=by simp [O0]
theorem Y3 {a b x:Int}:x∈O0 a b↔a≤x∧x < b:=by
 unfold O0
 simp only [List.mem_map,List.mem_range]
 constructor
 ·intro hZ0;refine z0 hZ0 fun i hi hR0=>?_;clear hZ0;subst hR0;exact yL hi
 ·intro h;exact ⟨(x - a).toNat,by exact yK h,u5 h⟩
theorem Y0.row {p:HP} {a:Addr} {ts:List Addr} {rows:List (List Int)} (h:Y0 p a ts rows) {k:Nat} (hk:k < rows.length):∃ T,ts[k]?=some T∧p T=some (.list ((rows.getD k []).map iv)):=by
 refine P1 h fun Z h2 Z h4=>?_;try clear h
 have hk':k < ts.length:=by exact q8 hk h2
 refine ⟨ts[k],List.getElem?_eq_getElem hk',?_⟩
 rw [List.getD_eq_getElem?_getD,List.getElem?_eq_getElem hk]
 exact h4 k _ _ (List.getElem?_eq_getElem hk') (List.getElem?_eq_getElem hk)
theorem Y0.mono {p p':HP} {a:Addr} {ts:List Addr} {rows:List (List Int)} (h:Y0 p a ts rows) (hs:m0 p p'):Y0 p' a ts rows:=
 ⟨hs _ _ h.1,h.2.1,h.2.2.1,fun k T r e1 e2=>hs _ _ (h.2.2.2 k T r e1 e2)⟩
theorem m8 {C:Cx} {A:Around} {g:Heap} {fr:Fm} {E:Value→Shared→Prop} {loc:j0} {hp:HP} {value slice:Expr} {l:Addr} {i:Int} {ts:List Addr} {rows:List (List Int)} {Q:Value→j0→HP→Prop} (hs:∀ o j,subscripted slice false o j=operate [o,j] (getItem o j))
  (hR:Y0 hp l ts rows) (h0:0≤i) (hi:i < rows.length) (hsz:rows.length≤100000) (h:∀ T,ts[i.toNat]?=some T→hp T=some (.list ((rows.getD i.toNat []).map iv))→Q (.ref T) loc hp) :
  I1 C A g fr E (subscriptTail value slice) (.ref l) (.int i 0) loc hp Q:=by
 refine z0 (hR.row (k:=i.toNat) (by exact j9 h0 hi)) fun T e1 e2=>?_
 exact M5 hs hR.1 h0 (u2 hi hsz) (by rw [List.getElem?_map,e1];rfl) (h T e1 e2)
theorem CT {r:List Int} {k:Int} {v:Value}:(r.filterMap fun y=>if y≤k then some v else none).length=j6 r k:=by
 unfold j6
 induction r with
 | nil=>rfl
 | cons a r ih=>
  simp only [List.filterMap_cons,List.countP_cons]
  by_cases h:a≤k
  ·simp [h,ih]
  ·simp [h,ih]
theorem Y0.ne {p:HP} {a:Addr} {ts:List Addr} {rows:List (List Int)} (h:Y0 p a ts rows) {k:Nat} {T:Addr} (hT:ts[k]?=some T):a≠T:=by
 rintro rfl
 have hk:k < rows.length:=by rw [←h.2.1];exact (List.getElem?_eq_some_iff.mp hT).1
 refine z0 (h.row hk) fun U e1 e2=>?_
 rw [hT] at e1;cases e1
 rw [h.1] at e2
 injection e2 with e2
 injection e2 with e2
 cases hts:ts with
 | nil=>rw [hts] at hT;exact J0 hT
 | cons t r=>
  rw [hts] at e2
  cases hr:rows.getD k [] with
  | nil=>rw [hr] at e2;cases e2
  | cons y ys=>rw [hr] at e2;injection e2 with e3 _;cases e3
theorem Y0.upd {p:HP} {a:Addr} {ts:List Addr} {rows:List (List Int)} (h:Y0 p a ts rows) {k:Nat} {T:Addr} (hT:ts[k]?=some T) (r:List Int):Y0 (k0 p T (.list (r.map iv))) a ts (rows.set k r):=by
 refine ⟨?_,by rw [List.length_set];exact h.2.1,h.2.2.1,fun j U r' hU hr'=>?_⟩
 ·rw [H0 _ _ (h.ne hT)];exact h.1
 ·have hkj:k=j↔T=U:=⟨fun e=>by subst e;rw [hT] at hU;cases hU;rfl,fun e=>by
   subst e
   have h1:=List.getElem?_eq_some_iff.mp hT
   have h2:=List.getElem?_eq_some_iff.mp hU
   refine o0 h1 fun a1 a2=>?_;try clear h1
   refine o0 h2 fun b1 b2=>?_;try clear h2
   exact (List.getElem_inj h.2.2.1).mp (a2.trans b2.symm)⟩
  rw [List.getElem?_set] at hr'
  by_cases e:k=j
  ·rw [if_pos e] at hr'
   split at hr'
   ·cases hr'
    simp only [←hkj.mp e,s0]
   ·exact J0 hr'
  ·rw [if_neg e] at hr'
   rw [H0 _ _ (fun e'=>e (hkj.mpr e'.symm))]
   exact h.2.2.2 j U r' hU hr'
theorem FF {rows:List (List Int)} {lo k:Nat}:F5 rows lo lo k=rows:=by
 unfold F5
 apply List.ext_getElem?
 intro j
 rw [List.getElem?_mapIdx]
 cases rows[j]? with
 | none=>rfl
 | some r=>rw [Option.map_some,if_neg (by exact yJ)]
theorem cJ {rows:List (List Int)} {lo hi k:Nat}:(F5 rows lo hi k).length=rows.length:=by simp [F5]
theorem FG {rows:List (List Int)} {lo hi k j:Nat} (hj:j < rows.length) (hn:hi≤j):(F5 rows lo hi k).getD j []=rows.getD j []:=by
 unfold F5
 simp only [List.getD_eq_getElem?_getD,List.getD_eq_getElem?_getD,List.getElem?_mapIdx]
 rw [List.getElem?_eq_getElem hj,Option.map_some,if_neg (by exact gz hn)]
theorem FE {rows:List (List Int)} {lo hi k:Nat} (hlo:lo≤hi) (hj:hi < rows.length):F5 rows lo (hi+1) k=(F5 rows lo hi k).set hi (rows.getD hi []++[(k:Int)]):=by
 apply List.ext_getElem?
 intro j
 rw [List.getElem?_set,cJ]
 unfold F5
 simp only [List.getElem?_mapIdx,List.getElem?_mapIdx]
 by_cases e:hi=j
 ·subst e
  rw [if_pos rfl,if_pos hj,List.getElem?_eq_getElem hj,Option.map_some,if_pos (by exact yI hlo),List.getD_eq_getElem?_getD,List.getElem?_eq_getElem hj];rfl
 ·rw [if_neg e]
  cases rows[j]? with
  | none=>rfl
  | some r=>
   simp only [Option.map_some,Option.map_some]
   by_cases h:lo≤j∧j < hi
   ·rw [if_pos h,if_pos (by exact yH h)]
   ·rw [if_neg h,if_neg (by exact yG e h)]
theorem DQ {r:List Int} {k:Int}:j6 r k≤r.length:=List.countP_le_length
theorem Y7 {rows:List (List Int)} {k:Nat} (h:k < rows.length):rows.getD k []∈rows:=by
 rw [List.getD_eq_getElem?_getD,List.getElem?_eq_getElem h]
 exact List.getElem_mem _
theorem Au {C:Cx} (W:G1 C) {A:Around} {g:Heap} {fr:Fm} {E:Value→Shared→Prop} {loc:j0} {hp:HP} {Q:Value→j0→HP→Prop} {sp th:Addr} {ts:List Addr} {rows:List (List Int)} {lo hi:Nat}
  (hroom:A.depth < recursionLimit) (hh:A.handled=none) (hsp:hp sp=some (.tuple [iv lo,iv hi])) (hth:Y0 hp th ts rows) (hlt:lo < hi) (hhi:hi≤rows.length) (hrn:rows.length≤100) (hsz:∀ r∈rows,r.length≤100)
  (hno:∀ p',(∀ j,j < 11→¬U8 rows lo hi j)→m0 hp p'→Q (iv (-1)) loc p')
  (hyes:∀ k p',k < 11→U8 rows lo hi k→(∀ j,j < k→¬U8 rows lo hi j)→Y0 p' th ts (F5 rows lo hi k)→(∀ b o,b∉ts→hp b=some o→p' b=some o)→Q (iv k) loc p') :
  M0 C A g fr E (.ref 180) [.ref sp,.ref th] [] loc hp Q:=N5 fun v u hv hu=>by
 refine o0 (W.fDue) fun pm F=>?_
 have hlen:=W.len
 have hmax:=W.max
 have hrange:=W.range
 refine X4 F rfl rfl W.lim hroom (binds:=[("span",v),("there",u)]) (fun s hk=>kp_binds E5 fun S=>by rfl) (by rfl) rfl rfl (by rfl) fun A' g' fr' E' hd hu' hh' hF=>?_
 rw [hh] at hh'
 dsimp only [X1]
 rw [hv,hu]
 clear F
 refine Y1 ?_
 repeat' walk_at "kl"
 refine k6 fun r hr=>j5 hh' hr (by decide) (by decide) ⟨fun k l p=>m0 hp p∧l "span" = some (.ref sp)∧l "there" = some (.ref th)∧∀ j,j < k→¬U8 rows lo hi j,⟨m0.rfl,?_,?_,fun j h=>absurd h (Nat.not_lt_zero _)⟩,fun i l p Z=>trivial,?turn,?fin⟩
 ·walk_at "loc"
 ·walk_at "loc"
 case fin=>
  intro l p g₂ E₂ hZ0;refine P1 hZ0 fun hs e1 e2 e3=>?_;clear hZ0
  rw [T9] at e3
  repeat' walk_at "kl"
  exact hno _ e3 hs
 case turn=>
  intro i vs l p g₂ E₂ hvs hZ0;refine P1 hZ0 fun hs e1 e2 e3=>?_;clear hZ0
  refine B0 (U9 hvs) fun hi11 hR0=>?_;subst hR0
  rw [Int.zero_add] at hi11 ⊢
  have hsp:=hs _ _ hsp
  have hth':=hth.mono hs
  dsimp only [W0,K0]
  repeat' walk_at "kl"
  refine aB fun r hr=>W4 (O0 lo hi) (fun v=>[.int v 0]) (fun v=>iv (j6 (rows.getD v.toNat []) i)) (j5 hh' hr (by exact gy hrn hhi hlt) (by exact bw hrn hhi) ⟨rfl,by simp [O0];exact yF hrn hhi,?elt,?done⟩)
  case elt=>
   intro x hx g₃ fr₃ E₃ hF₃
   dsimp only [W0,K0]
   repeat' walk_at "kl"
   refine B0 (Y3.mp hx) fun hx1 hx2=>?_
   have hlen:=hsz _ (Y7 (rows:=rows) (k:=x.toNat) (by exact yE hhi hx2 hlt))
   refine m8 (by intro _ _;with_unfolding_all rfl) hth' (by exact yD hx1) (by exact bv hhi hx2) (by exact q3 hrn) fun T hT hpT=>?_
   refine j7 (rows.getD x.toNat []) (fun y=>[.int y 0]) (fun y=>if y≤(i:Int) then some (iv 1) else none) (V6 hh' hpT ⟨rfl,by exact q3 hlen,?elt2,?done2⟩)
   case elt2=>
    intro y hy g₄ fr₄ E₄ hF₄
    dsimp only [W0,K0]
    repeat' walk_at "kl"
    refine ⟨rfl,m0.rfl,?_⟩
    by_cases hy:y≤(i:Int)
    ·rw [if_pos (by simpa using hy)]
     intro g₅ E₅
     repeat' walk_at "kl"
     exact ⟨rfl,m0.rfl,if_pos hy⟩
    ·rw [if_neg (by simpa using hy)]
     exact if_neg hy
   case done2=>
    intro D hD
    repeat' walk_at "kl"
    have hfc:=CT (r:=rows.getD x.toNat []) (k:=i) (v:=iv 1)
    have hle:j6 (rows.getD x.toNat []) i≤100:=Nat.le_trans DQ hlen
    refine E6 (s0 _ _ _) (by simp only [hfc,sizeLine_eq];exact dN hle) ⟨rfl,m0.set hD,?_⟩
    rw [hfc]
  case done=>
   intro D hD
   repeat' walk_at "kl"
   refine cB (ns:=(O0 lo hi).map fun v=>(j6 (rows.getD v.toNat []) i:Int)) hh' (by simp only [s0,List.map_map];rfl) ?_ fun M hM hMx=>?_
   ·intro e
    have:=List.map_eq_nil_iff.mp e
    have h2:(lo:Int)∈O0 lo hi:=Y3.mpr ⟨by exact gx,by exact i9 hlt⟩
    rw [this] at h2;cases h2
   repeat' walk_at "kl"
   have hfits:U8 rows lo hi i↔M≤(i:Int):=by
    constructor
    ·intro hf
     refine z0 (List.mem_map.mp hM) fun v hv hR0=>?_;subst hR0
     refine B0 (Y3.mp hv) fun h1 h2=>?_
     have:=hf v.toNat (by exact gw h1) (by exact gu h2 hlt)
     exact bu this
    ·intro hle a ha hb
     have:=hMx _ (List.mem_map.mpr ⟨(a:Int),Y3.mpr ⟨by exact bu ha,by exact i9 hb⟩,rfl⟩)
     simp only [Int.toNat_natCast] at this
     exact yC hle this
   have hsD:m0 hp (k0 p D (AO.list (List.map (fun v=>iv ↑(j6 (rows.getD v.toNat []) ↑i)) (O0 ↑lo ↑hi)))):=hs.trans (m0.set hD)
   by_cases hfit:M≤(i:Int)
   ·rw [if_pos (by simpa using hfit)]
    generalize k0 p D (AO.list (List.map (fun v=>iv ↑(j6 (rows.getD v.toNat []) ↑i)) (O0 ↑lo ↑hi)))=p₁ at hsD
    have hsp:=hsD _ _ ‹hp sp=_›
    repeat' walk_at "kl"
    refine aB fun r₂ hr₂=>j5 hh' hr₂ (by exact gy hrn hhi hlt) (by exact bw hrn hhi) ⟨fun n l p=>l "there" = some (.ref th)∧l "level" = some (iv i)∧Y0 p th ts (F5 rows lo (lo+n) i)∧(∀ b o,b∉ts→hp b=some o→p b=some o),⟨?_,?_,?_,fun b o Z e=>hsD _ _ e⟩,fun Z Z Z Z=>trivial,?turn2,?fin2⟩
    ·walk_at "loc"
    ·walk_at "loc"
    ·simp only [Nat.add_zero,FF];exact hth.mono hsD
    case turn2=>
     intro n vs l p g₃ E₃ hvs hZ0;refine P1 hZ0 fun e4 e5 e6 e7=>?_;clear hZ0
     refine B0 (U9 hvs) fun hn hR0=>?_;subst hR0
     dsimp only [W0,K0]
     repeat' walk_at "kl"
     refine m8 (by intro _ _;with_unfolding_all rfl) e6 (by exact yB) (by rw [cJ];exact yA hhi hn) (by rw [cJ];exact q3 hrn) fun T hT hpT=>?_
     have ek:((lo:Int)+(n:Int)).toNat=lo+n:=by exact jw
     rw [ek] at hT hpT
     rw [FG (by exact dM hhi hn) (Nat.le_refl _)] at hpT
     refine ⟨_,B6 F.slot_list_append F.type_list_append hpT,?_⟩
     repeat' walk_at "kl"
     refine ⟨S4,ag hpT (by rw [List.length_map];have:=hsz _ (Y7 (rows:=rows) (k:=lo+n) (by exact dM hhi hn));exact q3 this) ⟨rfl,?_⟩⟩
     repeat' walk_at "kl"
     refine ⟨?_,?_,?_,fun b o hb e=>?_⟩
     ·walk_at "loc"
     ·walk_at "loc"
     ·have:=e6.upd hT (rows.getD (lo+n) []++[(i:Int)])
      rw [←FE (by exact dK) (by exact dM hhi hn),List.map_append] at this
      exact this
     ·rw [H0 _ _ (by rintro rfl;exact hb (List.mem_of_getElem? hT))]
      exact e7 b o hb e
    case fin2=>
     intro l p g₃ E₃ hZ0;refine P1 hZ0 fun e4 e5 e6 e7=>?_;clear hZ0
     rw [T9] at e6
     repeat' walk_at "kl"
     have ek:lo+((hi:Int) - (lo:Int)).toNat=hi:=by exact yz hlt
     rw [ek] at e6
     exact hyes i p (by exact yy hi11) (hfits.mpr hfit) e3 e6 e7
   ·rw [if_neg (by simpa using hfit)]
    repeat' walk_at "kl"
    refine ⟨hsD,?_,?_,fun j hj=>?_⟩
    ·walk_at "loc"
    ·walk_at "loc"
    ·rcases Nat.lt_or_ge j i with h | h
     ·exact e3 j h
     ·have:j=i:=by exact q2 hj h
      subst this
      exact fun hf=>hfit (hfits.mp hf)
end
section
theorem Y0.other {p:HP} {a:Addr} {ts:List Addr} {rows:List (List Int)} (h:Y0 p a ts rows) {T:Addr} {r:List Int} {o:AO} (hT:p T=some (.list (r.map iv))) (hn:T∉ts) (hne:rows≠[]):Y0 (k0 p T o) a ts rows:=by
 have ha:a≠T:=by
  rintro rfl
  rw [h.1] at hT
  injection hT with e
  injection e with e
  have hl:0 < ts.length:=by rw [h.2.1];exact List.length_pos_iff.mpr hne
  cases hts:ts with
  | nil=>rw [hts] at hl;exact absurd hl (Nat.lt_irrefl _)
  | cons t q=>
   rw [hts] at e
   cases r with
   | nil=>cases e
   | cons y ys=>injection e with e3 _;cases e3
 refine ⟨by rw [H0 _ _ ha];exact h.1,h.2.1,h.2.2.1,fun k U r' hU hr'=>?_⟩
 rw [H0 _ _ (by rintro rfl;exact hn (List.mem_of_getElem? hU))]
 exact h.2.2.2 k U r' hU hr'
noncomputable def C6 (bss ess:List (List Int)):Nat→Int→Int
 | 0,_=>0
 | k+1,v=>C6 bss ess k v+((j3 (bss.getD k []) (v+1):Int) - C2 (ess.getD k []) v)
noncomputable def T8 (bss ess:List (List Int)) (lo hi:Nat) (k:Nat):Prop:=∀ a:Nat,lo≤a→a < hi→C6 bss ess (k+1) a≤k
noncomputable def S3 (xs:List Int) (k:Nat) (x:Int):List Int:=xs.take k++x::xs.drop k
theorem eM {xs:List Int} {k:Nat} {x:Int}:T4 (xs.map iv) k (iv x)=(S3 xs k x).map iv:=by
 delta T4 S3;simp only [List.map_append,List.map_cons,List.map_take,List.map_drop]
theorem Cm {C:Cx} {A:Around} {g:Heap} {fr:Fm} {E:Value→Shared→Prop} {loc:j0} {hp:HP} (hh:A.handled=none) {β:Type} {l:List β} {F G:β→Int} {l1 l2:Addr} {x y:Str} {px py pos:Pos} {k} {K:List (List Value)→(HP→Prop)→j0→HP→Prop} (hl1:hp l1=some (.list (l.map fun v=>iv (F v)))) (hl2:hp l2=some (.list (l.map fun v=>iv (G v))))
  (h:K (l.map fun v=>[iv (F v),iv (G v)]) (fun p=>p l1=some (.list (l.map fun v=>iv (F v)))∧p l2=some (.list (l.map fun v=>iv (G v)))) loc hp) :
  M0 C A g fr E (.type "zip") [.ref l1,.ref l2] [] loc hp fun v l p=>i3 C A (.Tuple [.Name x px,.Name y py] k pos) [x,y] v l p K:=kH hh hl1 hl2 (by
 simp only [List.zip_map',List.map_map];exact h)
theorem Am {C:Cx} (W:G1 C) {A:Around} {g:Heap} {fr:Fm} {E:Value→Shared→Prop} {loc:j0} {hp:HP} {Q:Value→j0→HP→Prop} {sp bg en:Addr} {bts ets:List Addr} {bss ess:List (List Int)} {lo hi:Nat}
  (hroom:A.depth+2 < recursionLimit) (hh:A.handled=none) (hsp:hp sp=some (.tuple [iv lo,iv hi])) (hb:Y0 hp bg bts bss) (he:Y0 hp en ets ess) (hlt:lo < hi) (hhi:hi≤100) (hlen:ess.length=bss.length) (hrn:bss.length≤100)
  (hbs:∀ r∈bss,r.length≤100∧r.Pairwise (·≤·)) (hes:∀ r∈ess,r.length≤100∧r.Pairwise (·≤·)) (hdis:∀ T∈bts,T∉ets)
  (hno:∀ p',(∀ j,j < bss.length→¬T8 bss ess lo hi j)→m0 hp p'→Q (iv (-1)) loc p')
  (hyes:∀ k p',k < bss.length→T8 bss ess lo hi k→(∀ j,j < k→¬T8 bss ess lo hi j)→Y0 p' bg bts (bss.set k (S3 (bss.getD k []) (j3 (bss.getD k []) lo) lo))→Y0 p' en ets (ess.set k (S3 (ess.getD k []) (C2 (ess.getD k []) hi) hi))→
   (∀ b o,b∉bts→b∉ets→hp b=some o→p' b=some o)→Q (iv k) loc p') :
  M0 C A g fr E (.ref 170) [.ref sp,.ref bg,.ref en] [] loc hp Q:=G8 fun v u w hv hu hw=>by
 refine o0 (W.fLevel) fun pm F=>?_
 have hlenG:=W.len
 have hmax:=W.max
 have hrange:=W.range
 have hzip:=W.zip
 have hgL:=W.gL
 have hgR:=W.gR
 have hgIL:=W.gIL
 have hgIR:=W.gIR
 refine o0 (W.fL) fun pm1 FL=>?_
 refine o0 (W.fR) fun pm2 FR=>?_
 refine o0 (W.fIL) fun pm3 FIL=>?_
 refine o0 (W.fIR) fun pm4 FIR=>?_
 refine X4 F rfl rfl W.lim (by exact dJ hroom) (binds:=[("span",v),("begins",u),("ends",w)]) (fun s hk=>kp_binds E5 fun S=>by rfl) (by rfl) rfl rfl (by rfl) fun A' g' fr' E' hd hu' hh' hF=>?_
 rw [hh] at hh'
 dsimp only [X1]
 simp only [hv,hu,hw]
 clear F
 refine Y1 ?_
 repeat' walk_at "kl"
 refine aB fun r hr=>W4 (O0 lo hi) (fun v=>[.int v 0]) (fun v=>iv (C6 bss ess 0 v)) (j5 hh' hr (by exact jv hhi hlt) (by exact bt hhi) ⟨rfl,by simp [O0];exact dI hhi,?elt,?done⟩)
 case elt=>
  intro x hx g₃ fr₃ E₃ hF₃
  dsimp only [W0,K0]
  repeat' walk_at "kl"
  exact ⟨rfl,m0.rfl,rfl⟩
 case done=>
  intro D hD
  repeat' walk_at "kl"
  refine E6 (by rw [E1 hD hb.1]) (by simp only [List.length_map,hb.2.1,sizeLine_eq];exact dN hrn) ?_
  repeat' walk_at "kl"
  refine k6 fun r hr=>j5 hh' hr (by decide) (by rw [List.length_map,hb.2.1];exact bt hrn) ⟨fun k l p=>m0 hp p∧l "span" = some (.ref sp)∧l "begins" = some (.ref bg)∧l "ends" = some (.ref en)∧(∃ c,l "covers" = some (.ref c)∧p c=some (.list ((O0 lo hi).map fun v=>iv (C6 bss ess k v))))∧∀ j,j < k→¬T8 bss ess lo hi j,⟨m0.set hD,?_,?_,?_,⟨D,?_,s0 ..⟩,fun j h=>absurd h (Nat.not_lt_zero _)⟩,fun i l p Z=>trivial,?turn,?fin⟩
  ·walk_at "loc"
  ·walk_at "loc"
  ·walk_at "loc"
  ·walk_at "loc"
  case fin=>
   intro l p g₂ E₂ hZ0;refine w5 hZ0 fun hs e1 e2 e3 Z e4=>?_;clear hZ0
   rw [T9,List.length_map,hb.2.1] at e4
   repeat' walk_at "kl"
   exact hno _ (fun j hj=>e4 j (by exact yv hj)) hs
  case turn=>
   rintro i vs l p g₂ E₂ hvs ⟨hs,e1,e2,e3,⟨c,ec,hc⟩,e4⟩
   refine B0 (U9 hvs) fun hi11 hR0=>?_;subst hR0
   rw [List.length_map,hb.2.1] at hi11
   rw [Int.zero_add] at hi11 ⊢
   have hib:i < bss.length:=by exact yu hi11
   have hsp':=hs _ _ hsp
   have hb':=hb.mono hs
   have he':=he.mono hs
   dsimp only [W0,K0]
   repeat' walk_at "kl"
   refine aB fun r hr=>W4 (O0 lo hi) (fun v=>[.int v 0]) (fun v=>iv ((j3 (bss.getD i []) (v+1):Int) - C2 (ess.getD i []) v)) (j5 hh' hr (by exact jv hhi hlt) (by exact bt hhi) ⟨rfl,by simp [O0];exact dI hhi,?elt2,?done2⟩)
   case elt2=>
    intro x hx g₃ fr₃ E₃ hF₃
    dsimp only [W0,K0]
    repeat' walk_at "kl"
    refine m8 (by intro _ _;with_unfolding_all rfl) hb' (by exact q0) (by exact zb hi11) (by exact q3 hrn) fun T hT hpT=>?_
    repeat' walk_at "kl"
    refine B0 (hbs _ (Y7 (rows:=bss) (k:=i) hib)) fun q1 q2=>?_
    refine B0 (hes _ (Y7 (rows:=ess) (k:=i) (by exact ju hlen hi11))) fun q3 q4=>?_
    simp only [Int.toNat_natCast] at hpT
    refine mC W (by exact br hroom hd) hpT (by exact aa q1) q2 ?_
    repeat' walk_at "kl"
    refine m8 (by intro _ _;with_unfolding_all rfl) he' (by exact q0) (by exact jt hlen hi11) (by exact js hrn hlen) fun U hU hpU=>?_
    repeat' walk_at "kl"
    simp only [Int.toNat_natCast] at hpU
    refine fv W (by exact br hroom hd) hpU (by exact aa q3) q4 ?_
    repeat' walk_at "kl"
    exact ⟨rfl,m0.rfl,rfl⟩
   case done2=>
    intro D2 hD2
    repeat' walk_at "kl"
    refine m9 (Cm hh' (E1 hD2 hc) (s0 _ _ _) ?zz) fun v l p hz=>W4 (O0 lo hi) (fun v=>[iv (C6 bss ess i v),iv ((j3 (bss.getD i []) (v+1):Int) - C2 (ess.getD i []) v)]) (fun v=>iv (C6 bss ess (i+1) v)) hz
    case zz=>
     refine ⟨rfl,by simp [O0];exact dI hhi,?elt3,?done3⟩
     case elt3=>
      intro x hx g₃ fr₃ E₃ hF₃
      dsimp only [W0,K0]
      repeat' walk_at "kl"
      exact ⟨rfl,m0.rfl,rfl⟩
     case done3=>
      intro D3 hD3
      repeat' walk_at "kl"
      refine cB (ns:=(O0 lo hi).map fun v=>C6 bss ess (i+1) v) hh' (by simp only [s0,List.map_map];rfl) ?_ fun M hM hMx=>?_
      ·intro e
       have:=List.map_eq_nil_iff.mp e
       have h2:(lo:Int)∈O0 lo hi:=Y3.mpr ⟨by exact gx,by exact i9 hlt⟩
       rw [this] at h2;cases h2
      repeat' walk_at "kl"
      have hfits:T8 bss ess lo hi i↔M≤(i:Int):=by
       constructor
       ·intro hf
        refine z0 (List.mem_map.mp hM) fun v hv hR0=>?_;subst hR0
        refine B0 (Y3.mp hv) fun h1 h2=>?_
        have:=hf v.toNat (by exact gw h1) (by exact gu h2 hlt)
        rwa [show ((v.toNat:Nat):Int)=v by exact yt h1] at this
       ·intro hle a ha hb
        have:=hMx _ (List.mem_map.mpr ⟨(a:Int),Y3.mpr ⟨by exact bu ha,by exact i9 hb⟩,rfl⟩)
        exact bq hle this
      have hsD:=hs.trans ((m0.set (o:=.list ((O0 lo hi).map fun v=>iv ((j3 (bss.getD i []) (v+1):Int) - C2 (ess.getD i []) v))) hD2).trans (m0.set (o:=.list ((O0 lo hi).map fun v=>iv (C6 bss ess (i+1) v))) hD3))
      have hcv:=s0 (k0 p D2 (.list ((O0 lo hi).map fun v=>iv ((j3 (bss.getD i []) (v+1):Int) - C2 (ess.getD i []) v)))) D3 (.list ((O0 lo hi).map fun v=>iv (C6 bss ess (i+1) v)))
      by_cases hfit:M≤(i:Int)
      ·rw [if_pos (by simpa using hfit)]
       generalize k0 (k0 p D2 _) D3 _=p₁ at hsD hcv ⊢
       have hsp₁:=hsD _ _ hsp
       have hb₁:=hb.mono hsD
       have he₁:=he.mono hsD
       refine B0 (hbs _ (Y7 (rows:=bss) (k:=i) hib)) fun q1 q2=>?_
       refine B0 (hes _ (Y7 (rows:=ess) (k:=i) (by exact ju hlen hi11))) fun q3 q4=>?_
       repeat' walk_at "kl"
       refine m8 (by intro _ _;with_unfolding_all rfl) hb₁ (Int.natCast_nonneg i) (Int.ofNat_lt.mpr hib) (Nat.le_trans hrn (by decide)) fun T hT hpT=>?_
       simp only [Int.toNat_natCast] at hpT hT
       repeat' walk_at "kl"
       refine Cy W (by exact bp hroom hd) hpT (by exact aa q1) q2 ⟨rfl,?_⟩
       simp only [eM]
       have hTe:T∉ets:=hdis T (List.mem_of_getElem? hT)
       have hb₂:=hb₁.upd hT (S3 (bss.getD i []) (j3 (bss.getD i []) lo) lo)
       have he₂:=he₁.other (o:=.list ((S3 (bss.getD i []) (j3 (bss.getD i []) lo) lo).map iv)) hpT hTe (by rintro rfl;simp only [List.length_nil] at hlen;exact yr hlen hi11)
       have hspT:sp≠T:=by rintro rfl;rw [hsp₁] at hpT;exact R3 hpT
       have hsp₂:k0 p₁ T (.list ((S3 (bss.getD i []) (j3 (bss.getD i []) lo) lo).map iv)) sp=some (.tuple [iv lo,iv hi]):=by rw [H0 _ _ hspT];exact hsp₁
       have hkeep:∀ b o,b∉bts→b∉ets→hp b=some o→k0 p₁ T (.list ((S3 (bss.getD i []) (j3 (bss.getD i []) lo) lo).map iv)) b=some o:=fun b o h1 h2 e=>by
        rw [H0 _ _ (by rintro rfl;exact h1 (List.mem_of_getElem? hT))]
        exact hsD _ _ e
       generalize k0 p₁ T _=p₂ at hb₂ he₂ hsp₂ hkeep ⊢
       repeat' walk_at "kl"
       refine m8 (by intro _ _;with_unfolding_all rfl) he₂ (by exact q0) (by exact jt hlen hi11) (by exact js hrn hlen) fun U hU hpU=>?_
       simp only [Int.toNat_natCast] at hpU hU
       repeat' walk_at "kl"
       refine kM W (by exact bp hroom hd) hpU (by exact aa q3) q4 ⟨rfl,?_⟩
       simp only [eM]
       have hUb:U∉bts:=fun h=>hdis U h (List.mem_of_getElem? hU)
       have he₃:=he₂.upd hU (S3 (ess.getD i []) (C2 (ess.getD i []) hi) hi)
       have hb₃:=hb₂.other (o:=.list ((S3 (ess.getD i []) (C2 (ess.getD i []) hi) hi).map iv)) hpU hUb (by intro e;have:=congrArg List.length e;rw [List.length_set,List.length_nil] at this;exact yq this hi11)
       repeat' walk_at "kl"
       refine hyes i _ hib (hfits.mpr hfit) e4 hb₃ he₃ fun b o h1 h2 e=>?_
       rw [H0 _ _ (by rintro rfl;exact h2 (List.mem_of_getElem? hU))]
       exact hkeep b o h1 h2 e
      ·rw [if_neg (by simpa using hfit)]
       repeat' walk_at "kl"
       refine ⟨hsD,?_,?_,?_,⟨D3,?_,hcv⟩,fun j hj=>?_⟩
       ·walk_at "loc"
       ·walk_at "loc"
       ·walk_at "loc"
       ·walk_at "loc"
       ·rcases Nat.lt_or_ge j i with h | h
        ·exact e4 j h
        ·have:j=i:=by exact q2 hj h
         subst this
         exact fun hf=>hfit (hfits.mp hf)
end
section
section
variable {α:Type} {C:Cx} {A:Around} {g:Heap} {fr:Fm} {E:Value→Shared→Prop} {loc:j0} {hp:HP} {sc:Scope} {ow:Str→Bool} {scope:Scope}
noncomputable def I8 (sc:Scope):Env:={(default:Env) with scope:=sc}
theorem fX (F:P0 fr sc ow) {targets:List Expr} {value:Expr}:swappedStores targets value fr.env=swappedStores targets value (I8 sc):=by
 unfold swappedStores
 unfold Env.blockKind Env.kindOf
 rw [F.scope];rfl
theorem zX {l:j0} {x y:Str} {a b:Value} (h:x≠y):N0 (N0 l x a) y b=N0 (N0 l y b) x a:=by
 funext z;unfold N0
 by_cases h1:z=y
 ·subst h1;simp [h.symm]
 ·simp [h1]
theorem Eu (hh:A.handled=none) {T:Addr} {a b:Value} {Q:List Value→j0→HP→Prop} (hT:hp T=some (.tuple [a,b])) (h:∀ u v,nm u=a→nm v=b→Q [u,v] loc hp) :
  aw C A g fr E (unpackItems (.ref T) 2 none) loc hp Q:=fun s R S=>by
 refine V0 (R.tuple hT) fun vs n e q=>?_
 have h1:vs.toList.length=2:=by simpa using congrArg List.length q
 refine (T6 h1).elim fun u h1=>h1.elim fun v hv=>?_
 rw [hv] at q
 injection q with q1 q2
 injection q2 with q2 _
 have h2:vs.size=2:=by simp only [←Array.length_toList,hv];rfl
 rw [←h2]
 refine wpAny_unpackItems_tuple hh (items:=vs) ⟨_,e,rfl,n,rfl⟩ fun h' hx'=>?_
 rw [hv]
 exact ⟨S,loc,hp,R.keeps (h':=h') fun b o e=>hx' b o (Nat.ne_of_lt (Heap.lt_size e)) e,h u v q1 q2⟩
theorem mW (hh:A.handled=none) (F:P0 fr sc ow) {x y:Str} {px py tp pos:Pos} {k} {value:Expr} {o:Option (List Str)} {Q:Flow→j0→HP→Prop}
  (hs:swapsWithSole [.Tuple [.Name x px,.Name y py] k tp] value pos.line fr.env=pure false)
  (hw:swappedStores [.Tuple [.Name x px,.Name y py] k tp] value (I8 sc)=pure o) (ho:o=none∨o=some [x,y]) (hxy:x≠y) (hx:M1 fr x) (hy:M1 fr y)
  (h:w0 C A g fr E (eval value fr.env) loc hp fun v l p=>∃ T a b,v=.ref T∧p T=some (.tuple [a,b])∧Q .next (N0 (N0 l x a) y b) p) :
  I0 C A g fr E (exec (.Assign [.Tuple [.Name x px,.Name y py] k tp] value pos) fr.env) loc hp Q:=by
 refine N3 (PySem.exec_Assign_arm ..) (E0 (U2 ?_))
 simp only [hs]
 refine E0 (N1 ?_)
 rw [if_neg (by decide)]
 refine E0 (Z0 h fun v l p hZ0=>CX hZ0 fun T a b e hT hQ=>?_)
 rw [fX F,hw]
 refine E0 (N1 ?_)
 have:=Q0 e;subst this
 rcases ho with rfl | rfl
 ·show aw C A g fr E (do assignAll (.ref T) [assign (.Tuple [.Name x px,.Name y py] k tp) fr.env];pure Flow.next) l p _
  exact E0 (show aw C A g fr E (assign (.Tuple [.Name x px,.Name y py] k tp) fr.env (.ref T)) l p _ from cH hh hT hx hy (N1 (a:=Flow.next) hQ))
 ·show aw C A g fr E (do rule "assign.swapped-stores";let items ←unpackItems (.ref T) 2 none;assignInOrder ([y,x].map fun n=>bindName fr.env n) items.reverse;pure Flow.next) l p _
  refine E0 (EA (E0 (Eu hh hT fun u v eu ev=>E0 ?_)))
  show aw C A g fr E (do holding [u] (bindName fr.env y v);do holding [] (bindName fr.env x u);pure ()) l p _
  refine E0 (N2 (aF hy (E0 (N2 (aF hx (N1 (N1 (a:=Flow.next) ?_)))))))
  rw [eu,ev,zX hxy.symm]
  exact hQ
theorem Fu (hh:A.handled=none) (F:P0 fr sc ow) {x y:Str} {px py tp pos:Pos} {k} {value:Expr} {Q:Flow→j0→HP→Prop}
  (hs:swapsWithSole [.Tuple [.Name x px,.Name y py] k tp] value pos.line fr.env=pure false)
  (hw:swappedStores [.Tuple [.Name x px,.Name y py] k tp] value (I8 sc)=pure none) (hxy:x≠y) (hx:M1 fr x) (hy:M1 fr y)
  (h:w0 C A g fr E (eval value fr.env) loc hp fun v l p=>∃ T a b,v=.ref T∧p T=some (.tuple [a,b])∧Q .next (N0 (N0 l x a) y b) p) :
  I0 C A g fr E (exec (.Assign [.Tuple [.Name x px,.Name y py] k tp] value pos) fr.env) loc hp Q:=mW hh F hs hw (.inl rfl) hxy hx hy h
theorem Ft (hh:A.handled=none) (F:P0 fr sc ow) {x y:Str} {px py tp pos:Pos} {k} {value:Expr} {Q:Flow→j0→HP→Prop}
  (hs:swapsWithSole [.Tuple [.Name x px,.Name y py] k tp] value pos.line fr.env=pure false)
  (hw:swappedStores [.Tuple [.Name x px,.Name y py] k tp] value (I8 sc)=pure (some [x,y])) (hxy:x≠y) (hx:M1 fr x) (hy:M1 fr y)
  (h:w0 C A g fr E (eval value fr.env) loc hp fun v l p=>∃ T a b,v=.ref T∧p T=some (.tuple [a,b])∧Q .next (N0 (N0 l x a) y b) p) :
  I0 C A g fr E (exec (.Assign [.Tuple [.Name x px,.Name y py] k tp] value pos) fr.env) loc hp Q:=mW hh F hs hw (.inr rfl) hxy hx hy h
theorem AP {x y:Str} {px py tp pos:Pos} {k} {value:Expr} {Q:Flow→j0→HP→Prop} (h:w0 C A g fr E (eval value fr.env) loc hp fun v l p=>∃ T a b,v=.ref T∧p T=some (.tuple [a,b])∧Q .next (N0 (N0 l x a) y b) p)
  (hh:A.handled=none:=by assumption) (F:P0 fr sc ow:=by assumption) (hs:swapsWithSole [.Tuple [.Name x px,.Name y py] k tp] value pos.line fr.env=pure false:=by with_unfolding_all rfl)
  (hw:swappedStores [.Tuple [.Name x px,.Name y py] k tp] value (I8 sc)=pure none:=by with_unfolding_all rfl) (hxy:x≠y:=by with_unfolding_all decide) (hx:M1 fr x:=by with_unfolding_all walk_at "sto") (hy:M1 fr y:=by with_unfolding_all walk_at "sto"):I0 C A g fr E (exec (.Assign [.Tuple [.Name x px,.Name y py] k tp] value pos) fr.env) loc hp Q:=Fu hh F hs hw hxy hx hy h
theorem AN {x y:Str} {px py tp pos:Pos} {k} {value:Expr} {Q:Flow→j0→HP→Prop} (h:w0 C A g fr E (eval value fr.env) loc hp fun v l p=>∃ T a b,v=.ref T∧p T=some (.tuple [a,b])∧Q .next (N0 (N0 l x a) y b) p)
  (hh:A.handled=none:=by assumption) (F:P0 fr sc ow:=by assumption) (hs:swapsWithSole [.Tuple [.Name x px,.Name y py] k tp] value pos.line fr.env=pure false:=by with_unfolding_all rfl)
  (hw:swappedStores [.Tuple [.Name x px,.Name y py] k tp] value (I8 sc)=pure (some [x,y]):=by with_unfolding_all rfl) (hxy:x≠y:=by with_unfolding_all decide) (hx:M1 fr x:=by with_unfolding_all walk_at "sto") (hy:M1 fr y:=by with_unfolding_all walk_at "sto"):I0 C A g fr E (exec (.Assign [.Tuple [.Name x px,.Name y py] k tp] value pos) fr.env) loc hp Q:=Ft hh F hs hw hxy hx hy h
end
noncomputable def X3 (p:HP) (a:Addr) (ts:List Addr) (ps:List (Nat × Nat)):Prop:=
 p a=some (.list (ts.map .ref))∧ts.length=ps.length∧∀ (k:Nat) (T:Addr) (v:Nat × Nat),ts[k]?=some T→ps[k]?=some v→p T=some (.tuple [iv v.1,iv v.2])
theorem X3.mono {p p':HP} {a:Addr} {ts:List Addr} {ps:List (Nat × Nat)} (h:X3 p a ts ps) (hs:m0 p p'):X3 p' a ts ps:=
 ⟨hs _ _ h.1,h.2.1,fun k T r e1 e2=>hs _ _ (h.2.2 k T r e1 e2)⟩
section
variable {C:Cx} {A:Around} {g:Heap} {fr:Fm} {E:Value→Shared→Prop} {loc:j0} {hp:HP}
theorem kI (hh:A.handled=none) {a:Addr} {ts:List Addr} {ps:List (Nat × Nat)} {x y:Str} {px py pos:Pos} {k} {K:List (List Value)→(HP→Prop)→j0→HP→Prop} (hP:X3 hp a ts ps)
  (h:∀ need:HP→Prop,(∀ p',m0 hp p'→need p')→K (ps.map fun v=>[iv v.1,iv v.2]) need loc hp) :
  i3 C A (.Tuple [.Name x px,.Name y py] k pos) [x,y] (.ref a) loc hp K:=by
 have hts:∀ (p:HP),X3 p a ts ps→∀ (i:Nat) (T:Addr) (v:Value × Value),ts[i]?=some T→(ps.map fun v=>(iv v.1,iv v.2))[i]?=some v→p T=some (.tuple [v.1,v.2]):=fun p hP i T v e1 e2=>by
  rw [List.getElem?_map] at e2
  refine z0 (Option.map_eq_some_iff.mp e2) fun w hw hR0=>?_;subst hR0
  exact hP.2.2 i T w e1 hw
 have:=eJ (C:=C) (loc:=loc) (x:=x) (y:=y) (px:=px) (py:=py) (pos:=pos) (k:=k) (K:=K) hh (ps:=ps.map fun v=>(iv v.1,iv v.2)) hP.1 (by rw [List.length_map];exact hP.2.1) (hts hp hP)
  (by
   simp only [List.map_map]
   exact h _ fun p' hs=>⟨hs _ _ hP.1,by rw [List.length_map];exact hP.2.1,hts p' (hP.mono hs)⟩)
 exact this
theorem Q9 {value slice:Expr} {l:Addr} {i:Int} {ts:List Addr} {ps:List (Nat × Nat)} {Q:Value→j0→HP→Prop} (hs:∀ o j,subscripted slice false o j=operate [o,j] (getItem o j))
  (hP:X3 hp l ts ps) (h0:0≤i) (hi:i < ps.length) (hsz:ps.length≤100000) (h:∀ T,ts[i.toNat]?=some T→hp T=some (.tuple [iv (ps.getD i.toNat (0,0)).1,iv (ps.getD i.toNat (0,0)).2])→Q (.ref T) loc hp) :
  I1 C A g fr E (subscriptTail value slice) (.ref l) (.int i 0) loc hp Q:=by
 have hk:i.toNat < ts.length:=by rw [hP.2.1];exact j9 h0 hi
 have hk':i.toNat < ps.length:=by exact j9 h0 hi
 have e:ps.getD i.toNat (0,0)=ps[i.toNat]:=by rw [List.getD_eq_getElem?_getD,List.getElem?_eq_getElem hk'];rfl
 exact M5 hs hP.1 h0 (u2 hi hsz) (by simp only [List.getElem?_map,List.getElem?_eq_getElem hk];rfl) (h _ (List.getElem?_eq_getElem hk) (by rw [e];exact hP.2.2 _ _ _ (List.getElem?_eq_getElem hk) (List.getElem?_eq_getElem hk')))
theorem sub_int {value slice:Expr} {l:Addr} {i:Int} {ys:List Int} {Q:Value→j0→HP→Prop} (hs:∀ o j,subscripted slice false o j=operate [o,j] (getItem o j)) (hl:hp l=some (.list (ys.map iv))) (h0:0≤i) (hi:i < ys.length) (hsz:ys.length≤100000)
  (h:Q (iv (ys.getD i.toNat 0)) loc hp):I1 C A g fr E (subscriptTail value slice) (.ref l) (.int i 0) loc hp Q:=by
 have hk:i.toNat < ys.length:=by exact j9 h0 hi
 exact M5 hs hl h0 (u2 hi hsz) (by rw [List.getElem?_map,List.getElem?_eq_getElem hk];rfl) (by rw [List.getD_eq_getElem?_getD,List.getElem?_eq_getElem hk] at h;exact h)
theorem lY {a b:Int} {Q:Value→j0→HP→Prop} (h:Q (.bool (decide (a=b))) loc hp):I1 C A g fr E (compareOp .Eq) (.int a 0) (.int b 0) loc hp Q:=DC (by rw [show (a == b)=decide (a=b) from rfl];exact h)
theorem lS {a b:Int} {Q:Value→j0→HP→Prop} (h:Q (.bool (decide (a≠b))) loc hp):I1 C A g fr E (compareOp .NotEq) (.int a 0) (.int b 0) loc hp Q:=Dy (by
 have:(a != b)=decide (a≠b):=by by_cases e:a=b <;> simp [e]
 rw [this];exact h)
end
end
section
section
variable {α:Type} {C:Cx} {A:Around} {g:Heap} {fr:Fm} {E:Value→Shared→Prop} {loc:j0} {hp:HP} {sc:Scope} {ow:Str→Bool} {scope:Scope}
theorem DE {β:Type} {target elt c:Expr} {names:List Str} {x:Value} {Q:Value→j0→HP→Prop} (xs:List β) (m:β→List Value) (P:β→Bool) (F:β→AO)
  (h:i3 C A target names x loc hp fun vss need l p=>vss=xs.map m∧xs.length≤100000∧(∀ p',m0 p p'→need p')∧
   (∀ x∈xs,∀ g' fr' E' p',P0 fr' (I5 scope sc) (W5 scope)→m0 p p'→aw C A g' fr' E' (isTrue c fr'.env (eval c fr'.env)) (K0 names (m x) (J1 scope l)) p' fun b l' p''=>l'=K0 names (m x) (J1 scope l)∧p''=p'∧b=P x∧
    (P x=true→∀ g'' E'',w0 C A g'' fr' E'' (eval elt fr'.env) (K0 names (m x) (J1 scope l)) p' fun y l'' p''=>l''=K0 names (m x) (J1 scope l)∧∃ T,y=.ref T∧p' T=none∧m0 p' p''∧p'' T=some (F x)))∧
   ∀ D (ts:List Addr) p',ts.length=(xs.filter P).length→ts.Nodup→(∀ (k:Nat) (T:Addr) (x:β),ts[k]?=some T→(xs.filter P)[k]?=some x→p' T=some (F x))→(∀ T∈ts,p T=none)→m0 p p'→p' D=none→Q (.ref D) l (k0 p' D (.list (ts.map .ref)))) :
  r6 C A fr sc scope target elt [c] names x loc hp Q:=by
 refine bZ h fun need r₁ p₀ a hnd cc d zr0=>P1 zr0 fun h1 h0 h2 h3=>?_;try clear h
 refine ⟨_,need,r₁,p₀,a,hnd,cc,d,by rwa [List.length_map],fun i ys p=>m0 p₀ p∧i≤xs.length∧∃ ts:List Addr,ys=ts.map .ref∧ts.length=((xs.take i).filter P).length∧ts.Nodup∧(∀ T∈ts,p₀ T=none∧p T≠none)∧∀ (k:Nat) (T:Addr) (x:β),ts[k]?=some T→((xs.take i).filter P)[k]?=some x→p T=some (F x),
  ⟨m0.rfl,Nat.zero_le _,[],rfl,rfl,List.nodup_nil,(fun T h=>by cases h),fun k T x e=>by exact J0 e⟩,fun i ys p e=>h0 p e.1,?_,?_⟩
 ·intro i vs ys p g' fr' E' hv hZ0 hF;refine E9 hZ0 fun hs hi ts hR0 hl hnod I2 hts=>?_;clear hZ0;subst hR0
  rw [List.getElem?_map] at hv
  refine z0 (Option.map_eq_some_iff.mp hv) fun x hx hR0=>?_;subst hR0
  refine Z0 (h2 x (List.mem_of_getElem? hx) g' fr' E' p hF hs) fun b l' p' hZ0=>P1 hZ0 fun e1 e2 e3 e4=>?_
  subst e1;subst e2;subst e3
  intro g'' E''
  have htk:=take_succ_filter P xs i x hx
  cases hP:P x with
  | false=>
   rw [if_neg (by decide)]
   rw [hP] at htk
   simp only [Bool.false_eq_true,if_false,List.append_nil] at htk
   exact ⟨rfl,hs,(List.getElem?_eq_some_iff.mp hx).1,ts,rfl,by rw [htk];exact hl,hnod,I2,by rw [htk];exact hts⟩
  | true=>
   rw [if_pos rfl]
   rw [hP] at htk
   simp only [if_true] at htk
   refine Z0 (e4 hP g'' E'') fun y l'' p'' hZ0=>av hZ0 fun e1 T e2 e3 e4 e5=>⟨e1,hs.trans e4,(List.getElem?_eq_some_iff.mp hx).1,ts++[T],?_,by rw [htk];simp [hl],?_,?_,?_⟩
   ·rw [e2];simp
   ·refine List.nodup_append.mpr ⟨hnod,by simp,fun u hu v hv'=>?_⟩
    rcases List.mem_cons.mp hv' with rfl | h
    ·rintro rfl;exact (I2 u hu).2 e3
    ·cases h
   ·intro U hU
    rcases List.mem_append.mp hU with h | h
    ·refine ⟨(I2 U h).1,fun e=>(I2 U h).2 (e4.none e)⟩
    ·rcases List.mem_cons.mp h with rfl | h
     ·exact ⟨hs.none e3,by rw [e5];exact fun e=>nomatch e⟩
     ·cases h
   ·intro k U y' hk hw
    rw [htk] at hw
    rcases Nat.lt_or_ge k ts.length with q | q
    ·rw [List.getElem?_append_left q] at hk
     rw [List.getElem?_append_left (by exact q1 hl q)] at hw
     exact e4 _ _ (hts k U y' hk hw)
    ·rw [List.getElem?_append_right q] at hk
     rw [List.getElem?_append_right (by exact jr hl q)] at hw
     have hk0:k - ts.length=0:=by
      have:=(List.getElem?_eq_some_iff.mp hk).1
      simp at this;exact dO this
     rw [hk0] at hk
     rw [←hl,hk0] at hw
     cases hk;cases hw
     exact e5
 ·intro D ys p hZ0 hD;refine E9 hZ0 fun hs hi ts hR0 hl hnod I2 hts=>?_;clear hZ0;subst hR0
  rw [List.length_map,List.take_length] at hl hts
  exact h3 D ts p hl hnod hts (fun T h=>(I2 T h).1) hs hD
theorem mw {i:Int} {Q:Value→j0→HP→Prop} (h0:0≤i) (h1:i≤1000) (h:Q (.str ⟨#[i.toNat]⟩ 0) loc hp):M0 C A g fr E (.builtin "chr") [.int i 0] [] loc hp Q:=I3 fun v hv=>by
 refine o0 (S0 hv) fun t hR0=>?_;subst hR0
 exact fun s R S=>chr_of_range h0 (by exact yp h1) ⟨S,loc,hp,R,h⟩
theorem zA {x y:Str} {Q:Value→j0→HP→Prop} (hsz:x.length+y.length≤100000) (h:Q (.str (x++y) 0) loc hp):I1 C A g fr E (inplaceOp .Add) (.str x 0) (.str y 0) loc hp Q:=by
 intro a b ha hb;refine o0 (w4 ha) fun t hR0=>?_;subst hR0;refine o0 (w4 hb) fun u hR0=>?_;subst hR0
 exact fun s R S=>PyProof.Rows.iadd_str (fun t' tk=>⟨S,loc,hp,R,h⟩) (by rw [sizeLine_eq];exact yo hsz)
theorem Eg {x:Str} {Q:Value→j0→HP→Prop} (hsz:x.length≤1000000) (h:Q (.int x.length 0) loc hp):M0 C A g fr E (.builtin "len") [.str x 0] [] loc hp Q:=I3 fun v hv=>by
 refine o0 (w4 hv) fun t hR0=>?_;subst hR0
 exact fun s R S=>P.len_str (u6 (Nat.le_trans hsz (by decide))) ⟨S,loc,hp,R,h⟩
noncomputable def G3 (n:Int) (c:Nat):Str:=⟨(List.replicate n.toNat c).toArray⟩
theorem lg (c:Nat):∀ (k:Nat) (acc:Array Nat),(List.replicate k (#[c]:Array Nat)).foldl (·++·) acc=acc++(List.replicate k c).toArray
 | 0,acc=>by rfl
 | k+1,acc=>by
  simp only [List.replicate_succ,List.foldl_cons,lg c k,List.replicate_succ]
  apply Array.toList_inj.mp
  simp
theorem jF {c:Nat} {n:Int} {Q:Value→j0→HP→Prop} (hn:-100000≤n) (hn':n≤100000) (h:Q (.str (G3 n c) 0) loc hp):I1 C A g fr E (binaryOp .Mult) (.str ⟨#[c]⟩ 0) (.int n 0) loc hp Q:=by
 intro a b ha hb;refine o0 (w4 ha) fun t hR0=>?_;subst hR0;refine o0 (S0 hb) fun u hR0=>?_;subst hR0
 intro s R S
 have hl:(⟨#[c]⟩:Str).length=1:=rfl
 have fin:∀ v tk,nm v=.str (G3 n c) 0→(fun v s'=>H2 C s'∧∃ loc' hp',F0 C.H₀ g fr loc' hp' s'.heap∧Q (nm v) loc' hp') v {s with toks:=tk}:=fun v tk e=>⟨S,loc,hp,R,by rw [e];exact h⟩
 refine P.mul_str ?_ (fun h1 Z=>?_) (fun h1 Z=>?_) ?_
 ·rw [decide_eq_false (Int.not_lt.mpr (Int.le_trans (by decide) hn)),decide_eq_false (Int.not_le.mpr (Int.lt_of_le_of_lt hn' (by decide)))];rfl
 ·rw [hl]
  have h2:1≤(2 ^ 63 - 1) / n:=(Int.le_ediv_iff_mul_le (by exact yn h1)).mpr (by rw [Int.one_mul];exact Int.le_trans hn' (by decide))
  exact ym h2
 ·rw [hl]
  unfold Builtin.Str.tooLong
  simp only [decide_eq_false_iff_not]
  have:=sizeLine_eq
  exact yl this hn'
 ·split
  ·refine ⟨by decide,fin _ _ ?_⟩
   unfold G3
   rw [show n.toNat=0 by exact yk (by assumption)];rfl
  ·split
   ·rename_i h1 h2
    rw [hl] at h2
    have h3:n=1:=by simpa using h2
    refine fin _ s.toks ?_
    subst h3;rfl
   ·rename_i h1 h2
    have e:(⟨(List.replicate n.toNat (⟨#[c]⟩:Str).cps).foldl (·++·) #[]⟩:Str)=G3 n c:=by
     unfold G3
     rw [lg c n.toNat #[]]
     simp
    rw [e]
    refine ⟨?_,fin _ _ rfl⟩
    show (G3 n c).cps.size≤sizeLine
    unfold G3
    rw [sizeLine_eq]
    simp;exact yj hn'
end
end
section
noncomputable def af (levs:List Int) (i:Nat):List Int:=(O0 0 levs.length).filter fun v=>decide (v≠(i:Int)∧levs.getD v.toNat 0=levs.getD i 0)
noncomputable def X7 (ps:List (Nat × Nat)) (levs:List Int) (i:Nat):List Int:=(af levs i).filter fun v=>decide ((ps.getD v.toNat (0,0)).1 < (ps.getD i (0,0)).2∧(ps.getD i (0,0)).1 < (ps.getD v.toNat (0,0)).2)
theorem bX {β:Type} (P:β→Prop) [DecidablePred P] (f:β→Value) (l:List β):(l.filterMap fun x=>if P x then some (f x) else none)=(l.filter fun x=>decide (P x)).map f:=by
 induction l with
 | nil=>rfl
 | cons a l ih=>
  simp only [List.filterMap_cons,List.filter_cons]
  by_cases h:P a
  ·simp [h,ih]
  ·simp [h,ih]
theorem Ak {C:Cx} (W:G1 C) {A:Around} {g:Heap} {fr:Fm} {E:Value→Shared→Prop} {loc:j0} {hp:HP} {Q:Value→j0→HP→Prop} {sps lv:Addr} {sts:List Addr} {ps:List (Nat × Nat)} {levs:List Int} {i:Nat}
  (hroom:A.depth < recursionLimit) (hh:A.handled=none) (hP:X3 hp sps sts ps) (hl:hp lv=some (.list (levs.map iv))) (hi:i < levs.length) (hln:levs.length≤ps.length) (hsz:ps.length≤100)
  (h:∀ D p',m0 hp p'→p' D=some (.list ((X7 ps levs i).map iv))→Q (.ref D) loc p') :
  M0 C A g fr E (.ref 185) [iv i,.ref sps,.ref lv] [] loc hp Q:=G8 fun v u w hv hu hw=>by
 refine o0 (W.fMet) fun pm F=>?_
 have hlenG:=W.len
 have hrange:=W.range
 refine X4 F rfl rfl W.lim (by exact q5 hroom) (binds:=[("i",v),("spans",u),("levels",w)]) (fun s hk=>kp_binds E5 fun S=>by rfl) (by rfl) rfl rfl (by rfl) fun A' g' fr' E' hd hu' hh' hF=>?_
 rw [hh] at hh'
 dsimp only [X1]
 simp only [hv,hu,hw]
 clear F
 refine Y1 ?_
 repeat' walk_at "kl"
 refine Q9 (by intro _ _;with_unfolding_all rfl) hP (by exact q0) (by exact yi hln hi) (by exact q3 hsz) fun T hT hpT=>⟨T,_,_,rfl,hpT,?_⟩
 simp only [Int.toNat_natCast]
 repeat' walk_at "kl"
 refine E6 hl (by simp only [List.length_map,sizeLine_eq];exact jq hsz hln) ?_
 repeat' walk_at "kl"
 rw [List.length_map]
 refine k6 fun r hr=>j7 (O0 0 levs.length) (fun v=>[.int v 0]) (fun v=>if v≠(i:Int)∧levs.getD v.toNat 0=levs.getD i 0 then some (iv v) else none) (j5 hh' hr (by decide) (by exact bw hsz hln) ⟨rfl,by simp [O0];exact e9 hsz hln,?elt,?done⟩)
 case elt=>
  intro x hx g₃ fr₃ E₃ hF₃
  refine B0 (Y3.mp hx) fun hx1 hx2=>?_
  dsimp only [W0,K0]
  repeat' walk_at "kl"
  by_cases hne:x≠(i:Int)
  ·rw [if_pos (by simpa using hne)]
   repeat' walk_at "kl"
   refine sub_int (by intro _ _;with_unfolding_all rfl) hl (by exact Z9 hx1) (by exact jp hx2) (by exact e9 hsz hln) ?_
   repeat' walk_at "kl"
   refine sub_int (by intro _ _;with_unfolding_all rfl) hl (by exact q0) (by exact i9 hi) (by exact e9 hsz hln) ?_
   repeat' walk_at "kl"
   rw [Int.toNat_natCast]
   refine ⟨rfl,m0.rfl,?_⟩
   by_cases he:levs.getD x.toNat 0=levs.getD i 0
   ·rw [if_pos (by simpa using he)]
    intro g₄ E₄
    repeat' walk_at "kl"
    exact ⟨rfl,m0.rfl,if_pos ⟨hne,he⟩⟩
   ·rw [if_neg (by simpa using he)]
    exact if_neg fun h=>he h.2
  ·rw [if_neg (by simpa using hne)]
   refine ⟨rfl,m0.rfl,?_⟩
   rw [if_neg (by decide)]
   exact if_neg fun h=>hne h.1
 case done=>
  intro D hD
  simp only [bX (fun v:Int=>v≠(i:Int)∧levs.getD v.toNat 0=levs.getD i 0) iv]
  repeat' walk_at "kl"
  refine j7 (af levs i) (fun v=>[.int v 0]) (fun v=>if (ps.getD v.toNat (0,0)).1 < (ps.getD i (0,0)).2∧(ps.getD i (0,0)).1 < (ps.getD v.toNat (0,0)).2 then some (iv v) else none) (V6 hh' (s0 _ _ _) ⟨rfl,?len,?elt2,?done2⟩)
  case len=>
   have:=List.length_filter_le (fun v=>decide (v≠(i:Int)∧levs.getD v.toNat 0=levs.getD i 0)) (O0 0 levs.length)
   unfold af
   have h2:(O0 0 levs.length).length≤100:=by simp [O0];exact jo hsz hln
   exact e9 h2 this
  case elt2=>
   intro x hx g₃ fr₃ E₃ hF₃
   refine B0 (Y3.mp (List.mem_filter.mp hx).1) fun hx1 hx2=>?_
   have hP':=hP.mono (m0.set (o:=.list ((af levs i).map iv)) hD)
   dsimp only [W0,K0]
   repeat' walk_at "kl"
   refine Q9 (by intro _ _;with_unfolding_all rfl) hP' (by exact Z9 hx1) (by exact bv hln hx2) (by exact q3 hsz) fun T hT hpT=>?_
   repeat' walk_at "kl"
   by_cases h1:(ps.getD x.toNat (0,0)).1 < (ps.getD i (0,0)).2
   ·rw [if_pos (by simpa using h1)]
    repeat' walk_at "kl"
    refine Q9 (by intro _ _;with_unfolding_all rfl) hP' (by exact Z9 hx1) (by exact bv hln hx2) (by exact q3 hsz) fun T hT hpT=>?_
    repeat' walk_at "kl"
    refine ⟨rfl,m0.rfl,?_⟩
    by_cases h2:(ps.getD i (0,0)).1 < (ps.getD x.toNat (0,0)).2
    ·rw [if_pos (by simpa using h2)]
     intro g₄ E₄
     repeat' walk_at "kl"
     exact ⟨rfl,m0.rfl,if_pos ⟨h1,h2⟩⟩
    ·rw [if_neg (by simpa using h2)]
     exact if_neg fun h=>h2 h.2
   ·rw [if_neg (by simpa using h1)]
    refine ⟨rfl,m0.rfl,?_⟩
    rw [if_neg (by decide)]
    exact if_neg fun h=>h1 h.1
  case done2=>
   intro D2 hD2
   simp only [bX (fun v:Int=>(ps.getD v.toNat (0,0)).1 < (ps.getD i (0,0)).2∧(ps.getD i (0,0)).1 < (ps.getD v.toNat (0,0)).2) iv]
   repeat' walk_at "kl"
   exact h _ _ ((m0.set hD).trans (m0.set hD2)) (s0 _ _ _)
end
section
noncomputable def P3 (lines:List Int) (line:Int):List Int:=(O0 0 lines.length).filter fun v=>decide (lines.getD v.toNat 0=line)
noncomputable def D7 (ps:List (Nat × Nat)) (v:Int):Nat:=(ps.getD v.toNat (0,0)).1
noncomputable def K4 (ps:List (Nat × Nat)) (v:Int):Nat:=(ps.getD v.toNat (0,0)).2
noncomputable def B7 (ps:List (Nat × Nat)) (is:List Int) (a:Nat):Nat:=match is.find? fun v=>decide (D7 ps v≤a∧a < K4 ps v) with | some v=>97+v.toNat | none=>32
noncomputable def R7 (ps:List (Nat × Nat)) (is:List Int) (n:Nat):Str:=⟨((List.range n).map (B7 ps is)).toArray⟩
theorem oA {ps:List (Nat × Nat)} {is:List Int} {n:Nat}:R7 ps is (n+1)=R7 ps is n++⟨#[B7 ps is n]⟩:=by
 unfold R7
 simp only [List.range_succ,List.map_append]
 show _=Str.append _ _
 unfold Str.append
 congr 1
 apply Array.toList_inj.mp
 simp
theorem cR {ps:List (Nat × Nat)} {is:List Int} {n:Nat}:(R7 ps is n).length=n:=by
 unfold R7
 show Array.size _=n
 simp
theorem CF {ps:List (Nat × Nat)} {is:List Int} {a:Nat}:((is.filterMap fun v=>if (D7 ps v:Int)≤a∧(a:Int) < K4 ps v then some (Value.str ⟨#[97+v.toNat]⟩ 0) else none)++[.str ⟨#[32]⟩ 0])[0]?=some (.str ⟨#[B7 ps is a]⟩ 0):=by
 unfold B7
 induction is with
 | nil=>rfl
 | cons v r ih=>
  simp only [List.filterMap_cons,List.find?_cons]
  by_cases h:D7 ps v≤a∧a < K4 ps v
  ·rw [if_pos (by exact yh h),decide_eq_true h];rfl
  ·rw [if_neg (by exact yg h),decide_eq_false h];exact ih
theorem bS {C:Cx} {A:Around} {loc:j0} {hp:HP} (hh:A.handled=none) {β:Type} {xs:List β} {f1 f2:β→Value} {a:Addr} {ts:List Addr} {x y:Str} {px py pos:Pos} {k} {K:List (List Value)→(HP→Prop)→j0→HP→Prop} (ha:hp a=some (.list (ts.map .ref)))
  (hln:ts.length=xs.length) (hts:∀ (i:Nat) (T:Addr) (v:β),ts[i]?=some T→xs[i]?=some v→hp T=some (.tuple [f1 v,f2 v]))
  (h:∀ need:HP→Prop,(∀ p',m0 hp p'→need p')→K (xs.map fun v=>[f1 v,f2 v]) need loc hp) :
  i3 C A (.Tuple [.Name x px,.Name y py] k pos) [x,y] (.ref a) loc hp K:=by
 have hts':∀ (p:HP),m0 hp p→∀ (i:Nat) (T:Addr) (v:Value × Value),ts[i]?=some T→(xs.map fun v=>(f1 v,f2 v))[i]?=some v→p T=some (.tuple [v.1,v.2]):=fun p hs i T v e1 e2=>by
  rw [List.getElem?_map] at e2
  refine z0 (Option.map_eq_some_iff.mp e2) fun w hw hR0=>?_;subst hR0
  exact hs _ _ (hts i T w e1 hw)
 exact eJ (C:=C) (loc:=loc) (x:=x) (y:=y) (px:=px) (py:=py) (pos:=pos) (k:=k) (K:=K) hh (ps:=xs.map fun v=>(f1 v,f2 v)) ha (by rw [List.length_map];exact hln) (hts' hp m0.rfl)
  (by
   simp only [List.map_map]
   exact h _ fun p' hs=>⟨hs _ _ ha,by rw [List.length_map];exact hln,hts' p' hs⟩)
theorem Af {C:Cx} (W:G1 C) {A:Around} {g:Heap} {fr:Fm} {E:Value→Shared→Prop} {loc:j0} {hp:HP} {Q:Value→j0→HP→Prop} {sps ln:Addr} {sts:List Addr} {ps:List (Nat × Nat)} {lines:List Int} {line:Int}
  (hroom:A.depth < recursionLimit) (hh:A.handled=none) (hP:X3 hp sps sts ps) (hl:hp ln=some (.list (lines.map iv))) (hi:line∈lines) (hln:lines.length≤ps.length) (hsz:ps.length≤100) (hps:∀ v∈ps,v.2≤100)
  (h:∀ D p' (M:Nat),m0 hp p'→M∈(P3 lines line).map (K4 ps)→(∀ x∈P3 lines line,K4 ps x≤M)→p' D=some (.tuple [.str (R7 ps (P3 lines line) M) 0,iv M,iv (P3 lines line).length])→Q (.ref D) loc p') :
  M0 C A g fr E (.ref 190) [.ref sps,.ref ln,iv line] [] loc hp Q:=G8 fun v u w hv hu hw=>by
 refine o0 (W.fText) fun pm F=>?_
 have hlenG:=W.len
 have hrange:=W.range
 have hchr:=W.chr
 have hmax:=W.max
 refine X4 F rfl rfl W.lim (by exact q5 hroom) (binds:=[("spans",v),("lines",u),("line",w)]) (fun s hk=>kp_binds E5 fun S=>by rfl) (by rfl) rfl rfl (by rfl) fun A' g' fr' E' hd hu' hh' hF=>?_
 rw [hh] at hh'
 dsimp only [X1]
 simp only [hv,hu,hw]
 clear F
 refine Y1 ?_
 repeat' walk_at "kl"
 refine E6 hl (by simp only [List.length_map,sizeLine_eq];exact jq hsz hln) ?_
 repeat' walk_at "kl"
 rw [List.length_map]
 refine k6 fun r hr=>DE (O0 0 lines.length) (fun v=>[.int v 0]) (fun v=>decide (lines.getD v.toNat 0=line)) (fun v=>.tuple [.str ⟨#[97+v.toNat]⟩ 0,.ref (sts.getD v.toNat 0)]) (j5 hh' hr (by decide) (by exact bw hsz hln) ⟨rfl,by simp [O0];exact e9 hsz hln,fun Z Z=>trivial,?elt,?done⟩)
 case elt=>
  intro x hx g₃ fr₃ E₃ p₃ hF₃ hs₃
  refine B0 (Y3.mp hx) fun hx1 hx2=>?_
  have hl₃:=hs₃ _ _ hl
  have hP₃:=hP.mono hs₃
  dsimp only [W0,K0]
  repeat' walk_at "kl"
  refine sub_int (by intro _ _;with_unfolding_all rfl) hl₃ (by exact Z9 hx1) (by exact jp hx2) (by exact e9 hsz hln) ?_
  repeat' walk_at "kl"
  refine ⟨rfl,rfl,rfl,fun hPx g₄ E₄=>?_⟩
  repeat' walk_at "kl"
  refine mw (by exact yf hx1) (by exact ye hsz hln hx2) ?_
  repeat' walk_at "kl"
  refine Q9 (by intro _ _;with_unfolding_all rfl) hP₃ (by exact Z9 hx1) (by exact bv hln hx2) (by exact q3 hsz) fun T hT hpT=>?_
  repeat' walk_at "kl"
  refine ⟨by simp,fun a ha=>⟨rfl,a,rfl,ha,m0.set ha,?_⟩⟩
  rw [s0,show (97+x).toNat=97+x.toNat by exact yd hx1,List.getD_eq_getElem?_getD,hT];rfl
 case done=>
  intro D mts p₁ hml hmn hmt hm0 hs₁ hD
  have hP₁:=hP.mono (hs₁.trans (m0.set (o:=.list (mts.map .ref)) hD))
  have hD₁:=s0 p₁ D (.list (mts.map .ref))
  have hmt₁:∀ (k:Nat) (T:Addr) (x:Int),mts[k]?=some T→(P3 lines line)[k]?=some x→k0 p₁ D (.list (mts.map .ref)) T=some (.tuple [.str ⟨#[97+x.toNat]⟩ 0,.ref (sts.getD x.toNat 0)]):=fun k T x e1 e2=>E1 hD (hmt k T x e1 e2)
  have hsp:∀ x∈P3 lines line,∀ p',m0 (k0 p₁ D (.list (mts.map .ref))) p'→p' (sts.getD x.toNat 0)=some (.tuple [iv (D7 ps x),iv (K4 ps x)]):=fun x hx p' hs=>by
   refine B0 (Y3.mp (List.mem_filter.mp hx).1) fun hx1 hx2=>?_
   have hk:x.toNat < sts.length:=by rw [hP.2.1];exact dH hx1 hln hx2
   have hk':x.toNat < ps.length:=by exact dH hx1 hln hx2
   refine hs _ _ (hP₁.2.2 x.toNat _ (ps.getD x.toNat (0,0)) ?_ ?_)
   ·rw [List.getD_eq_getElem?_getD,List.getElem?_eq_getElem hk];rfl
   ·simp only [List.getElem?_eq_getElem hk',List.getD_eq_getElem?_getD,List.getElem?_eq_getElem hk'];rfl
  have hs₂:=hs₁.trans (m0.set (o:=.list (mts.map .ref)) hD)
  generalize k0 p₁ D (.list (mts.map .ref))=p₂ at hP₁ hD₁ hmt₁ hsp hs₂ ⊢
  have hml':mts.length=(P3 lines line).length:=hml
  have hlen9:(P3 lines line).length≤100:=by
   have:=List.length_filter_le (fun v=>decide (lines.getD v.toNat 0=line)) (O0 0 lines.length)
   have h2:(O0 0 lines.length).length≤100:=by simp [O0];exact jo hsz hln
   exact Nat.le_trans this h2
  repeat' walk_at "kl"
  refine W4 (P3 lines line) (fun x=>[.str ⟨#[97+x.toNat]⟩ 0,.ref (sts.getD x.toNat 0)]) (fun x=>iv (K4 ps x)) (bS hh' hD₁ hml' hmt₁ fun need hneed=>⟨rfl,by exact q3 hlen9,?elt2,?done2⟩)
  case elt2=>
   intro x hx g₃ fr₃ E₃ hF₃
   have hx₃:=hsp x hx _ m0.rfl
   dsimp only [W0,K0]
   repeat' walk_at "kl"
   exact ⟨rfl,m0.rfl,rfl⟩
  case done2=>
   intro D2 hD2
   repeat' walk_at "kl"
   refine cB (ns:=(P3 lines line).map fun x=>(K4 ps x:Int)) hh' (by simp only [s0,List.map_map];rfl) ?_ fun M hM hMx=>?_
   ·intro e
    have:=List.map_eq_nil_iff.mp e
    obtain ⟨k,hk,hk2⟩:=List.mem_iff_getElem.mp hi
    have h2:(k:Int)∈P3 lines line:=List.mem_filter.mpr ⟨Y3.mpr ⟨by exact q0,by exact i9 hk⟩,by
     simp only [Int.toNat_natCast,List.getD_eq_getElem?_getD,List.getElem?_eq_getElem hk];simpa using hk2⟩
    rw [this] at h2;cases h2
   refine z0 (List.mem_map.mp hM) fun xm hxm hxm'=>?_
   obtain ⟨m,rfl⟩:∃ m:Nat,M=m:=⟨K4 ps xm,hxm'.symm⟩
   have hm100:m≤100:=by
    refine B0 (Y3.mp (List.mem_filter.mp hxm).1) fun hx1 hx2=>?_
    have hk':xm.toNat < ps.length:=by exact dH hx1 hln hx2
    have:=hps _ (List.getElem_mem hk')
    have e:K4 ps xm=(ps[xm.toNat]).2:=by unfold K4;rw [List.getD_eq_getElem?_getD,List.getElem?_eq_getElem hk'];rfl
    exact yc this e hxm'
   repeat' walk_at "kl"
   have hs₃:=hs₂.trans (m0.set (o:=.list ((P3 lines line).map fun x=>iv (K4 ps x))) hD2)
   have hs₂₃:m0 p₂ (k0 p₂ D2 (.list ((P3 lines line).map fun x=>iv (K4 ps x)))):=m0.set hD2
   generalize k0 p₂ D2 (.list ((P3 lines line).map fun x=>iv (K4 ps x)))=p₃ at hs₃ hs₂₃ ⊢
   refine k6 fun r hr=>j5 hh' hr (by decide) (by exact bt hm100) ⟨fun n l p=>m0 p₂ p∧l "mine" = some (.ref D)∧l "text" = some (.str (R7 ps (P3 lines line) n) 0),⟨hs₂₃,?_,?_⟩,fun Z Z Z Z=>trivial,?turn,?fin⟩
   ·walk_at "loc"
   ·walk_at "loc"
   case turn=>
    intro n vs l p g₃ E₃ hvs hZ0;refine V1 hZ0 fun e1 e2 e3=>?_;clear hZ0
    refine B0 (U9 hvs) fun hn hR0=>?_;subst hR0
    rw [Int.zero_add] at hn ⊢
    dsimp only [W0,K0]
    repeat' walk_at "kl"
    refine j7 (P3 lines line) (fun x=>[.str ⟨#[97+x.toNat]⟩ 0,.ref (sts.getD x.toNat 0)]) (fun v=>if (D7 ps v:Int)≤n∧(n:Int) < K4 ps v then some (Value.str ⟨#[97+v.toNat]⟩ 0) else none)
     (bS hh' (e1 _ _ hD₁) hml' (fun k T x a b=>e1 _ _ (hmt₁ k T x a b)) fun need hneed=>⟨rfl,by exact q3 hlen9,?elt3,?done3⟩)
    case elt3=>
     intro x hx g₄ fr₄ E₄ hF₄
     have hx₃:=hsp x hx _ e1
     dsimp only [W0,K0]
     repeat' walk_at "kl"
     by_cases h1:(D7 ps x:Int)≤n
     ·rw [if_pos (by simpa using h1)]
      repeat' walk_at "kl"
      refine ⟨rfl,m0.rfl,?_⟩
      by_cases h2:(n:Int) < K4 ps x
      ·rw [if_pos (by simpa using h2)]
       intro g₅ E₅
       repeat' walk_at "kl"
       exact ⟨rfl,m0.rfl,if_pos ⟨h1,h2⟩⟩
      ·rw [if_neg (by simpa using h2)]
       exact if_neg fun h=>h2 h.2
     ·rw [if_neg (by simpa using h1)]
      refine ⟨rfl,m0.rfl,?_⟩
      rw [if_neg (by decide)]
      exact if_neg fun h=>h1 h.1
    case done3=>
     intro D3 hD3
     have hl3:((P3 lines line).filterMap fun v=>if (D7 ps v:Int)≤n∧(n:Int) < K4 ps v then some (Value.str ⟨#[97+v.toNat]⟩ 0) else none).length≤100:=Nat.le_trans (List.length_filterMap_le _ _) hlen9
     repeat' walk_at "kl"
     refine ⟨by decide,fun D4 hD4=>?_⟩
     refine ae (E1 hD4 (s0 _ _ _)) (s0 _ _ _) (by simp only [List.length_cons,List.length_nil];exact yb hl3) fun D5 hD5=>?_
     repeat' walk_at "kl"
     refine M5 (by intro _ _;with_unfolding_all rfl) (s0 _ _ _) (by decide) (by decide) CF ?_
     repeat' walk_at "kl"
     refine zA (by rw [cR];show n+1≤100000;exact ya hm100 hn) ?_
     repeat' walk_at "kl"
     refine ⟨e1.trans ((m0.set hD3).trans ((m0.set hD4).trans (m0.set hD5))),?_,?_⟩
     ·walk_at "loc"
     ·simp only [oA];walk_at "loc"
   case fin=>
    intro l p g₃ E₃ hZ0;refine V1 hZ0 fun e1 e2 e3=>?_;clear hZ0
    rw [T9] at e3
    rw [show (((m:Int) - 0).toNat)=m by exact xZ] at e3
    repeat' walk_at "kl"
    refine Eg (by rw [cR];exact xY hm100) ?_
    rw [cR]
    repeat' walk_at "kl"
    refine E6 (e1 _ _ hD₁) (by simp only [List.length_map,sizeLine_eq];exact xX hlen9 hml') ?_
    repeat' walk_at "kl"
    refine ⟨by simp,fun D6 hD6=>?_⟩
    repeat' walk_at "kl"
    rw [List.length_map,hml']
    refine h D6 _ m ((hs₂.trans e1).trans (m0.set hD6)) (List.mem_map.mpr ⟨xm,hxm,by exact bo hxm'⟩) (fun x hx=>?_) (s0 _ _ _)
    have:=hMx _ (List.mem_map.mpr ⟨x,hx,rfl⟩)
    exact dG this
end
section
noncomputable def K1 (k:Nat):Str:=if k < 10 then G9.getD k Str.empty else baseText "0x" 16 ((2:Int) ^ k)
theorem cE {i:Int} (h:i.natAbs < 16 ^ 64):(baseText "0x" 16 i).length≤100:=by
 have h1:=toDigits_len_pow (b:=16) (k:=64) (n:=i.natAbs) (by decide) (by decide) h
 unfold baseText
 rw [Str.length_append,Str.length_append]
 have h5:=ofString_ofList_length (Nat.toDigits 16 i.natAbs)
 have h3:(Str.ofString (if i < 0 then "-" else "")).length≤1:=by split <;> (rw [PyProof.Rows.ofString_len];decide)
 have h4:(Str.ofString "0x").length=2:=by rw [PyProof.Rows.ofString_len];decide
 exact xW h3 h4 h1 h5
theorem cO {k:Nat} (hk:k < 32):(K1 k).length≤100:=by
 unfold K1
 split
 ·rename_i h
  have:∀ j < 10,(G9.getD j Str.empty).length≤100:=by decide +kernel
  exact this k h
 ·refine cE ?_
  have:((2:Int) ^ k).natAbs=2 ^ k:=by rw [Int.natAbs_pow];rfl
  rw [this]
  calc 2 ^ k < 2 ^ 32:=Nat.pow_lt_pow_right (by decide) hk
   _≤16 ^ 64:=by decide
section
variable {C:Cx} {A:Around} {g:Heap} {fr:Fm} {E:Value→Shared→Prop} {loc:j0} {hp:HP}
theorem fo {i:Int} {Q:Value→j0→HP→Prop} (h1:i.natAbs < 2 ^ 60) (h:Q (.str (baseText "0x" 16 i) 0) loc hp):M0 C A g fr E (.builtin "hex") [.int i 0] [] loc hp Q:=I3 fun v hv=>by
 refine o0 (S0 hv) fun t hR0=>?_;subst hR0
 exact fun s R S=>P.hex_of_int ⟨S,loc,hp,R,h⟩ (by have:=cE (i:=i) (Nat.lt_of_lt_of_le h1 (by decide));rw [sizeLine_eq];exact dN this)
theorem ge:∀ {vs:List Value} {ys:List Str},vs.map nm=ys.map (fun y=>Value.str y 0)→StrsAre vs ys
 | [],[],_=>.nil
 | [],y::ys,h=>by cases h
 | v::vs,[],h=>by cases h
 | v::vs,y::ys,h=>by
  injection h with a b
  refine o0 (w4 a) fun t hR0=>?_;subst hR0
  exact .cons y t (ge b)
theorem jP {x:Str} {a:Addr} {ys:List Str} {Q:Value→j0→HP→Prop} (ha:hp a=some (.list (ys.map fun y=>.str y 0))) (hx:x.length≤10) (hl:ys.length≤1000) (hy:∀ y∈ys,y.length≤1000) (h:Q (.str (Txt.join x ys) 0) loc hp) :
  M0 C A g fr E (.builtin "str.join") [.str x 0,.ref a] [] loc hp Q:=N5 fun v u hv hu=>by
 refine o0 (w4 hv) fun t hR0=>?_;subst hR0
 have:=Q0 hu;subst this
 intro s R S
 refine V0 (R.list ha) fun vs n e q=>?_
 have hs:∀ l:List Str,(∀ y∈l,y.length≤1000)→(l.map (·.length)).sum≤l.length*1000:=by
  intro l
  induction l with
  | nil=>intro _;exact Nat.le_refl _
  | cons a l ih=>
   intro h
   have h1:=h a (.head _)
   have h2:=ih fun y hy=>h y (.tail _ hy)
   simp only [List.map_cons,List.sum_cons,List.length_cons]
   exact xV h1 h2
 have h1:=hs ys hy
 have h2:ys.length*x.length≤ys.length*10:=Nat.mul_le_mul_left _ hx
 exact join_list ⟨_,e,rfl,n,rfl⟩ (ge q) (by exact xU hl h1 h2) fun t' k=>⟨S,loc,hp,R,h⟩
end
theorem nv:(List.range 32).map (fun k=>Value.str (K1 k) 0)=(G9.map fun y=>Value.str y 0)++((O0 10 32).map fun k=>.str (baseText "0x" 16 (1*2 ^ k.toNat)) 0):=by
 have e:List.range 32=List.range 10++(O0 10 32).map Int.toNat:=by decide
 simp only [e,List.map_append,List.map_map]
 congr 1
theorem Aj {C:Cx} (W:G1 C) {A:Around} {g:Heap} {fr:Fm} {E:Value→Shared→Prop} {loc:j0} {hp:HP} {Q:Value→j0→HP→Prop}
  (hroom:A.depth < recursionLimit) (hh:A.handled=none)
  (h:∀ D p',m0 hp p'→hp D=none→p' D=some (.list ((List.range 32).map fun k=>.str (K1 k) 0))→Q (.ref D) loc p') :
  M0 C A g fr E (.ref 165) [] [] loc hp Q:=zG (by
 refine o0 (W.fNames) fun pm F=>?_
 have hrange:=W.range
 have hhex:=W.hex
 refine X4 F rfl rfl W.lim (by exact q5 hroom) (binds:=[]) (fun s hk=>kp_binds E5 fun S=>by rfl) (by rfl) rfl rfl (by rfl) fun A' g' fr' E' hd hu' hh' hF=>?_
 rw [hh] at hh'
 dsimp only [X1]
 clear F
 refine Y1 ?_
 repeat' walk_at "kl"
 refine ⟨by decide,fun a ha=>?_⟩
 repeat' walk_at "kl"
 refine ⟨by decide,fun b hb=>?_⟩
 repeat' walk_at "kl"
 refine ae (E1 hb (s0 _ _ _)) (s0 _ _ _) (by decide) fun c hc=>?_
 repeat' walk_at "kl"
 refine aB fun r hr=>W4 (O0 10 32) (fun v=>[.int v 0]) (fun v=>.str (baseText "0x" 16 (1*2 ^ v.toNat)) 0) (j5 hh' hr (by decide) (by decide) ⟨rfl,by decide,?elt,?done⟩)
 case elt=>
  intro x hx g₃ fr₃ E₃ hF₃
  refine B0 (Y3.mp hx) fun hx1 hx2=>?_
  dsimp only [W0,K0]
  repeat' walk_at "kl"
  refine bB (by exact xT hx1) (by exact xS hx2) (by decide) ?_
  repeat' walk_at "kl"
  refine fo ?_ ?_
  ·rw [Int.one_mul,Int.natAbs_pow]
   exact Nat.pow_lt_pow_right (by decide) (by exact xR hx2)
  ·repeat' walk_at "kl"
   exact ⟨rfl,m0.rfl,rfl⟩
 case done=>
  intro D hD
  refine ae (E1 hD (s0 _ _ _)) (s0 _ _ _) (by rw [List.length_map];decide) fun e he=>?_
  repeat' walk_at "kl"
  refine h e _ ((m0.set ha).trans ((m0.set hb).trans ((m0.set hc).trans ((m0.set hD).trans (m0.set he))))) (((m0.set ha).trans ((m0.set hb).trans ((m0.set hc).trans (m0.set hD)))).none he) ?_
  rw [s0,nv];rfl)
end
section
noncomputable def fl (x i:Nat):Nat:=x / 2 ^ i*2 ^ i
theorem lm {x:Nat}:fl x 0=x:=by simp [fl]
theorem tb {x i:Nat}:x.testBit i=decide (x / 2 ^ i % 2=1):=Nat.testBit_eq_decide_div_mod_eq
theorem CO {x i:Nat} (h:x.testBit i=true):fl x i=fl x (i+1)+2 ^ i:=by
 rw [tb] at h
 have h1:x / 2 ^ i % 2=1:=by simpa using h
 unfold fl
 have e:x / 2 ^ (i+1)=x / 2 ^ i / 2:=by simp only [Nat.pow_succ,Nat.div_div_eq_div_mul]
 rw [e,Nat.pow_succ]
 have h2:x / 2 ^ i=2*(x / 2 ^ i / 2)+1:=by exact xQ h1
 generalize x / 2 ^ i / 2=q at h2
 simp only [h2,Nat.add_mul,Nat.one_mul,Nat.mul_comm (2 ^ i) 2,←Nat.mul_assoc,Nat.mul_comm q 2]
theorem lq {x i:Nat} (h:x.testBit i=false):fl x i=fl x (i+1):=by
 rw [tb] at h
 have h1:x / 2 ^ i % 2=0:=by
  have:¬x / 2 ^ i % 2=1:=by simpa using h
  exact xP this
 unfold fl
 have e:x / 2 ^ (i+1)=x / 2 ^ i / 2:=by simp only [Nat.pow_succ,Nat.div_div_eq_div_mul]
 rw [e,Nat.pow_succ]
 have h2:x / 2 ^ i=2*(x / 2 ^ i / 2):=by exact xO h1
 generalize x / 2 ^ i / 2=q at h2
 simp only [h2,Nat.mul_comm (2 ^ i) 2,←Nat.mul_assoc,Nat.mul_comm q 2]
theorem CQ {x i:Nat}:(fl x i).testBit i=x.testBit i:=by
 simp only [tb,tb]
 unfold fl
 rw [Nat.mul_div_cancel _ (Nat.two_pow_pos i)]
theorem eS {x i:Nat}:Builtin.bitAnd (fl x i:Int) ((2:Int) ^ i)=if x.testBit i then (2:Int) ^ i else 0:=by
 have e:((2:Int) ^ i)=((2 ^ i:Nat):Int):=by push_cast;rfl
 have e2:fl x i &&& 2 ^ i=if x.testBit i then 2 ^ i else 0:=by
  apply Nat.eq_of_testBit_eq
  intro j
  simp only [Nat.testBit_and,Nat.testBit_two_pow]
  by_cases hj:i=j
  ·subst hj
   rw [CQ]
   cases h:x.testBit i
   ·simp
   ·simp [Nat.testBit_two_pow]
  ·cases h:x.testBit i
   ·simp [hj]
   ·simp [Nat.testBit_two_pow,hj]
 have h0:(0:Int)≤(2 ^ i:Nat):=Int.natCast_nonneg _
 simp only [e,bitAnd_pp (Int.natCast_nonneg _) h0,Int.toNat_natCast,Int.toNat_natCast,e2]
 cases x.testBit i <;> rfl
theorem CN {x i:Nat} (h:x.testBit i=true):Builtin.bitXor (fl x i:Int) ((2:Int) ^ i)=(fl x (i+1):Nat):=by
 unfold Builtin.bitXor
 rw [bitOr_and,eS,h,if_pos rfl,CO h]
 push_cast
 exact xN
theorem CP {x i j:Nat} (h:fl x i=0) (hj:i≤j):x.testBit j=false:=by
 have h0:x / 2 ^ i=0:=by
  unfold fl at h
  rcases Nat.mul_eq_zero.mp h with h | h
  ·exact h
  ·exact absurd h (Nat.ne_of_gt (Nat.two_pow_pos i))
 have h1:x < 2 ^ i:=by
  rcases Nat.lt_or_ge x (2 ^ i) with q | q
  ·exact q
  ·have:=Nat.div_pos q (Nat.two_pow_pos i);exact xM this h0
 exact Nat.testBit_lt_two_pow (Nat.lt_of_lt_of_le h1 (Nat.pow_le_pow_right (by decide) hj))
noncomputable def M4 (x n:Nat):List Nat:=(List.range n).filter fun k=>x.testBit k
noncomputable def w6 (x:Nat):List Str:=if x=0 then [baseText "0x" 16 0] else (M4 x 32).map K1
theorem fu {x n:Nat}:M4 x (n+1)=M4 x n++if x.testBit n then [n] else []:=by
 unfold M4
 simp only [List.range_succ,List.filter_append]
 congr 1
 rw [List.filter_cons]
 cases x.testBit n <;> rfl
theorem m0.hset {p q:HP} {a:Addr} {o:AO} (h:m0 p q) (ha:p a=Option.none):m0 p (Mine.k0 q a o):=fun b o' e=>by
 rw [H0 _ _ (by rintro rfl;rw [ha] at e;cases e)]
 exact h b o' e
theorem Em {x i n:Nat} (h:fl x i=0) (hi:i≤n):M4 x n=M4 x i:=by
 induction n with
 | zero=>rw [Nat.le_zero.mp hi]
 | succ n ih=>
  rcases Nat.lt_or_ge i (n+1) with q | q
  ·rw [fu,CP h (by exact bn q),ih (by exact bn q)];exact List.append_nil _
  ·rw [Nat.le_antisymm hi q]
theorem zQ {C:Cx} (W:G1 C) {A:Around} {g:Heap} {fr:Fm} {E:Value→Shared→Prop} {loc:j0} {hp:HP}:F8 C A g fr E "get" (.ref 58) loc hp (.builtin "dict.get"):=by
 obtain ⟨f,⟨o,es,ep,ho,hx,hd,hk,hf⟩,_⟩:=W.flagsM
 intro v pl hv s R S
 have:=Q0 hv;subst this
 have ho':=R.keep _ _ (R.base _ _ ho)
 exact getMethod_builtin ⟨o,ho',hx.1⟩ F.plainAttrs_dict F.slot_dict_get F.type_dict_get (fun b eb=>by cases eb;exact ⟨_,ho',hx.2.1⟩) ⟨S,loc,hp,R,rfl,rfl,rfl⟩
theorem Ei {C:Cx} (W:G1 C) {A:Around} {g:Heap} {fr:Fm} {E:Value→Shared→Prop} {loc:j0} {hp:HP} {i:Nat} {Q:Value→j0→HP→Prop} (hi:i < 32) (h:Q (.str (K1 i) 0) loc hp) :
  M0 C A g fr E (.builtin "dict.get") [.ref 58,.int (2 ^ i) 0,.str (baseText "0x" 16 (2 ^ i)) 0] [] loc hp Q:=G8 fun v u w hv hu hw=>by
 obtain ⟨f,⟨o,es,ep,ho,hx,hd,hk,hf⟩,hfl⟩:=W.flagsM
 have:=Q0 hv;subst this
 refine o0 (S0 hu) fun t hR0=>?_;subst hR0
 intro s R S
 have ho':=R.keep _ _ (R.base _ _ ho)
 have hm:s.heap.MapOf (intKind C.prog C.w) 58 f:=⟨o,es,ep,ho',hx,hd,hk,hf⟩
 have hkey:(intKind C.prog C.w).is ((2:Int) ^ i) (.int (2 ^ i) t)=true:=by exact if_pos rfl
 refine call_meetsIn PySem.F.slot_dict_get ⟨o,ho',hx.1⟩ PySem.F.entry_dict_get (PySem.F.args_dict_get_3 _ _ _) (meets_dict_get_default (intKind C.prog C.w) 58 hkey (by decide) w) ⟨_,hm,S,loc,hp,R,?_⟩
 have e:nm ((f ((2:Int) ^ i)).getD w)=.str (K1 i) 0:=by
  have:=hfl i hi
  unfold K1
  split at this
  ·rename_i h10
   rw [if_pos h10]
   refine z0 (Option.map_eq_some_iff.mp this) fun v hv e=>?_
   rw [hv];exact e
  ·rename_i h10
   rw [if_neg h10,Option.map_eq_none_iff.mp this]
   exact hw
 show Q (nm ((f ((2:Int) ^ i)).getD w)) loc hp
 rw [e];exact h
theorem jy {C:Cx} (W:G1 C) {A:Around} {g:Heap} {fr:Fm} {E:Value→Shared→Prop} {loc:j0} {hp:HP} {Q:Value→j0→HP→Prop} {x:Nat}
  (hroom:A.depth < recursionLimit) (hh:A.handled=none) (hx:x < 2 ^ 32)
  (h:∀ p',m0 hp p'→Q (.str (Txt.join ", " (w6 x)) 0) loc p') :
  M0 C A g fr E (.ref 65) [iv x] [] loc hp Q:=I3 fun v hv=>by
 refine o0 (W.fPretty) fun pm F=>?_
 have hrange:=W.range
 have hhex:=W.hex
 have hfl:=W.gFlags
 refine X4 F rfl rfl W.lim (by exact q5 hroom) (binds:=[("flags",v)]) (fun s hk=>kp_binds E5 fun S=>by rfl) (by rfl) rfl rfl (by rfl) fun A' g' fr' E' hd hu' hh' hF=>?_
 rw [hh] at hh'
 dsimp only [X1]
 rw [hv]
 clear F
 refine Y1 ?_
 repeat' walk_at "kl"
 refine ⟨by decide,fun N hN=>?_⟩
 repeat' walk_at "kl"
 have join:∀ (p:HP) (l:j0) (ys:List Str) (g₂:Heap) (E₂:Value→Shared→Prop),ys=w6 x→m0 hp p→p N=some (.list (ys.map fun y=>.str y 0))→M0 C A' g₂ fr' E₂ (.builtin "str.join") [.str ", " 0,.ref N] [] l p fun v l p=>Q (aN (.ret v)) loc p:=by
  rintro p l ys g₂ E₂ rfl hs hpN
  refine jP hpN (by decide) ?_ ?_ (h p hs)
  ·unfold w6
   split
   ·decide
   ·rw [List.length_map]
    have:=List.length_filter_le (fun k=>x.testBit k) (List.range 32)
    simp only [List.length_range] at this
    exact Nat.le_trans this (by decide)
  ·intro y hy
   unfold w6 at hy
   split at hy
   ·rw [List.mem_singleton] at hy
    subst hy
    exact Nat.le_trans (cE (by decide)) (by decide)
   ·refine z0 (List.mem_map.mp hy) fun k hk hR0=>?_;subst hR0
    exact Nat.le_trans (cO (List.mem_range.mp (List.mem_filter.mp hk).1)) (by decide)
 refine k6 fun r hr=>j5 hh' hr (by decide) (by decide) ⟨fun i l p=>l "names" = some (.ref N)∧l "flags" = some (iv (fl x i))∧m0 hp p∧p N=some (.list (((M4 x i).map K1).map fun y=>.str y 0))∧(x≠0→fl x i≠0),⟨?_,?_,m0.set hN,s0 _ _ _,fun h=>by rwa [lm]⟩,fun Z Z Z Z=>trivial,?turn,?fin⟩
 ·walk_at "loc"
 ·rw [lm];walk_at "loc"
 case fin=>
  intro l p g₂ E₂ hZ0;refine F9 hZ0 fun e1 e2 e3 e4 e5=>?_;clear hZ0
  rw [T9,show ((32:Int) - 0).toNat=32 from rfl] at e2 e4 e5
  have f32:fl x 32=0:=by unfold fl;rw [Nat.div_eq_of_lt hx,Nat.zero_mul]
  have hx0:x=0:=by
   by_cases q:x=0
   ·exact q
   ·exact absurd f32 (e5 q)
  have e2':l "flags" = some (iv 0):=by rw [e2,f32];rfl
  have eb:M4 x 32=[]:=by rw [hx0];decide
  have e4':p N=some (.list []):=by rw [e4,eb];rfl
  clear e2 e4 e5 f32 eb
  repeat' walk_at "kl"
  refine ⟨_,B6 F.slot_list_append F.type_list_append e4',?_⟩
  repeat' walk_at "kl"
  refine fo (by decide) ?_
  repeat' walk_at "kl"
  refine ⟨S4,ag e4' (by decide) ⟨rfl,?_⟩⟩
  repeat' walk_at "kl"
  refine ⟨_,bH F.slot_str_join F.type_str_join,?_⟩
  repeat' walk_at "kl"
  exact ⟨S4,join _ _ [baseText "0x" 16 0] _ _ (by unfold w6;rw [if_pos hx0]) (e3.hset hN) (s0 _ _ _)⟩
 case turn=>
  intro i vs l p g₂ E₂ hvs hZ0;refine F9 hZ0 fun e1 e2 e3 e4 e5=>?_;clear hZ0
  refine B0 (U9 hvs) fun hi32 hR0=>?_;subst hR0
  rw [Int.zero_add] at hi32 ⊢
  have hi:i < 32:=by exact jn hi32
  dsimp only [W0,K0]
  repeat' walk_at "kl"
  refine bB (by exact q0) (by exact xL hi32) (by decide) ?_
  simp only [Int.one_mul,Int.toNat_natCast]
  repeat' walk_at "kl"
  cases hb:x.testBit i with
  | false=>
   have ea:=eS (x:=x) (i:=i)
   rw [hb,if_neg (by decide)] at ea
   rw [ea,if_neg (by decide)]
   repeat' walk_at "kl"
   refine ⟨?_,?_,e3,?_,fun h=>?_⟩
   ·walk_at "loc"
   ·rw [←lq hb];walk_at "loc"
   ·rw [fu,hb];simpa using e4
   ·rw [←lq hb];exact e5 h
  | true=>
   have h2:((2:Int) ^ i)≠0:=by
    have:((2:Int) ^ i)=((2 ^ i:Nat):Int):=by push_cast;rfl
    rw [this]
    have:=Nat.two_pow_pos i
    exact xK this
   have ea:=eS (x:=x) (i:=i)
   rw [hb,if_pos rfl] at ea
   rw [ea,if_pos (by simpa using h2)]
   repeat' walk_at "kl"
   have hlen:(((M4 x i).map K1).map fun y=>Value.str y 0).length≤100:=by
    rw [List.length_map,List.length_map]
    have:=List.length_filter_le (fun k=>x.testBit k) (List.range i)
    simp only [List.length_range] at this
    unfold M4
    exact xJ this hi32
   refine ⟨_,B6 F.slot_list_append F.type_list_append e4,?_⟩
   repeat' walk_at "kl"
   refine ⟨_,zQ W,?_⟩
   repeat' walk_at "kl"
   refine fo ?_ ?_
   ·rw [Int.natAbs_pow]
    exact Nat.pow_lt_pow_right (by decide) (by exact xI hi32)
   repeat' walk_at "kl"
   refine ⟨S4,Ei W hi ?_⟩
   repeat' walk_at "kl"
   refine ⟨S4,ag e4 (by exact q3 hlen) ⟨rfl,?_⟩⟩
   have e6:((M4 x i).map K1).map (fun y=>Value.str y 0)++[.str (K1 i) 0]=((M4 x (i+1)).map K1).map fun y=>Value.str y 0:=by
    rw [fu,hb,if_pos rfl];simp
   simp only [e6]
   repeat' walk_at "kl"
   rw [CN hb]
   repeat' walk_at "kl"
   by_cases hz:fl x (i+1)=0
   ·rw [if_pos (by simpa using hz)]
    repeat' walk_at "kl"
    refine ⟨_,bH F.slot_str_join F.type_str_join,?_⟩
    repeat' walk_at "kl"
    refine ⟨S4,join _ _ ((M4 x (i+1)).map K1) _ _ ?_ (e3.hset hN) (s0 _ _ _)⟩
    unfold w6
    rw [if_neg (by rintro rfl;rw [Nat.zero_testBit] at hb;cases hb),Em (n:=32) hz (by exact jn hi32)]
   ·rw [if_neg (by simpa using hz)]
    repeat' walk_at "kl"
    refine ⟨?_,?_,e3.hset hN,s0 _ _ _,fun Z=>hz⟩
    ·walk_at "loc"
    ·walk_at "loc"
end
section
noncomputable def G6 (hh:Int) (t:Tok) (v:Value) (ep:Nat):Obj:={cls:=.type "dict",data:=.dict #[⟨hh,.str "_initial_size" t,v⟩] ep}
structure H4 (K:Frag):Prop where
 ga:findIn K (.ref 151) "__getattribute__" = some (some (.builtin "list.__getattribute__"))
 gattr:findIn K (.ref 151) "__getattr__" = some none
 push:findIn K (.ref 151) "push" = some (some (.ref 96))
 popf:findIn K (.ref 151) "pop_from" = some (some (.ref 104))
 len:findIn K (.ref 151) "__len__" = some (some (.ref 118))
 str:findIn K (.ref 151) "__str__" = some (some (.ref 125))
 pcount:findIn K (.ref 151) "part_count" = some (some (.ref 148))
 init:findIn K (.ref 151) "__init__" = some (some (.ref 89))
 append:findIn K (.ref 151) "append" = some (some (.builtin "list.append"))
 getitem:findIn K (.ref 151) "__getitem__" = some (some (.builtin "list.__getitem__"))
 setitem:findIn K (.ref 151) "__setitem__" = some (some (.builtin "list.__setitem__"))
 iter:findIn K (.ref 151) "__iter__" = some (some (.builtin "list.__iter__"))
 tf:∀ f∈([89,96,104,118,125,148]:List Addr),typeIn K (.ref f)=some (.type "function")
 sub:mroIn K 151 (.type "list")=some true
 deque:mroIn K 151 (.type "collections.deque")=some false
 size:∀ hh t v ep,findObj K 151 (some (G6 hh t v ep)) "_initial_size" = some (.value v)
noncomputable def S5 (i:Int):AO:=.sat fun o=>∃ hh t u ep,o=G6 hh t (.int i u) ep
structure K6 (C:Cx):Prop where
 K:∃ K:Frag,K.In C.H₀∧H4 K
 fPush:∃ pm,j4 C 96 (U0 (W3 1) "_Accumulator.push" .none .none (.ref 95) pm [] .none)
 fPop:∃ pm,j4 C 104 (U0 (W3 2) "_Accumulator.pop_from" (.ref 97) .none (.ref 103) pm [] .none)
 dPop:∃ t n,C.H₀.get? 97=some ⟨.type "tuple",none,.seq #[.int 0 t] n,#[]⟩
 fLen:∃ pm,j4 C 118 (U0 (W3 4) "_Accumulator.__len__" .none .none (.ref 117) pm [] .none)
 fStr:∃ pm,j4 C 125 (U0 (W3 5) "_Accumulator.__str__" .none .none (.ref 124) pm [] .none)
noncomputable def Y2 (p:HP) (x:Addr) (i:Int) (xs:List Value):Prop:=∃ d,p x=some (.acc 151 d xs)∧p d=some (S5 i)
theorem Y2.mono {p p':HP} {x:Addr} {i:Int} {xs:List Value} (h:Y2 p x i xs) (hs:m0 p p'):Y2 p' x i xs:=let ⟨d,a,b⟩:=h;⟨d,hs _ _ a,hs _ _ b⟩
section
variable {α:Type} {C:Cx} {A:Around} {g:Heap} {fr:Fm} {E:Value→Shared→Prop} {loc:j0} {hp:HP} {x:Addr} {i:Int} {xs:List Value}
theorem F0.acc {H₀ h:Heap} (R:F0 H₀ g fr loc hp h) (hx:Y2 hp x i xs):∃ d hh t u ep vs n,h.get? x=some {cls:=.ref 151,dict:=some d,data:=.seq vs n}∧vs.toList.map nm=xs∧h.get? d=some (G6 hh t (.int i u) ep)∧
  InstAt h x {cls:=.ref 151,dict:=some d,data:=.seq vs n} 151 (some (G6 hh t (.int i u) ep))∧hp x=some (.acc 151 d xs)∧hp d=some (S5 i):=by
 refine z0 hx fun d h1 h2=>?_;try clear hx
 refine ck (R.at_ x _ h1) fun vs n Z Z Z ho e=>?_
 refine Dh (R.at_ d _ h2) fun hh t u ep Z Z Z ho'=>?_
 exact ⟨d,hh,t,u,ep,vs,n,ho,e,ho',⟨ho,rfl,rfl,ho'⟩,h1,h2⟩
theorem F0.K {h:Heap} (R:F0 C.H₀ g fr loc hp h) {K:Frag} (X:K.In C.H₀):K.In h:=X.keeps fun b o e=>R.keep b o (R.base b o e)
theorem CW:entryFor table "list.__getattribute__" = some Builtin.«object.__getattribute__»:=
 entryFor_alias (id':="object.__getattribute__") (by kernel_rfl) (by rfl) (by decide +kernel) (by kernel_rfl)
theorem mr:(Manifest.canonical "list.__getattribute__" != "object.__getattribute__")=false:=by decide +kernel
theorem em {K:Frag} (X:K.In C.H₀) (AK:H4 K) (hx:Y2 hp x i xs) {name:Str} {f:Addr} (hf:findIn K (.ref 151) name=some (some (.ref f))) (ht:f∈([89,96,104,118,125,148]:List Addr))
  (hs:∀ hh t v ep,shadowIn (some (G6 hh t v ep)) name=some false):F8 C A g fr E name (.ref x) loc hp (.ref f):=by
 intro v pl hv s R S
 have:=Q0 hv;subst this
 refine V4 (R.acc hx) fun d hh t u ep vs n zr0=>w5 zr0 fun e1 e2 e3 I h1 h2=>?_
 have XX:=R.K X
 have hcan:=mr
 delta getMethod specialOf
 refine wpAny_bind (wpAny_bind (I.type.here ((looks_findIn XX AK.ga).here ?_)))
 dsimp only
 rw [hcan,if_neg (by decide)]
 refine wpAny_bind (wpAny_bind (I.type.here ((looks_findIn XX AK.gattr).here ?_)))
 refine wpAny_bind (wpAny_bind (I.type.here ((looks_findIn XX hf).here (wpAny_bind ((looks_typeIn XX (AK.tf f ht)).here ?_)))))
 rw [if_neg (by decide +kernel)]
 refine wpAny_bind (wpAny_loadPart I.at_ ?_)
 refine z0 (Option.map_eq_some_iff.mp (hs hh t (.int i u) ep)) fun r a b=>?_
 refine wpAny_bind (wpAny_bind (wpAny_loadPart e3 ?_))
 simp only [nsLook_of a]
 refine wpAny_pure ?_
 rw [b]
 exact wpAny_bind (wpAny_rule (wpAny_pure ⟨S,loc,hp,R,rfl,rfl,rfl⟩))
theorem zR {K:Frag} (X:K.In C.H₀) (AK:H4 K) (hx:Y2 hp x i xs) {name:Str} {id:String} (hf:findIn K (.ref 151) name=some (some (.builtin id))) (hty:typeOf (.builtin id)=pure (.type "method_descriptor"))
  (hs:∀ hh t v ep,shadowIn (some (G6 hh t v ep)) name=some false):F8 C A g fr E name (.ref x) loc hp (.builtin id):=by
 intro v pl hv s R S
 have:=Q0 hv;subst this
 refine V4 (R.acc hx) fun d hh t u ep vs n zr0=>w5 zr0 fun e1 e2 e3 I h1 h2=>?_
 have XX:=R.K X
 have hcan:=mr
 delta getMethod specialOf
 refine wpAny_bind (wpAny_bind (I.type.here ((looks_findIn XX AK.ga).here ?_)))
 dsimp only
 rw [hcan,if_neg (by decide)]
 refine wpAny_bind (wpAny_bind (I.type.here ((looks_findIn XX AK.gattr).here ?_)))
 refine wpAny_bind (wpAny_bind (I.type.here ((looks_findIn XX hf).here (wpAny_bind ?_))))
 refine wpAny_of_eq hty ?_
 rw [if_neg (by decide +kernel)]
 refine wpAny_bind (wpAny_loadPart I.at_ ?_)
 refine z0 (Option.map_eq_some_iff.mp (hs hh t (.int i u) ep)) fun r a b=>?_
 refine wpAny_bind (wpAny_bind (wpAny_loadPart e3 ?_))
 simp only [nsLook_of a]
 refine wpAny_pure ?_
 rw [b]
 exact wpAny_bind (wpAny_rule (wpAny_pure ⟨S,loc,hp,R,rfl,rfl,rfl⟩))
theorem DV {M:Model} {s:Shared} {id owner n:String} {self:Value} {rest:List Value} {kw:List (Str × Value)} {Q:Unit→Shared→Prop}
  (hk:builtinKind id=some .slot∨builtinKind id=some .method) (hs:splitId id=some (owner,n)) (hi:Looks M s.heap (isInstance self (.type owner)) true) (ha:argsOk id ⟨self::rest,kw⟩) (q:Q () s) :
  wpAny M A (checkBuiltinCall id ⟨self::rest,kw⟩) Q E s:=by
 rcases hk with hk | hk
 ·exact check_slot hk hs hi ha q
 ·simp only [checkBuiltinCall,hk,hs]
  refine wpAny_bind (hi.here ?_)
  simp only [Bool.not_true,Bool.false_eq_true,if_false]
  cases hsig:Manifest.signature? id with
  | none=>exact wpAny_pure q
  | some sig=>
   simp only [argsOk,hsig] at ha
   have h2:Bind.checkArgs id sig ⟨self::rest,kw⟩=pure ():=ha
   show wpAny M A (Bind.checkArgs id sig ⟨self::rest,kw⟩) Q E s
   rw [h2];exact wpAny_pure q
theorem FJ {M:Model} {K:Frag} {h:Heap} {ox:Obj} {od:Option Obj} (X:K.In h) (AK:H4 K) (I:InstAt h x ox 151 od):Looks M h (isInstance (.ref x) (.type "list")) true:=by
 unfold isInstance
 exact I.type.andThen (looks_mroIn X AK.sub)
theorem aC {K:Frag} {s:Shared} {ox:Obj} {od:Option Obj} {id n:String} {b:Builtin} {rest:List Value} {Q:Value→Shared→Prop} (X:K.In s.heap) (AK:H4 K) (I:InstAt s.heap x ox 151 od)
  (hp:plainId id=true) (hb:entryFor table id=some b) (hk:builtinKind id=some .slot∨builtinKind id=some .method) (hs:splitId id=some ("list",n)) (ha:argsOk id ⟨.ref x::rest,[]⟩)
  (h:wpAny (model C.prog C.w) A.in1 (b ⟨.ref x::rest,[]⟩) (fun fin s'=>∃ v,fin=.done (.ret v)∧Q v s') E s) :
  wpAny (model C.prog C.w) A (call (.builtin id) (.ref x::rest)) Q E s:=by
 refine wpAny_call (codeAny_call_builtin hp hb (DV hk hs (FJ X AK I) ha (wpAny_mono h (fun fin s' hf=>?_) fun Z Z e=>e)))
 refine z0 hf fun v hR0 q=>?_;try clear hf;subst hR0
 exact q
theorem FH {K:Frag} {s:Shared} {ox:Obj} {od:Option Obj} {v:Value} {name:Str} {expr:Bool} {Q:Value→Shared→Prop} (X:K.In s.heap) (AK:H4 K) (I:InstAt s.heap x ox 151 od)
  (hf:findObj K 151 od name=some (.value v)) (hh:handedIn v=true) (h:Q v {s with toks:=s.toks+1}):wpAny (model C.prog C.w) A (getAttr (.ref x) name expr) Q E s:=by
 obtain ⟨h0,g0,d0,t0,os0⟩:=s
 have T:=I.type (M:=model C.prog C.w)
 have G:=looks_findIn (M:=model C.prog C.w) X AK.ga
 have G2:=looks_findIn (M:=model C.prog C.w) X AK.gattr
 have V:=looks_find (M:=model C.prog C.w) X I hf
 delta getAttr getAttrBy
 refine wpAny_bind (wpAny_mkText (wpAny_holding (wpAny_bind (T.at (wpAny_bind (G.at ?_))))))
 show wpAny _ _ (getAttrByItsOwn (.ref x) (.str name t0) (.ref 151) (.builtin "list.__getattribute__") true expr) _ _ _
 delta getAttrByItsOwn hookBefore callGetattribute boundAndCalled
 refine wpAny_bind ?_
 show wpAny _ _ (typeLookup (.ref 151) "__getattr__") _ _ _
 refine G2.at ?_
 refine wpAny_bind (wpAny_attempt (wpAny_holding ?_))
 rw [show (expr && onTheHeap (.builtin "list.__getattribute__"))=false from by cases expr <;> rfl,if_neg Bool.false_ne_true]
 refine wpAny_bind (wpAny_of_eq (F.slot_list_getattribute.bind _) ?_)
 refine wpAny_mono (Q:=fun v' s'=>v'=v∧s'=⟨h0,g0,d0,t0+1,os0⟩) (E:=fun Z Z=>False)
  (aC (n:="__getattribute__") X AK I F.slot_list_getattribute.plain CW (.inl (by decide +kernel)) (by kernel_rfl) (F.args_list_getattribute_2 _ _) ?_) (fun v' s' hv=>?_) fun Z Z z=>z.elim
 ·unfold Builtin.«object.__getattribute__»
  refine wpAny_bind (wpAny_pure ?_)
  refine wpAny_bind (wpAny_pure ?_)
  refine wpAny_bind (T.at (wpAny_bind (V.at (wpAny_pure ⟨v,rfl,rfl,rfl⟩))))
 ·refine B0 hv fun hR0 hR1=>?_;try clear hv;subst hR0;subst hR1
  show wpAny _ _ (handedOut v') _ _ _
  rw [handedOut_of hh]
  exact wpAny_pure h
theorem Y2.upd {H₀ h:Heap} {f:Array Value→Array Value} {ys:List Value} {d:Addr} (R:F0 H₀ g fr loc hp h) (hx:hp x=some (.acc 151 d xs)) (hf:∀ vs:Array Value,vs.toList.map nm=xs→(f vs).toList.map nm=ys) :
  F0 H₀ g fr loc (k0 hp x (.acc 151 d ys)) (h.update x (Obj.mapSeq f)):=by
 refine ck (R.at_ x _ hx) fun vs n Z Z Z ho e=>?_
 refine R.chg hx (Heap.SameBut.update ..).extBut (Heap.get?_update_self _ ho rfl) (ao':=.acc 151 d ys) ⟨f vs,if (f vs).size == vs.size then n else n+1,?_,hf vs e⟩
 simp only [Obj.mapSeq]
theorem zW {K:Frag} (X:K.In C.H₀) (AK:H4 K) (hx:Y2 hp x i xs) (hsz:xs.length≤100000) {y:Value} {Q:Value→j0→HP→Prop} (h:∀ p',Y2 p' x i (xs++[y])→(∀ b,b≠x→p' b=hp b)→Q .none loc p') :
  M0 C A g fr E (.builtin "list.append") [.ref x,y] [] loc hp Q:=N5 fun v u hv hu=>by
 have:=Q0 hv;subst this
 subst hu
 intro s R S
 refine V4 (R.acc hx) fun d hh t w ep vs n zr0=>w5 zr0 fun e1 e2 e3 I h1 h2=>?_
 have hz:=M2 e2
 have hxd:d≠x:=by rintro rfl;rw [h1] at h2;exact R3 h2
 refine aC (n:="append") (R.K X) AK I slot_list_append.plain entry_list_append (.inr (by decide +kernel)) (by kernel_rfl) (args_list_append _ _) ?_
 show wpAny _ _ (updateSeq x (·.push u) >>= fun Z=>ret .none) _ _ s
 refine wpAny_bind (wpAny_updateSeq e1 rfl (wpAny_pure ⟨.none,rfl,S,loc,_,Y2.upd (ys:=xs++[nm u]) R h1 (fun ws hw=>by simp only [Array.toList_push,List.map_append,hw];rfl),h _ ⟨d,s0 ..,by rw [H0 _ _ hxd];exact h2⟩ fun b hb=>H0 _ _ hb⟩) (by rw [sizeLine_eq];exact B8 hsz hz) (by rw [sizeLine_eq];simp;exact B8 hsz hz))
end
end
section
section
variable {α:Type} {C:Cx} {A:Around} {g:Heap} {fr:Fm} {E:Value→Shared→Prop} {loc:j0} {hp:HP} {x:Addr} {i:Int} {xs:List Value}
theorem mZ {M:Model} {K:Frag} {h:Heap} {ox:Obj} {od:Option Obj} (X:K.In h) (hs:mroIn K 151 (.type "collections.deque")=some false) (I:InstAt h x ox 151 od) (k:Value) (name:Str):Looks M h (sequenceKey (.ref x) k name) k:=by
 unfold sequenceKey
 refine I.type.andThen ?_
 intro A Q E s kk q
 show wpAny M A (seqItemTypes.anyM (fun n=>isSubtype (.ref 151) (.type n)) >>= _) Q E s
 refine wpAny_bind ?_
 unfold seqItemTypes
 show wpAny M A (List.anyM _ _) _ E s
 dsimp -iota only [List.anyM]
 refine wpAny_bind (looks_mroIn X hs A _ E s kk ?_)
 exact wpAny_pure (wpAny_pure q)
theorem Cu {K:Frag} {s:Shared} {sl:Addr} {vs:Array Value} {n:Nat} {d:Addr} {od:Option Obj} {vl vu:Value} {lo hi:Option Int} {Q:Value→Shared→Prop} (X:K.In s.heap) (AK:H4 K)
  (I:InstAt s.heap x {cls:=.ref 151,dict:=some d,data:=.seq vs n} 151 od) (hs:s.heap.IsSliceOf sl vl vu .none) (pl:IsPart vl lo) (pu:IsPart vu hi) (hsz:vs.size≤sizeLine)
  (h:Q (.ref s.heap.objs.size) {s with heap:=s.heap.push {cls:=.type "list",data:=.seq (slicePick vs lo hi none)}}):wpAny (model C.prog C.w) A (getItem (.ref x) (.ref sl)) Q E s:=by
 refine J2 (id hs) fun os hos hcs hds=>?_
 have hTs:s.TypeIs (.ref sl) "slice":=⟨os,hos,hcs⟩
 have ho:=I.at_
 unfold getItem
 refine wpAny_holding (wpAny_bind ((mZ X AK.deque I _ _).here ?_))
 refine wpAny_bind ?_
 unfold callSpecial? specialOf
 refine wpAny_bind (wpAny_bind (I.type.here ((looks_findIn X AK.getitem).here ?_)))
 dsimp only
 simp -iota only [slot_list_getitem.bind]
 refine wpAny_holding (wpAny_bind (wpAny_pure (wpAny_bind (aC (n:="__getitem__") X AK I slot_list_getitem.plain entry_list_getitem (.inr (by decide +kernel)) (by kernel_rfl) (args_list_getitem _ _) ?_))))
 show wpAny _ _ (Builtin.List.listSubscript? (.ref sl) >>= _) _ _ s
 refine wpAny_bind ?_
 unfold Builtin.List.listSubscript?
 refine wpAny_bind (wpAny_specialOf hTs slice_no_index ?_)
 simp -iota only [Option.isNone_none,if_true]
 refine wpAny_pure ?_
 show wpAny _ _ (typeOf (.ref sl) >>= _) _ _ s
 refine wpAny_bind (wpAny_typeOf hTs ?_)
 rw [if_neg (by decide)]
 rw [listSliceParts_eq]
 refine wpAny_bind (wpAny_bind (wpAny_field hos hds (x:=.none) rfl (wpAny_bind (wpAny_listPart .none ?_))))
 rw [if_neg (by exact Bool.false_ne_true)]
 refine wpAny_bind (wpAny_field hos hds (x:=vl) rfl (wpAny_bind (wpAny_listPart pl ?_)))
 refine wpAny_bind (wpAny_field hos hds (x:=vu) rfl (wpAny_bind (wpAny_listPart pu (wpAny_pure ?_))))
 refine wpAny_bind (m:=Builtin.List.listItems (.ref x)) ?_
 unfold Builtin.List.listItems
 refine wpAny_bind (wpAny_seqItems ho rfl (wpAny_pure ?_))
 refine wpAny_bind (wpAny_of_eq (sliceIndices_raw lo hi none vs.size (by decide)) ?_)
 refine wpAny_bind (wpAny_newObj_type (wpAny_pure ⟨_,rfl,wpAny_pure (wpAny_pure h)⟩) (Nat.le_trans (slicePick_size_le vs lo hi none) hsz))
theorem EY {K:Frag} (X:K.In C.H₀) (AK:H4 K) {value:Expr} {lower upper:Option Expr} {p₁ pos:Pos} {Q:Value→j0→HP→Prop} (ht:∀ o r,letTemporaryGo value o r=pure ())
  (h:w0 C A g fr E (eval value fr.env) loc hp fun y l p=>t5 C A g fr E lower l p fun lo l p=>t5 C A g fr E upper l p fun hi l p=>∃ x i xs,y=.ref x∧Y2 p x i xs∧xs.length≤100000∧
   ∀ c,p c=none→Q (.ref c) l (k0 p c (.list (W2 xs lo hi)))) :
  w0 C A g fr E (eval (.Subscript value (.Slice lower upper none p₁) pos) fr.env) loc hp Q:=fun s R S=>by
 rw [eval_Subscript]
 refine wpAny_bind (wpAny_mono (h s R S) (fun o s₁ hZ0=>Q3 hZ0 fun S₁ l₁ p₁ R₁ h₁=>wpAny_bind (wpAny_holding (wpAny_Slice (wpAny_mono (I7 h₁ s₁ R₁ S₁) (fun vl s₂ hZ0=>G7 hZ0 fun S₂ l₂ p₂ R₂ lo hlo h₂=>
  wpAny_mono (I7 h₂ s₂ R₂ S₂) (fun vu s₃ hZ0=>ch hZ0 fun S₃ l₃ p₃ R₃ hi hhi x zr0=>lF zr0 fun i xs e hx hsz hQ=>?_) fun Z Z e=>e) fun Z Z e=>e)))) fun Z Z e=>e)
 rw [evalPart_none]
 refine wpAny_pure (wpAny_bind (wpAny_standAt ?_))
 have:=Q0 e;subst this
 have R₄:=R₃.alloc (ao:=.sat fun Z=>True) (o:={cls:=.type "slice",data:=.fields #[vl,vu,.none]}) rfl trivial
 have hx₄:Y2 (k0 p₃ s₃.heap.objs.size (.sat fun Z=>True)) x i xs:=hx.mono (m0.set R₃.none_at)
 refine V4 (R₄.acc hx₄) fun d hh t u ep vs n zr0=>w5 zr0 fun e1 e2 e3 I h1 h2=>?_
 have hz:=M2 e2
 have XX:=R₄.K X
 show wpAny _ A (getitemInPython (.ref x) >>= _) _ _ _
 delta getitemInPython specialOf
 refine wpAny_bind (wpAny_bind (wpAny_bind (I.type.here ((looks_findIn XX AK.getitem).here (wpAny_pure ?_)))))
 refine wpAny_bind (wpAny_operating (Cu XX AK I (Heap.IsSliceOf.new ..) hlo hhi (by rw [sizeLine_eq];exact B8 hsz hz) ?_))
 refine wpAny_bind (wpAny_of_eq (ht _ _) (wpAny_pure ?_))
 have R₅:=R₄.alloc (ao:=.list (W2 xs lo hi)) (o:={cls:=.type "list",data:=.seq (slicePick vs lo hi none)}) rfl ⟨_,_,rfl,by
  rw [slicePick_plain,hz,List.map_take,List.map_drop,e2];rfl⟩
 refine ⟨S₃,l₃,k0 p₃ (s₃.heap.objs.size+1) (.list (W2 xs lo hi)),?_,?_⟩
 ·refine R₅.forget (fun Z Z e=>e) fun b o eb=>?_
  rw [Heap.size_push]
  unfold k0 at eb ⊢
  by_cases hb:b=s₃.heap.objs.size+1
  ·rwa [if_pos hb] at eb ⊢
  ·rw [if_neg hb] at eb ⊢
   rw [if_neg (by rintro rfl;rw [R₃.none_at] at eb;cases eb)]
   exact eb
 ·have:=hQ (s₃.heap.objs.size+1) (by
   cases q:p₃ (s₃.heap.objs.size+1) with
   | none=>rfl
   | some o=>exact absurd (R₃.lt_of_hp q) (Nat.not_lt.mpr (Nat.le_succ _)))
  show Q (nm (.ref (s₃.heap.push _).objs.size)) _ _
  rw [Heap.size_push]
  exact this
end
end
section
section
variable {α:Type} {C:Cx} {A:Around} {g:Heap} {fr:Fm} {E:Value→Shared→Prop} {loc:j0} {hp:HP} {x:Addr} {i:Int} {xs:List Value}
theorem fN {M:Model} {s:Shared} {a:Addr} {o:Obj} {items:Array Value} {n:Nat} {Q:Array Value→Shared→Prop} (ho:s.heap.get? a=some o) (hd:o.data=.seq items n) (h:Q items s):wpAny M A (Builtin.List.listItems (.ref a)) Q E s:=by
 unfold Builtin.List.listItems
 exact wpAny_bind (wpAny_seqItems ho hd (wpAny_pure h))
theorem Ct {K:Frag} {s:Shared} {sl v:Addr} {vs ws:Array Value} {n n':Nat} {d:Addr} {od:Option Obj} {vl vu:Value} {k:Nat} {Q:Unit→Shared→Prop} (X:K.In s.heap) (AK:H4 K)
  (I:InstAt s.heap x {cls:=.ref 151,dict:=some d,data:=.seq vs n} 151 od) (hs:s.heap.IsSliceOf sl vl vu .none) (pl:IsPart vl (some (k:Int))) (pu:IsPart vu none) (hk:k≤vs.size) (hxv:x≠v)
  (hv:s.heap.get? v=some {cls:=.type "list",data:=.seq ws n'}) (hsz:vs.size+ws.size≤100000)
  (h:Q () {s with heap:=s.heap.update x (Obj.mapSeq fun xs=>xs.extract 0 k++ws++xs.extract vs.size xs.size)}):wpAny (model C.prog C.w) A (setItem (.ref x) (.ref sl) (.ref v)) Q E s:=by
 refine J2 (id hs) fun os hos hcs hds=>?_
 have hTs:s.TypeIs (.ref sl) "slice":=⟨os,hos,hcs⟩
 have hTv:s.TypeIs (.ref v) "list":=⟨_,hv,rfl⟩
 have ho:=I.at_
 unfold setItem
 refine wpAny_holding (wpAny_bind ((mZ X AK.deque I _ _).here ?_))
 refine wpAny_bind ?_
 unfold callSpecial? specialOf
 refine wpAny_bind (wpAny_bind (I.type.here ((looks_findIn X AK.setitem).here ?_)))
 dsimp only
 simp only [F.slot_list_setitem.bind]
 refine wpAny_holding (wpAny_bind (wpAny_pure (wpAny_bind (aC (n:="__setitem__") X AK I F.slot_list_setitem.plain F.entry_list_setitem (.inl (by decide +kernel)) (by kernel_rfl) (F.args_list_setitem_3 _ _ _) ?_))))
 show wpAny _ _ (Builtin.List.listSubscript? (.ref sl) >>= _) _ _ s
 refine wpAny_bind ?_
 unfold Builtin.List.listSubscript?
 refine wpAny_bind (wpAny_specialOf hTs slice_no_index ?_)
 simp -iota only [Option.isNone_none,if_true]
 refine wpAny_pure ?_
 show wpAny _ _ (typeOf (.ref sl) >>= _) _ _ s
 refine wpAny_bind (wpAny_typeOf hTs ?_)
 rw [if_neg (by decide)]
 rw [listSliceParts_eq]
 refine wpAny_bind (wpAny_bind (wpAny_field hos hds (x:=.none) rfl (wpAny_bind (wpAny_listPart .none ?_))))
 rw [if_neg (by exact Bool.false_ne_true)]
 refine wpAny_bind (wpAny_field hos hds (x:=vl) rfl (wpAny_bind (wpAny_listPart pl ?_)))
 refine wpAny_bind (wpAny_field hos hds (x:=vu) rfl (wpAny_bind (wpAny_listPart pu (wpAny_pure ?_))))
 have hsame:Builtin.List.listSameRef (.ref x) (.ref v)=false:=by
  unfold Builtin.List.listSameRef
  simpa using hxv
 dsimp only
 rw [if_neg (by rw [hsame];exact Bool.false_ne_true)]
 refine wpAny_bind (m:=Builtin.List.listAllItems (.ref v) _) ?_
 unfold Builtin.List.listAllItems
 refine wpAny_bind (wpAny_typeOf hTv ?_)
 rw [if_pos (by decide)]
 refine fN hv rfl ?_
 refine wpAny_bind (fN ho rfl ?_)
 refine wpAny_bind (wpAny_of_eq (sliceIndices_raw (some (k:Int)) none none vs.size (by decide)) ?_)
 have hb:sliceBounds (some (k:Int)) none none vs.size=((k:Int),(vs.size:Int),1):=by
  rw [sliceBounds_plain]
  simp only [Option.elim,clipAt_nat]
  rw [Nat.min_eq_left hk]
 rw [hb]
 dsimp only
 rw [if_pos (by decide)]
 refine wpAny_bind (wpAny_rule ?_)
 have htl:Builtin.List.listTooLong (vs.size+ws.size)=false:=by
  unfold Builtin.List.listTooLong
  rw [decide_eq_false (by rw [sizeLine_eq];exact xH hsz)]
 simp only [htl]
 have e1:(max (k:Int) (vs.size:Int)).toNat=vs.size:=by exact xG hk
 rw [Int.toNat_natCast,e1,if_neg Bool.false_ne_true]
 refine wpAny_bind ?_
 show wpAny _ _ (updateSeq x _) _ _ _
 refine wpAny_updateSeq ho rfl ?_ (by rw [sizeLine_eq];exact xF hsz) (by rw [sizeLine_eq];simp;exact xE hsz)
 exact wpAny_bind (wpAny_letGo (wpAny_bind (wpAny_pure (wpAny_pure ⟨_,rfl,wpAny_pure (wpAny_pure h)⟩))))
end
end
section
section
variable {α:Type} {C:Cx} {A:Around} {g:Heap} {fr:Fm} {E:Value→Shared→Prop} {loc:j0} {hp:HP} {x:Addr} {i:Int} {xs:List Value}
theorem Ez {K:Frag} (X:K.In C.H₀) (AK:H4 K) {sl a d:Addr} {ys:List Value} {k:Nat} {Q:Unit→j0→HP→Prop}
  (hx1:hp x=some (.acc 151 d xs)) (hx2:hp d=some (S5 i)) (ha:hp a=some (.list ys)) (hk:k≤xs.length) (hsz:xs.length+ys.length≤100000) (hsl:hp sl=some (.sat fun o=>∃ t,o.cls=.type "slice"∧o.data=.fields #[.int k t,.none,.none]))
  (h:Q () loc (k0 hp x (.acc 151 d (xs.take k++ys)))):aw C A g fr E (setItem (.ref x) (.ref sl) (.ref a)) loc hp Q:=fun s R S=>by
 refine V4 (R.acc ⟨d,hx1,hx2⟩) fun d' hh t u ep vs n zr0=>w5 zr0 fun e1 e2 e3 I h1 h2=>?_
 rw [hx1] at h1;cases h1
 refine V0 (R.list ha) fun ws n' e q=>?_
 refine Di (R.at_ sl _ hsl) fun Z Z Z os hos t' hc hd=>?_
 have hz1:=M2 e2
 have hz2:=M2 q
 refine Ct (R.K X) AK I ⟨os,hos,hc,hd⟩ (.int k t') .none (by exact bl hk hz1) (by rintro rfl;rw [hx1] at ha;exact R3 ha) e (by exact xD hz1 hz2 hsz) ⟨S,loc,_,Y2.upd (ys:=xs.take k++ys) R hx1 (fun us hus=>?_),h⟩
 have hz3:=M2 hus
 have e4:us.extract vs.size us.size=#[]:=by
  apply Array.eq_empty_of_size_eq_zero
  simp;exact xC hz3 hz1
 rw [e4]
 subst hus
 simp [List.map_take,q]
theorem Fq {K:Frag} (X:K.In C.H₀) (AK:H4 K) {o e value:Expr} {p₁ p₂ pos:Pos} {Q:Flow→j0→HP→Prop}
  (hs:swapsWith value (some (.Subscript o (.Slice (some e) none none p₁) p₂)) pos.line fr.env=pure false)
  (h:w0 C A g fr E (eval value fr.env) loc hp fun v l p=>w0 C A g fr E (eval o fr.env) l p fun y l p=>w0 C A g fr E (eval e fr.env) l p fun lo l p=>
   ∃ x d i xs k ys a,v=.ref a∧y=.ref x∧lo=.int ((k:Nat):Int) 0∧p a=some (.list ys)∧p x=some (.acc 151 d xs)∧p d=some (S5 i)∧k≤xs.length∧xs.length+ys.length≤100000∧Q .next l (k0 p x (.acc 151 d (xs.take k++ys)))) :
  I0 C A g fr E (exec (.Assign [.Subscript o (.Slice (some e) none none p₁) p₂] value pos) fr.env) loc hp Q:=by
 refine N3 (exec_Assign_Subscript _ _ _ _ _ hs) (E0 (U2 (E0 (Z0 h fun v l p h₁=>E0 ?_))))
 show aw C A g fr E (do
  let ov ←holding [v] (eval o fr.env)
  let iv ←holding [v,ov] (eval (.Slice (some e) none none p₁) fr.env)
  standAt p₂
  holding [v,ov,iv] (setItem ov iv v)
  release [iv,v,ov] []) l p _
 refine E0 (N2 (Z0 h₁ fun ov l p h₂=>E0 (N2 ?_)))
 intro s R S
 refine wpAny_Slice (wpAny_mono (h₂ s R S) (fun lv s₁ hZ0=>Da hZ0 fun S₁ l₁ p₁' R₁ x d i zr0=>D9 zr0 fun xs k ys a e1 e2 e3 zr1=>w5 zr1 fun ha hx1 hx2 hk hsz hQ=>?_) fun Z Z e=>e)
 rw [evalPart_none]
 refine wpAny_pure (wpAny_pure ?_)
 have:=Q0 e1;subst this
 have:=Q0 e2;subst this
 refine o0 (S0 e3) fun t hR0=>?_;subst hR0
 have R₂:=R₁.alloc (ao:=.sat fun o=>∃ t,o.cls=.type "slice"∧o.data=.fields #[.int k t,.none,.none]) (o:={cls:=.type "slice",data:=.fields #[.int (k:Int) t,.none,.none]}) rfl ⟨t,rfl,rfl⟩
 have n0:=R₁.none_at
 refine ⟨S₁,l₁,_,R₂,?_⟩
 generalize s₁.heap.objs.size=sl at R₂ n0 ⊢
 refine E0 (U2 (E0 (N2 (Ez X AK (E1 n0 hx1) (E1 n0 hx2) (E1 n0 ha) hk hsz (s0 ..) (mK ?_)))))
 refine EO (hp₁:=k0 p₁' x (.acc 151 d (xs.take k++ys))) (fun b ao eb=>?_) (N1 (a:=Flow.next) hQ)
 unfold k0 at eb ⊢
 by_cases hb:b=x
 ·rwa [if_pos hb] at eb ⊢
 ·rw [if_neg hb] at eb ⊢
  rw [if_neg (by rintro rfl;rw [n0] at eb;cases eb)]
  exact eb
end
end
section
theorem cX {xs:List Value} {k:Nat} (hk:k≤xs.length):W2 xs (some (k:Int)) none=xs.drop k:=by
 unfold W2
 simp only [Option.elim,clipAt_nat]
 rw [Nat.min_eq_left hk,List.take_of_length_le (by simp)]
theorem kY {h:Heap} {a:Addr} {o:Obj} (e:h.get? a=some o):Frag.In [(a,o)] h:=by
 intro x y q
 simp -iota only [List.lookup_cons] at q
 by_cases h1:x=a
 ·subst h1;simp at q;subst q;exact e
 ·have:(x == a)=false:=by simpa using h1
  rw [this] at q;exact J0 q
section
variable {C:Cx} {A:Around} {g:Heap} {fr:Fm} {E:Value→Shared→Prop} {loc:j0} {hp:HP} {x:Addr} {i:Int} {xs:List Value}
theorem zg (W:G1 C) (AW:K6 C) {a b:Value} {Q:Value→j0→HP→Prop} (hroom:A.depth < recursionLimit) (hx:Y2 hp x i xs) (hsz:xs.length≤1000)
  (h:∀ T p',hp T=none→p' T=some (.tuple [a,b])→Y2 p' x i (xs++[.ref T])→(∀ b o,b≠x→hp b=some o→p' b=some o)→Q .none loc p') :
  M0 C A g fr E (.ref 96) [.ref x,a,b] [] loc hp Q:=G8 fun v u w hv hu hw=>by
 refine z0 (AW.K) fun K X AK=>?_
 refine o0 (AW.fPush) fun pm F=>?_
 refine X4 F rfl rfl W.lim hroom (binds:=[("self",v),("fws",u),("string",w)]) (fun s hk=>kp_binds E5 fun S=>by rfl) (by rfl) rfl rfl (by rfl) fun A' g' fr' E' hd hu' hh' hF=>?_
 dsimp only [X1]
 simp only [hv,hu,hw]
 clear F
 refine Y1 ?_
 repeat' walk_at "kl"
 refine ⟨_,zR X AK hx AK.append F.type_list_append (fun Z Z Z Z=>by rfl),?_⟩
 repeat' walk_at "kl"
 refine ⟨by simp,fun T hT=>?_⟩
 repeat' walk_at "kl"
 have hx':=hx.mono (m0.set (o:=.tuple [a,b]) hT)
 refine ⟨S4,zW X AK hx' (by exact q9 hsz) fun p' h1 h2=>⟨rfl,?_⟩⟩
 repeat' walk_at "kl"
 have hTx:T≠x:=by rintro rfl;refine z0 hx fun d e Z=>?_;try clear hx;rw [hT] at e;exact J0 e
 refine h T p' hT ?_ h1 fun b o hb e=>?_
 ·simp only [h2 T hTx,s0]
 ·rw [h2 b hb];exact E1 hT e
theorem zh (W:G1 C) (AW:K6 C) {k:Nat} {Q:Value→j0→HP→Prop} (hroom:A.depth < recursionLimit) (hx:Y2 hp x i xs) (hsz:xs.length≤1000) (hk:k≤xs.length)
  (h:∀ c p',hp c=none→p' c=some (.list (xs.drop k))→Y2 p' x i (xs.take k)→(∀ b o,b≠x→hp b=some o→p' b=some o)→Q (.ref c) loc p') :
  M0 C A g fr E (.ref 104) [.ref x,iv k] [] loc hp Q:=N5 fun v u hv hu=>by
 refine z0 (AW.K) fun K X AK=>?_
 refine o0 (AW.fPop) fun pm F=>?_
 refine i8 (AW.dPop) fun t n e97=>?_
 refine X4 F rfl rfl W.lim hroom (binds:=[("self",v),("i",u)]) (fun s hk=>kp_binds (kY (hk _ _ e97)) fun S=>by rfl) (by rfl) rfl rfl (by rfl) fun A' g' fr' E' hd hu' hh' hF=>?_
 dsimp only [X1]
 rw [hv,hu]
 clear F
 refine Y1 ?_
 refine fB (by with_unfolding_all rfl) (by walk_at "sto") ?_
 refine EY X AK (by intro _ _;rfl) ?_
 repeat' walk_at "kl"
 refine ⟨x,i,xs,rfl,hx,by exact q9 hsz,fun c hc=>?_⟩
 simp only [cX hk]
 have hx':=hx.mono (m0.set (o:=.list (xs.drop k)) hc)
 refine Y1 ?_
 refine Fq X AK (by with_unfolding_all rfl) ?_
 repeat' walk_at "kl"
 refine ⟨by decide,fun a ha=>?_⟩
 repeat' walk_at "kl"
 refine z0 hx' fun d h1 h2=>?_;try clear hx'
 refine ⟨x,d,i,xs,k,[],a,rfl,rfl,rfl,s0 _ _ _,E1 ha h1,E1 ha h2,hk,by simp;exact q9 hsz,?_⟩
 repeat' walk_at "kl"
 have hax:a≠x:=by rintro rfl;rw [h1] at ha;exact B5 ha
 have hcx:c≠x:=by rintro rfl;refine z0 hx fun d e Z=>?_;try clear hx;rw [hc] at e;exact J0 e
 have hca:c≠a:=by rintro rfl;rw [s0] at ha;exact B5 ha
 have hda:d≠x:=by rintro rfl;rw [h1] at h2;exact R3 h2
 refine h c _ hc ?_ ⟨d,by rw [s0,List.append_nil],by rw [H0 _ _ hda];exact E1 ha h2⟩ fun b o hb e=>?_
 ·rw [H0 _ _ hcx,H0 _ _ hca,s0]
 ·rw [H0 _ _ hb]
  exact E1 ha (E1 hc e)
end
end
section
section
variable {prog:Program} {w:World} {A:Around} {E:Value→Shared→Prop} {s:Shared}
noncomputable def L7 (h:Heap) (x:Addr) (items:Array Value):Prop:=∃ o n,h.get? x=some o∧o.data=.seq items n
theorem zc {it l:Addr} {i:Nat} {items:Array Value} {x:Value} {Q:Option Value→Shared→Prop} (hit:s.heap.IsListIter it l i)
  (hl:L7 s.heap l items) (hx:items[i]?=some x)
  (hQ:∀ h',h'.IsListIter it l (i+1)→Heap.SameBut it s.heap h'→Q (some x) {s with heap:=h'}) :
  wpAny (model prog w) A (pyNext (.ref it)) Q E s:=by
 refine J2 (id hit) fun o ho hc hd=>?_
 refine V0 hl fun ol nl hol hdl=>?_;try clear hl
 unfold pyNext
 refine wpAny_bind (wpAny_attempt (wpAny_callSpecial?_slot (name:=Str.ofString "__next__") hit.typeIs slot_listiter_next
  (wpAny_call_entry slot_listiter_next hit.typeIs entry_listiter_next ?_ (args_listiter_next _))))
 show wpAny _ _ (field (.ref it) 0 >>= _) _ _ s
 refine wpAny_bind (wpAny_field ho hd (x:=.ref l) rfl ?_)
 show wpAny _ _ (if (Value.ref l == Value.none)=true then _ else _) _ _ s
 rw [if_neg (show ¬((Value.ref l == Value.none)=true) from Bool.false_ne_true)]
 show wpAny _ _ (field (.ref it) 1 >>= _) _ _ s
 refine wpAny_bind (wpAny_field ho hd (x:=.int i 0) rfl ?_)
 show wpAny _ _ (seqItems? (.ref l) >>= _) _ _ s
 refine wpAny_bind (wpAny_seqItems hol hdl ?_)
 simp only [Int.toNat_natCast,hx]
 refine wpAny_bind (wpAny_setField ho hd (by exact Nat.le_refl _) (wpAny_pure ⟨x,rfl,wpAny_pure (hQ _ ?_ (Heap.SameBut.update ..))⟩))
 exact ⟨_,Heap.get?_update_self _ ho (Obj.isFreed_of_fields (Obj.data_mapFields hd _)),(Obj.cls_mapFields ..).trans hc,by
  rw [Obj.data_mapFields hd];rfl⟩
theorem zd {it l:Addr} {i:Nat} {items:Array Value} {Q:Option Value→Shared→Prop} (hh:A.handled=none)
  (hit:s.heap.IsListIter it l i) (hl:L7 s.heap l items) (hx:items[i]?=none)
  (hQ:∀ h',Heap.ExtBut it s.heap h'→Q none {s with heap:=h'}):wpAny (model prog w) A (pyNext (.ref it)) Q E s:=by
 refine J2 (id hit) fun o ho hc hd=>?_
 refine V0 hl fun ol nl hol hdl=>?_;try clear hl
 unfold pyNext
 refine wpAny_bind (wpAny_attempt (wpAny_callSpecial?_slot (name:=Str.ofString "__next__") hit.typeIs slot_listiter_next
  (wpAny_call_entry slot_listiter_next hit.typeIs entry_listiter_next ?_ (args_listiter_next _))))
 show wpAny _ _ (field (.ref it) 0 >>= _) _ _ s
 refine wpAny_bind (wpAny_field ho hd (x:=.ref l) rfl ?_)
 show wpAny _ _ (if (Value.ref l == Value.none)=true then _ else _) _ _ s
 rw [if_neg (show ¬((Value.ref l == Value.none)=true) from Bool.false_ne_true)]
 show wpAny _ _ (field (.ref it) 1 >>= _) _ _ s
 refine wpAny_bind (wpAny_field ho hd (x:=.int i 0) rfl ?_)
 show wpAny _ _ (seqItems? (.ref l) >>= _) _ _ s
 refine wpAny_bind (wpAny_seqItems hol hdl ?_)
 simp only [Int.toNat_natCast,hx]
 refine wpAny_bind (wpAny_rule (wpAny_bind (wpAny_setField ho hd (by simp) ?_)))
 show wpAny _ _ (newExc (.type "StopIteration") [] >>= _) _ _ _
 refine wpAny_bind ?_
 simp only [newExc,newTuple]
 refine wpAny_bind (wpAny_newObj_type ?_ (by size_fits))
 refine wpAny_bind (m:=firstArgMember _ _) (wpAny_of_eq (a:=Value.none) (by first | rfl | (simp only [firstArgMember];rfl)) ?_)
 refine wpAny_newObj_type ?_ (by size_fits)
 dsimp only [raiseNew]
 refine wpAny_bind (wpAny_handled ?_)
 rw [show A.in1.handled=none from hh]
 refine wpAny_bind (wpAny_pure (wpAny_throw ?_))
 refine wpAny_bind (wpAny_isInstance (T:="StopIteration") (b:=true) ⟨_,Heap.get?_push_size _ rfl,rfl⟩ isSubtype_stop ?_)
 exact wpAny_pure (hQ _ (((Heap.SameBut.update ..).extBut.push _).push _))
theorem L7.at' {h h':Heap} {x:Addr} {items:Array Value} (e:L7 h x items) (k:∀ o,h.get? x=some o→h'.get? x=some o):L7 h' x items:=let ⟨o,n,a,b⟩:=e;⟨o,n,k _ a,b⟩
theorem WalksU.inst (I ax:Addr) (hne:ax≠I) (items:Array Value) (Ts:Nat→Addr) (vals:Nat→Array Value)
  (hit:∀ j,j < items.size→items[j]?=some (.ref (Ts j))) (hTI:∀ j,j < items.size→Ts j≠I) (A:Around) (hh:A.handled=none) :
  WalksU prog w A I (I::ax::(List.range items.size).map Ts) [I] items.size (fun j v=>j < items.size∧v=vals j)
   (fun j h=>h.IsListIter I ax j∧L7 h ax items∧∀ k,k < items.size→h.IsTuple (Ts k) (vals k))
   (fun j T h=>(j < items.size∧T=Ts j)∧h.IsListIter I ax (j+1)∧L7 h ax items∧∀ k,k < items.size→h.IsTuple (Ts k) (vals k)) where
 sub:=fun b hb=>by simp at hb;simp [hb]
 frame:=fun Z Z Z st hk=>⟨st.1.at fun o e=>hk I (by exact .head _) o e,st.2.1.at' fun o e=>hk ax (by exact .tail _ (.head _)) o e,
  fun k hk'=>(st.2.2 k hk').at fun o e=>hk (Ts k) (List.mem_cons_of_mem _ (List.mem_cons_of_mem _ (List.mem_map.mpr ⟨k,List.mem_range.mpr hk',rfl⟩))) o e⟩
 item:=fun i s Q E hi st hQ=>by
  refine zc st.1 st.2.1 (x:=.ref (Ts i)) (hit i hi) fun h' hit' hs'=>?_
  have tup:∀ k,k < items.size→h'.IsTuple (Ts k) (vals k):=fun k hk'=>(st.2.2 k hk').extBut hs'.extBut (hTI k hk')
  exact hQ (Ts i) (vals i) h' s.toks ⟨hi,rfl⟩ (tup i hi) ⟨⟨hi,rfl⟩,hit',st.2.1.at' fun o e=>hs'.extBut _ _ hne e,tup⟩ fun b o hb e=>hs'.extBut b o (fun h=>hb (by simp [h])) e
 go:=fun Z Z Z Z Z s Q Z hm hQ=>wpAny_letOwnedTupleGo_listiter hm.2.1 (hQ s.heap hm.2 fun Z Z Z e=>e)
 apart:=fun j T Z hm hmem=>by
  rcases List.mem_cons.mp hmem with e | e
  ·exact hTI j hm.1.1 (hm.1.2▸e)
  ·cases e
 done:=fun s Q E st hQ=>zd hh st.1 st.2.1 (by simp) fun h' he'=>hQ h' s.toks fun b o hb e=>he' b o (fun h=>hb (by simp [h])) e
 self:=fun Z Z Z Z st hQ=>wpAny_pyIter_listiter st.1 hQ
theorem ze {K:Frag} {x:Addr} {ox:Obj} {od:Option Obj} {Q:Value→Shared→Prop} (X:K.In s.heap) (AK:H4 K) (I:InstAt s.heap x ox 151 od)
  (h:Q (.ref s.heap.objs.size) {s with heap:=s.heap.push {cls:=.type "list_iterator",data:=.fields #[.ref x,.int 0 0]}}):wpAny (model prog w) A (pyIter (.ref x)) Q E s:=by
 delta pyIter specialOf
 refine wpAny_bind (wpAny_bind (I.type.here ((looks_findIn X AK.iter).here ?_)))
 show wpAny _ A (callSpecialIfBoundUnlessNone? (.ref x) "__iter__" _ >>= _) Q E s
 refine wpAny_bind ?_
 have fin:∀ {refuse:Sem Value} {Q':Option Value→Shared→Prop},Q' (some (.ref s.heap.objs.size)) {s with heap:=s.heap.push {cls:=.type "list_iterator",data:=.fields #[.ref x,.int 0 0]}}→
   wpAny (model prog w) A (if (Value.builtin "list.__iter__" == Value.none)=true then (refuse >>= fun v=>pure (some v)) else (call (.builtin "list.__iter__") [.ref x] >>= fun v=>pure (some v))) Q' E s:=by
  intro refuse Q' hq
  simp only [builtin_beq_none,Bool.false_eq_true,if_false]
  refine wpAny_bind (aC (C:=⟨prog,w,s.heap,s.os⟩) (n:="__iter__") X AK I slot_list_iter.plain entry_list_iter (.inl (by decide +kernel)) (by kernel_rfl) (args_list_iter _) ?_)
  show wpAny _ _ (do ret (←newFields "list_iterator" [.ref x,rawInt 0])) _ _ s
  exact wpAny_bind (wpAny_newObj_type (wpAny_pure ⟨_,rfl,wpAny_pure hq⟩))
 have tail:wpAny (model prog w) A (do
   match ←specialOf (.ref s.heap.objs.size) "__next__" with
   | none=>(do rule "iter.non-iterator";raiseError "TypeError" s!"iter() returned non-iterator of type '{← typeNameOf (.ref s.heap.objs.size)}'":Sem Value)
   | some _=>pure (.ref s.heap.objs.size)) Q E {s with heap:=s.heap.push {cls:=.type "list_iterator",data:=.fields #[.ref x,.int 0 0]}}:=by
  refine wpAny_bind (wpAny_specialOf (T:="list_iterator") ⟨_,Heap.get?_push_size _ rfl,rfl⟩ slot_listiter_next.lookup (wpAny_pure h))
 unfold callSpecialIfBoundUnlessNone? bindSpecialIfBound? specialOf
 refine wpAny_holding (wpAny_bind (wpAny_bind (wpAny_bind (I.type.here ((looks_findIn X AK.iter).here ?_)))))
 simp -iota only [slot_list_iter.bind]
 refine wpAny_bind (wpAny_askSetting (wpAny_ite ?_))
 split
 ·exact wpAny_bind (wpAny_pure (wpAny_pure (fin tail)))
 ·exact wpAny_tryCatch (wpAny_bind (wpAny_pure (wpAny_pure (fin tail))))
end
end
section
section
variable {prog:Program} {w:World} {A:Around} {E:Value→Shared→Prop} {s:Shared}
theorem Fy (a b:Value):argsOk "sum" ⟨[a,b],[]⟩:=by kernel_rfl
theorem WalksS.shift {I:Addr} {fp wr:List Addr} {G:Array GenState→Array GenState→Prop} {n:Nat} {P:Nat→Value→Prop} {St:Nat→Shared→Prop} (W:WalksS prog w A I fp wr G n P St) :
  WalksS prog w A I fp wr G (n+1) (fun j v=>∃ i,j=i+1∧P i v) (fun j s=>∃ i,j=i+1∧St i s) where
 sub:=W.sub
 grefl:=W.grefl
 gtrans:=W.gtrans
 frame:=fun j s h' tk hZ0 ht hk=>z0 hZ0 fun i e st=>⟨i,e,W.frame i s h' tk st ht hk⟩
 item:=fun j s Q E hj hZ0 hQ=>z0 hZ0 fun i e st=>W.item i s Q E (by exact xA hj e) st fun v s' hp hs hm=>hQ v s' ⟨i,e,hp⟩ ⟨i+1,by exact xz e,hs⟩ hm
 done:=fun s Q E hZ0 hQ=>z0 hZ0 fun i e st=>W.done s Q E (by
  have e':i=n:=by exact xy e
  rw [←e'];exact st) hQ
 self:=fun j s Q E hZ0 hQ=>z0 hZ0 fun i e st=>W.self i s Q E st hQ
noncomputable def Q7 (v:Int) (val:Nat→Int):Nat→Int
 | 0=>v
 | j+1=>val j
theorem jz (v:Int) (val:Nat→Int):∀ n,preSum (Q7 v val) (n+1)=v+preSum val n
 | 0=>by simp [preSum,Q7]
 | n+1=>by
  have e1:preSum (Q7 v val) (n+1+1)=preSum (Q7 v val) (n+1)+Q7 v val (n+1):=rfl
  have e2:preSum val (n+1)=preSum val n+val n:=rfl
  simp -iota only [e1,jz v val n,e2]
  show v+preSum val n+val n=_
  exact xx
theorem Ea {x:Value} {v:Int} {t:Tok} {Q:Value→Shared→Prop}
  (h:wpAny (model prog w) A.in1 (pyIter x) (fun it s₂=>∃ I fp wr G n P St val,it=.ref I∧WalksS prog w A.in1 I fp wr G n P St∧St 0 s₂∧(∀ b∈fp,b < s₂.heap.objs.size)∧
   (∀ i v,P i v→∃ t,v=.int (val i) t)∧
   ∀ s' t',Moved wr G s₂ s'→Q (.int (v+preSum val n) t') s') E s) :
  wpAny (model prog w) A (call (.builtin "sum") [x,.int v t]) Q E s:=by
 refine call_function_tree F.kind_sum F.plain_sum F.entry_sum (Fy _ _) ?_
 unfold Builtin.«sum»
 dsimp -iota only [List.length_cons,List.length_nil]
 rw [if_neg (by decide)]
 refine wpAny_bind (wpAny_of_eq (show Builtin.Builtins.bindParams "sum" ["start"] 0 ⟨[.int v t],[]⟩=pure [some (.int v t)] from rfl) ?_)
 refine wpAny_bind (wpAny_mono h (fun it s₂ h₂=>?_) fun Z Z e=>e)
 refine V4 h₂ fun I fp wr G n P St zr0=>lG zr0 fun val hR0 W hst hfp hval hQ=>?_;try clear h₂;subst hR0
 have I2:preSum (Q7 v val) 1=v:=by simp [preSum,Q7]
 have fin:∀ (tk:Nat) (t₀:Tok) (st:Int),(st=0∨st=2)→s₂.toks≤tk→codeAny (model prog w) A (.builtin "sum.loop" ⟨[.ref I,.ref s₂.heap.objs.size,rawInt st,rawInt 0],[]⟩)
   (fun r s'=>match r with | .ok (.ret v)=>Q v s' | .ok _=>False | .error e=>E e s') {s₂ with heap:=s₂.heap.push {cls:=.type "list",data:=.seq #[.int v t₀]},toks:=tk}:=by
  intro tk t₀ st hst2 htk
  have hSf:s₂.heap.objs.size∉fp:=fun hm=>Nat.lt_irrefl _ (hfp _ hm)
  refine codeAny_sum_loopAnyS (WalksS.shift W) (Q7 v val) (fun i u hZ0=>z0 hZ0 fun j e hp=>by subst e;exact hval j u hp) s₂.heap.objs.size hSf n 1 _ t₀ 0 st hst2 (by exact jl) (by exact jk)
   ⟨0,rfl,W.frame 0 s₂ _ _ hst htk fun b Z o e=>Heap.get?_push_of_some _ e⟩ ?_ fun s' t' hm=>?_
  ·rw [I2];exact Heap.get?_push_size _ rfl
  ·rw [jz]
   exact hQ s' t' (hm.drop_new htk)
 dsimp only
 split
 ·refine wpAny_bind (wpAny_rule (wpAny_bind (wpAny_mkInt (wpAny_bind (wpAny_pure ?_)))))
  simp -iota only [List.forIn_cons,List.forIn_nil]
  refine wpAny_bind (wpAny_bind (wpAny_bind (wpAny_isInstance (T:="int") (b:=false) (typeIs_int _ _ _) PySem.sub_int_str ?_)))
  simp -iota only [Bool.false_eq_true,if_false]
  refine wpAny_pure (wpAny_bind (wpAny_bind (wpAny_isInstance (T:="int") (b:=false) (typeIs_int _ _ _) sub_int_bytes ?_)))
  simp -iota only [Bool.false_eq_true,if_false]
  refine wpAny_pure (wpAny_bind (wpAny_bind (wpAny_isInstance (T:="int") (b:=false) (typeIs_int _ _ _) sub_int_bytearray ?_)))
  simp -iota only [Bool.false_eq_true,if_false]
  refine wpAny_pure (wpAny_pure ?_)
  refine wpAny_bind (wpAny_newObj_type ?_)
  exact wpAny_pure ⟨plainId_quiet F.plain_sum_loop _,fin _ _ 0 (.inl rfl) (Nat.le_succ _)⟩
 ·refine wpAny_bind (wpAny_pure ?_)
  simp -iota only [List.forIn_cons,List.forIn_nil]
  refine wpAny_bind (wpAny_bind (wpAny_bind (wpAny_isInstance (T:="int") (b:=false) (typeIs_int _ _ _) PySem.sub_int_str ?_)))
  simp -iota only [Bool.false_eq_true,if_false]
  refine wpAny_pure (wpAny_bind (wpAny_bind (wpAny_isInstance (T:="int") (b:=false) (typeIs_int _ _ _) sub_int_bytes ?_)))
  simp -iota only [Bool.false_eq_true,if_false]
  refine wpAny_pure (wpAny_bind (wpAny_bind (wpAny_isInstance (T:="int") (b:=false) (typeIs_int _ _ _) sub_int_bytearray ?_)))
  simp -iota only [Bool.false_eq_true,if_false]
  refine wpAny_pure (wpAny_pure ?_)
  refine wpAny_bind (wpAny_newObj_type ?_)
  exact wpAny_pure ⟨plainId_quiet F.plain_sum_loop _,fin _ _ 2 (.inr rfl) (Nat.le_refl _)⟩
end
end
section
noncomputable def O2:AO:=.sat fun o=>∃ ps:Array Value,o=tabObj ps∧TriplesOk ps.toList
structure M9 (C:Cx) (c P:Addr):Prop where
 is:∃ o vs file tf flags tg inF text tt,C.H₀.get? c=some o∧o.cls=.type "code"∧o.data=.fields vs∧vs.getD 11 .none=.ref P∧vs.getD 18 .none=.str file tf∧vs.getD 7 .none=.int flags tg∧vs.getD 9 .none=.bool inF∧vs.getD 10 .none=.int text tt∧c≠P
structure fG (C:Cx):Prop where
 is:∃ mg o,C.H₀.Ns mainGlobals mg∧mg "__builtins__" = some (.ref 4)∧C.H₀.get? 4=some o∧o.cls=.type "module"∧o.dict=some builtinsNs∧o.data=.plain
noncomputable def l8 (h:Heap) (T:Addr):Array Value:=match h.get? T with | some ⟨_,_,.seq a _,_⟩=>a | _=>#[]
theorem jC (n:Nat):passing (fun Z=>true) n 0=List.range n:=by
 unfold passing;simp
section
variable {α:Type} {C:Cx} {A:Around} {g:Heap} {fr:Fm} {E:Value→Shared→Prop} {loc:j0} {hp:HP} {x:Addr} {i:Int} {sc:Scope} {ow:Str→Bool}
theorem F0.code {h:Heap} {c P:Addr} (R:F0 C.H₀ g fr loc hp h) (CH:M9 C c P) (hP:hp P=some O2):∃ ps,h.IsCode c P ps∧h.TableAt c P ps:=by
 refine V4 (CH.is) fun o vs file tf flags tg inF zr0=>i6 zr0 fun text tt ho h0 h1 h2 h3 zr1=>P1 zr1 fun h4 h5 h6 h7=>?_
 refine fh (R.at_ P _ hP) fun ps Z Z Z hop ht=>?_
 have h2':vs[11]?=some (.ref P):=by
  rw [Array.getD_eq_getD_getElem?] at h2
  cases q:vs[11]? with
  | none=>rw [q] at h2;cases h2
  | some v=>rw [q] at h2;rw [show v=_ from h2]
 exact ⟨ps,⟨o,vs,file,tf,flags,tg,inF,text,tt,_,R.keep _ _ (R.base _ _ ho),h1,h2,h3,h4,h5,h6,hop,rfl,ht,h7⟩,⟨o,vs,R.keep _ _ (R.base _ _ ho),h0,h1,h2'⟩,hop⟩
theorem CJ {M:Model} {A:Around} {E:Value→Shared→Prop} {s:Shared} {env:Env} {c P:Addr} {ps:Array Value} {pos:Pos} {qualname:Str} {scope:Scope} {Q:Value→Shared→Prop} (hc:env.code=.ref c) (hok:s.heap.IsCode c P ps) (htab:s.heap.TableAt c P ps)
  (hQ:∀ code h' tk ps',Heap.ExtBut P s.heap h'→h'.IsCode c P ps'→h'.TableAt c P ps'→Q code {s with heap:=h',toks:=tk}):wpAny M A (genexprCode env pos qualname scope) Q E s:=by
 cases hnf:codeAmong pos ps.toList with
 | some cv=>exact wpAny_genexprCode_hit hc hok hnf (hQ cv s.heap s.toks ps (Heap.ExtBut.refl _ _) hok htab)
 | none=>exact wpAny_genexprCodeX hc hok htab hnf fun c' h' tk e Z Z i Z t Z=>hQ _ h' tk _ e i t
theorem WalksS.monoP {prog:Program} {w:World} {I:Addr} {fp wr:List Addr} {G:Array GenState→Array GenState→Prop} {n:Nat} {P P':Nat→Value→Prop} {St:Nat→Shared→Prop} (W:WalksS prog w A I fp wr G n P St) (h:∀ i v,P i v→P' i v):WalksS prog w A I fp wr G n P' St where
 sub:=W.sub
 grefl:=W.grefl
 gtrans:=W.gtrans
 frame:=W.frame
 item:=fun j s Q E hj st hQ=>W.item j s Q E hj st fun v s' hp hs hm=>hQ v s' (h _ _ hp) hs hm
 done:=W.done
 self:=W.self
theorem kW {K:Frag} (X:K.In C.H₀) (AK:H4 K) (W:G1 C) (BI:fG C) {P c:Addr} (hcode:fr.env.code=.ref c) (CH:M9 C c P) (F:P0 fr sc ow) (hh:A.handled=none) (hroom:A.depth < recursionLimit)
  {ts:List Addr} {ps:List (Value × Value)} (hx:Y2 hp x i (ts.map .ref)) (hts:∀ (k:Nat) (T:Addr) (v:Value × Value),ts[k]?=some T→ps[k]?=some v→hp T=some (.tuple [v.1,v.2])) (hln:ts.length=ps.length) (hP:hp P=some O2)
  {elt:Expr} {n xa xb:Str} {np pa pb pt pos:Pos} {kt:Nat} {scope:Scope} (hco:scope.isCoroutine=false) (hfree:∀ y∈scope.names,y.2≠.free) (hcell:∀ y∈scope.names,y.2≠.cell) (h0:scope.names.lookup (".0":Str)=some NameKind.local)
  (hxa:scope.names.lookup xa=some .local) (hxb:scope.names.lookup xb=some .local) (hab:xa≠xb) (hkind:scope.kind=.function)
  (hn:loc n=some (.ref x)) (hd:(n == ("__debug__":Str))=false) (hc:(n == ("__classdict__":Str))=false) (Fv:Nat→Value→Prop)
  (helt:∀ (Cg:Addr) (code:Value) (A':Around) E' (j:Nat) (va vb:Value) (s₂:Shared) m₂ v,A'.handled=none→ps[j]?=some v→nm va=v.1→nm vb=v.2→s₂.heap.Ns Cg m₂→m₂ xa=some va→m₂ xb=some vb→(∀ b o,C.H₀.get? b=some o→s₂.heap.get? b=some o)→
   wpAny (model C.prog C.w) A' (eval elt (genEnv scope [] Cg code builtinsNs fr.env)) (fun y s₃=>Fv j y∧Keeps s₂ s₃) E' s₂)
  (s:Shared) (R:F0 C.H₀ g fr loc hp s.heap) (S:H2 C s) {Q:Value→Shared→Prop}
  (hQ:∀ a s₅ wr fp St,WalksS C.prog C.w A.in4 a fp wr (GenOnlyQ s.gens.size) ps.length Fv St→St 0 s₅→(∀ b∈fp,b < s₅.heap.objs.size)→a∈fp→(∀ j s',St j s'→s'.TypeIs (.ref a) "generator")→
   (∀ b o,s.heap.get? b=some o→b≠P→s₅.heap.get? b=some o)→(∀ s',Moved wr (GenOnlyQ s.gens.size) s₅ s'→H2 C s'∧F0 C.H₀ g fr loc hp s'.heap)→Q (.ref a) s₅) :
  wpAny (model C.prog C.w) A (eval (.GeneratorExp elt [⟨.Tuple [.Name xa pa,.Name xb pb] kt pt,.Name n np,[],0⟩] scope pos) fr.env) Q E s:=by
 refine V4 (R.acc hx) fun d hh1 t u ep vs nn zr0=>w5 zr0 fun e1 e2 e3 I h1 h2=>?_
 refine z0 (R.code CH hP) fun pcs hcd htb=>?_
 have hk₀:∀ b o,C.H₀.get? b=some o→s.heap.get? b=some o:=fun b o e=>R.keep b o (R.base b o e)
 have hvs:vs.size=ps.length:=by simp only [M2 e2,List.length_map,hln]
 have hitem:∀ j,j < vs.size→vs[j]?=some (.ref (ts.getD j 0)):=fun j hj=>by
  have hj':j < ts.length:=by exact dF hj hln hvs
  refine z0 (X5 (x:=.ref ts[j]) (i:=j) e2 (by simp only [List.getElem?_map,List.getElem?_eq_getElem hj'];rfl)) fun v hv hv'=>?_
  simp only [hv,Q0 hv',List.getD_eq_getElem?_getD,List.getElem?_eq_getElem hj'];rfl
 have htup:∀ j,j < vs.size→s.heap.IsTuple (ts.getD j 0) (l8 s.heap (ts.getD j 0))∧∀ v,ps[j]?=some v→∃ va vb,l8 s.heap (ts.getD j 0)=#[va,vb]∧nm va=v.1∧nm vb=v.2:=fun j hj=>by
  have hj':j < ts.length:=by exact dF hj hln hvs
  have hj'':j < ps.length:=by exact q1 hvs hj
  have ej:ts.getD j 0=ts[j]:=by rw [List.getD_eq_getElem?_getD,List.getElem?_eq_getElem hj'];rfl
  refine V0 (R.tuple (hts j ts[j] ps[j] (List.getElem?_eq_getElem hj') (List.getElem?_eq_getElem hj''))) fun ws m ew qw=>?_
  have et:l8 s.heap (ts.getD j 0)=ws:=by unfold l8;simp only [ej,ew]
  rw [et,ej]
  refine ⟨⟨_,ew,rfl,m,rfl⟩,fun v hv=>?_⟩
  rw [List.getElem?_eq_getElem hj''] at hv
  cases hv
  have h1:ws.toList.length=2:=by simpa using congrArg List.length qw
  match hw:ws.toList,h1 with
  | [va,vb],_=>
   rw [hw] at qw
   injection qw with q1 q2
   injection q2 with q2 _
   exact ⟨va,vb,by apply Array.toList_inj.mp;rw [hw],q1,q2⟩
 have hTlt:∀ j,j < vs.size→ts.getD j 0 < s.heap.objs.size:=fun j hj=>let ⟨⟨o,ho,_⟩,_⟩:=htup j hj;Heap.lt_size ho
 have hxP:x≠P:=by rintro rfl;rw [h1] at hP;exact R3 hP
 have hTP:∀ j,j < vs.size→ts.getD j 0≠P:=fun j hj e=>by
  have hj':j < ts.length:=by exact dF hj hln hvs
  have hj'':j < ps.length:=by exact q1 hvs hj
  have:=hts j ts[j] ps[j] (List.getElem?_eq_getElem hj') (List.getElem?_eq_getElem hj'')
  have ej:ts.getD j 0=ts[j]:=by rw [List.getD_eq_getElem?_getD,List.getElem?_eq_getElem hj'];rfl
  rw [←ej,e,hP] at this;exact R3 this
 refine i6 (BI.is) fun mg ob hns hbm hob hob1 hob2 hob3=>?_
 refine wpAny_GeneratorExp_walksQT hh hco (closureFor_none hfree) hcell h0 hxa hxb hab hkind hroom ?_ (fun Z=>rfl)
 -- the iterable
 have self:wpAny (model C.prog C.w) A (eval (.Name n np) fr.env) (fun v s'=>v=.ref x∧s'=s) E s:=by
  rcases R.loc n _ hn with ⟨k,m,v',hm,e,q⟩ | ⟨k | k,cc,v',l,hm,q⟩
  ·exact wpAny_Name (wpAny_loadName_local F.k k hm e ⟨Q0 q,rfl⟩) hd
  ·exact wpAny_Name (wpAny_loadName_cell F.k k l hm ⟨Q0 q,rfl⟩) hd
  ·exact wpAny_Name (wpAny_loadName_free F.k k l hm ⟨Q0 q,rfl⟩ hc) hd
 refine wpAny_mono self (fun v s' hZ0=>B0 hZ0 fun ev es=>?_) fun Z Z e=>e
 subst ev;subst es
 refine ze (R.K X) AK I ?_
 generalize hI:s'.heap.objs.size=It
 have hIx:x≠It:=by
  intro e
  have:=Heap.lt_size e1
  rw [hI,e] at this
  exact Nat.lt_irrefl _ this
 have hPlt:P < s'.heap.objs.size:=R.lt_of_hp hP
 have hIP:It≠P:=by
  intro e
  rw [hI,e] at hPlt
  exact Nat.lt_irrefl _ hPlt
 have hkp:∀ b o,s'.heap.get? b=some o→(s'.heap.push {cls:=.type "list_iterator",data:=.fields #[.ref x,.int 0 0]}).get? b=some o:=fun b o e=>Heap.get?_push_of_some _ e
 have hItp:(s'.heap.push {cls:=.type "list_iterator",data:=.fields #[.ref x,.int 0 0]}).get? It=some {cls:=.type "list_iterator",data:=.fields #[.ref x,.int 0 0]}:=by rw [←hI];exact Heap.get?_push_size _ rfl
 refine ⟨(W.lim.keeps hk₀).keeps hkp,CJ hcode (hcd.keeps hkp) (htb.keeps hkp) fun code h' tk ps' hext hcd' htb'=>?_⟩
 have hPn:C.H₀.get? P=none:=by
  cases q:C.H₀.get? P with
  | none=>rfl
  | some o=>have:=R.base P o q;rw [(R.at_ P _ hP).1] at this;exact J0 this
 have old:∀ b o,s'.heap.get? b=some o→b≠P→h'.get? b=some o:=fun b o e hb=>hext b o hb (hkp b o e)
 have oldH:∀ b o,C.H₀.get? b=some o→h'.get? b=some o:=fun b o e=>old b o (hk₀ b o e) (by rintro rfl;rw [hPn] at e;exact J0 e)
 have hsz':s'.heap.objs.size < h'.objs.size:=by
  have:=Heap.lt_size (hext It _ hIP hItp)
  rw [←hI] at this;exact this
 have eg:fr.env.globals=mainGlobals:=F.glob
 rw [eg]
 refine wpAny_builtinsFor (hns.keeps oldH) hbm (by decide) (oldH _ _ hob) hob1 hob2 hob3 ?_
 have hcs:cStatics < s'.heap.objs.size:=let ⟨_,hn,_⟩:=W.lim.keeps hk₀;hn.lt
 refine ⟨It,It::x::(List.range vs.size).map (fun j=>ts.getD j 0),[It],vs.size,fun j v=>j < vs.size∧v=l8 s'.heap (ts.getD j 0),
  fun j h=>h.IsListIter It x j∧L7 h x vs∧∀ k,k < vs.size→h.IsTuple (ts.getD k 0) (l8 s'.heap (ts.getD k 0)),
  fun j T h=>(j < vs.size∧T=ts.getD j 0)∧h.IsListIter It x (j+1)∧L7 h x vs∧∀ k,k < vs.size→h.IsTuple (ts.getD k 0) (l8 s'.heap (ts.getD k 0)),fun Z=>true,Fv,rfl,
  fun A' hA=>WalksU.inst It x hIx vs _ _ hitem (fun j hj e=>absurd (hTlt j hj) (by simp only [e,hI];exact Nat.lt_irrefl _)) A' hA,?_,?_,?_,W.lim.keeps oldH,?_,?_,?_⟩
 ·intro j v hZ0;refine B0 hZ0 fun hj hR0=>?_;clear hZ0;subst hR0
  refine B0 (htup j hj) fun Z hv=>?_
  refine V0 (hv _ (List.getElem?_eq_getElem (by exact q1 hvs hj))) fun va vb e Z=>?_
  exact ⟨va,vb,e⟩
 ·refine ⟨⟨_,hext It _ hIP hItp,rfl,rfl⟩,⟨_,nn,old _ _ e1 hxP,rfl⟩,fun k hk=>?_⟩
  obtain ⟨⟨o,ho,r⟩,_⟩:=htup k hk
  exact ⟨o,old _ _ ho (hTP k hk),r⟩
 ·intro b hb
  rcases List.mem_cons.mp hb with eb | hb
  ·rw [eb];exact Heap.lt_size (hext It _ hIP hItp)
  ·rcases List.mem_cons.mp hb with eb | hb
   ·rw [eb];exact Nat.lt_trans (Heap.lt_size e1) hsz'
   ·refine z0 (List.mem_map.mp hb) fun j hj hR0=>?_;subst hR0
    exact Nat.lt_trans (hTlt j (List.mem_range.mp hj)) hsz'
 ·intro hm
  rcases List.mem_cons.mp hm with e | e
  ·rw [←hI] at e;exact absurd hcs (by rw [e];exact Nat.lt_irrefl _)
  ·cases e
 ·intro href hhref
  refine ⟨fun A' E' j va vb s₂ m₂ hA hPt hns₂ h1 h2 hkp₂=>wpAny_tests_nil ⟨rfl,_,_,rfl,fun Z Z e=>e⟩,fun A' E' j va vb s₂ m₂ hA hPt Z hns₂ h1 h2 hkp₂=>?_⟩
  refine B0 hPt fun hj ev=>?_;try clear hPt
  refine B0 (htup j hj) fun Z hv=>?_
  have hjp:j < ps.length:=by exact q1 hvs hj
  refine eZ (hv _ (List.getElem?_eq_getElem hjp)) fun va' vb' e q1 q2=>?_
  rw [e] at ev
  have e4:=congrArg Array.toList ev
  injection e4 with e5 e6
  injection e6 with e6 _
  subst e5;subst e6
  refine helt _ code A' E' j va vb s₂ m₂ _ hA (List.getElem?_eq_getElem hjp) q1 q2 hns₂ h1 h2 fun b o eb=>?_
  have hb:=hk₀ b o eb
  have hblt:=Heap.lt_size hb
  refine hkp₂ b (List.mem_range.mpr (Nat.lt_trans hblt hsz')) (fun hm=>?_) o (hhref b o (oldH b o eb))
  rcases List.mem_cons.mp hm with e | e
  ·rw [e,hI] at hblt;exact Nat.lt_irrefl _ hblt
  ·cases e
 ·intro a h₅ tk₅ gs hgs ha1 ha2 keep₅ WS hGA
  have hlen:(passing (fun Z=>true) vs.size 0).length=ps.length:=by rw [jC,List.length_range,hvs]
  rw [hlen] at WS
  have WS':=WalksS.monoP WS (P':=Fv) fun j v hZ0=>z0 hZ0 fun k hk hf=>by
   rw [jC] at hk
   have hk':=List.getElem?_eq_some_iff.mp hk
   refine o0 hk' fun hlt e=>?_;try clear hk'
   rw [List.getElem_range] at e
   subst e;exact hf
  have bare:∀ y∈s'.gens.push gs,y.bare=true:=fun y hy=>by
   rcases Array.mem_push.mp hy with h | h
   ·exact S.2 y h
   ·rw [h];exact hgs
  refine hQ a _ _ _ _ WS' hGA ?_ (List.mem_cons_self ..) (fun j s'' h=>?_) (fun b o e hb=>keep₅ b o (old b o e hb)) fun s'' hm=>⟨⟨hm.os.trans S.1,hm.gens.bare bare⟩,?_⟩
  ·intro b hb
   show b < h₅.objs.size
   rcases List.mem_cons.mp hb with eb | hb
   ·simp only [eb,ha2];exact Nat.lt_succ_self _
   ·have hsz5:h'.objs.size < h₅.objs.size:=by
     have h1:h'.objs.size < a:=ha1
     rw [ha2];exact Nat.lt_succ_of_lt h1
    rcases List.mem_cons.mp hb with eb | hb
    ·rw [eb];exact hsz5
    ·exact Nat.lt_trans (List.mem_range.mp hb) hsz5
  ·obtain ⟨⟨o,_,_,ho,hc,_⟩,_⟩:=h
   exact ⟨o,ho,hc⟩
  ·have hk5:∀ b o,¬b=P→s'.heap.get? b=some o→s''.heap.get? b=some o:=fun b o hb e=>by
    have hblt:=Heap.lt_size e
    refine hm.heap b o (fun hmem=>?_) (keep₅ b o (old b o e hb))
    rcases List.mem_cons.mp hmem with e' | hmem
    ·have e'':b=h'.objs.size:=e'
     rw [e''] at hblt
     exact absurd (Nat.lt_trans hblt hsz') (Nat.lt_irrefl _)
    ·rcases List.mem_cons.mp hmem with e' | e'
     ·rw [e',←hI] at hblt;exact Nat.lt_irrefl _ hblt
     ·cases e'
   refine R.step (W:=fun b=>b=P) (fun b hb=>by subst hb;exact ⟨_,hP⟩) hk5 fun b ao eb=>⟨.inl ⟨_,eb⟩,?_⟩
   by_cases hb:b=P
   ·subst hb
    rw [hP] at eb;cases eb
    refine V4 hcd' fun Z Z Z Z Z Z Z zr0=>au zr0 fun Z Z op Z Z Z Z zr1=>fj zr1 fun Z Z Z hop₀ hod hot Z=>?_;try clear hcd'
    have hop:=htb'.2
    have hopl:=Heap.lt_size hop
    refine ⟨_,hm.heap _ _ (fun hmem=>?_) (keep₅ _ _ hop),ps',rfl,hot⟩
    rcases List.mem_cons.mp hmem with e' | hmem
    ·have e'':b=h'.objs.size:=e'
     rw [e''] at hopl;exact Nat.lt_irrefl _ hopl
    ·rcases List.mem_cons.mp hmem with e' | e'
     ·exact hIP e'.symm
     ·cases e'
   ·refine Q2 (R.at_ b ao eb) fun Z Z Z o ho hi=>?_
    exact ⟨o,hk5 b o hb ho,hi⟩
end
end
section
section
variable {α:Type} {C:Cx} {A:Around} {g:Heap} {fr:Fm} {E:Value→Shared→Prop} {loc:j0} {hp:HP} {x:Addr} {i:Int} {sc:Scope} {ow:Str→Bool}
theorem mR {f:Addr} {fd:FuncData} {body:List Stmt} {vals:List Value} {kw:List (Str × Value)} {binds:List (Str × Value)} {Q:Value→j0→HP→Prop}
  (F:j4 C f fd) (hbody:fd.body=.stmts body) (hclo:fd.closure=[]) (hlim:C.H₀.NoLimit) (hroom:A.depth < recursionLimit)
  (hbind:∀ s:Shared,(∀ b o,C.H₀.get? b=some o→s.heap.get? b=some o)→BindsTo s fd ⟨vals,kw⟩ binds)
  (hkb:(binds.all fun x=>fd.scope.names.lookup x.1 == some .local || fd.scope.names.lookup x.1 == some .cell)=true)
  (hg:fd.globals=mainGlobals) (hb:fd.builtins=builtinsNs) (hf:fd.scope.names.all (fun x=>x.2 != .free)=true)
  (h:∀ g' L E',P0 (K3 fd L f) fd.scope K7→I0 C (A.deeper (callEnvC fd L f)) g' (K3 fd L f) E' (execs body (K3 fd L f).env) (X1 binds fun Z=>none) hp fun fl Z p=>Q (aN fl) loc p) :
  w0 C A g fr E (call (.ref f) vals kw) loc hp Q:=fun s R S=>by
 refine z0 (F.at_) fun o ho hd=>?_
 have hkind:∀ x∈binds,fd.scope.names.lookup x.1=some .local∨fd.scope.names.lookup x.1=some .cell:=fun x hx=>by
  have:=List.all_eq_true.mp hkb x hx
  rcases Bool.or_eq_true_iff.mp this with q | q
  ·exact .inl (by simpa using q)
  ·exact .inr (by simpa using q)
 have hk:∀ b o,C.H₀.get? b=some o→s.heap.get? b=some o:=fun b o e=>R.keep b o (R.base b o e)
 refine wpAny_call (codeAny_call_function hroom (hk _ _ ho) hd F.co F.gen hbody (F.code.keeps hk) (hbind s hk _ _ _ _ ?_))
 rw [hclo]
 refine wpAny_newFunctionEnv_cells F.kind (fun x hx=>(hkind x hx).imp id fun e=>⟨e,cellsFrom_some _ _ _ (.inl e)⟩) fun env he s' x=>?_
 subst he
 refine ⟨(hlim.keeps hk).keeps x.toInCall.keep,codeAny_func ?_⟩
 have R':=Z8 (h:=s.heap) R hkind x
 refine wpAny_mono (h _ _ _ (N8 fd _ f F.kind hg hb hf) s' R' (r8 S x)) (fun fl s'' hq=>?_) fun Z Z e=>e
 refine Q3 hq fun S'' l' p' R'' q=>?_;try clear hq
 refine ⟨S'',loc,p',R.asleep R''.keep fun b ao e=>?_,?_⟩
 ·refine P1 (R''.at_ b ao e) fun a1 Z Z a4=>?_
  exact ⟨a1,a4⟩
 ·cases fl <;> exact q
theorem zP {s:Shared} {n:Str} {np:Pos} (F:P0 fr sc ow) (R:F0 C.H₀ g fr loc hp s.heap) (hn:loc n=some (.ref x)) (hd:(n == ("__debug__":Str))=false) (hc:(n == ("__classdict__":Str))=false) :
  wpAny (model C.prog C.w) A (eval (.Name n np) fr.env) (fun v s'=>v=.ref x∧s'=s) E s:=by
 rcases R.loc n _ hn with ⟨k,m,v',hm,e,q⟩ | ⟨k | k,cc,v',l,hm,q⟩
 ·exact wpAny_Name (wpAny_loadName_local F.k k hm e ⟨Q0 q,rfl⟩) hd
 ·exact wpAny_Name (wpAny_loadName_cell F.k k l hm ⟨Q0 q,rfl⟩) hd
 ·exact wpAny_Name (wpAny_loadName_free F.k k l hm ⟨Q0 q,rfl⟩ hc) hd
theorem Ew {K:Frag} (X:K.In C.H₀) (AK:H4 K) (W:G1 C) (BI:fG C) {P c:Addr} (hcode:fr.env.code=.ref c) (CH:M9 C c P) (F:P0 fr sc ow) (hh:A.handled=none) (hroom:A.depth < recursionLimit)
  {ts:List Addr} {ps:List (Value × Value)} (hx:Y2 hp x i (ts.map .ref)) (hts:∀ (k:Nat) (T:Addr) (v:Value × Value),ts[k]?=some T→ps[k]?=some v→hp T=some (.tuple [v.1,v.2])) (hln:ts.length=ps.length) (hP:hp P=some O2)
  {elt:Expr} {n xa xb:Str} {np np2 sp ap pa pb pt gpos pos:Pos} {kt:Nat} {scope:Scope} (hco:scope.isCoroutine=false) (hfree:∀ y∈scope.names,y.2≠.free) (hcell:∀ y∈scope.names,y.2≠.cell) (h0:scope.names.lookup (".0":Str)=some NameKind.local)
  (hxa:scope.names.lookup xa=some .local) (hxb:scope.names.lookup xb=some .local) (hab:xa≠xb) (hkind:scope.kind=.function)
  (hn:loc n=some (.ref x)) (hd:(n == ("__debug__":Str))=false) (hc:(n == ("__classdict__":Str))=false) (hks:sc.names.lookup ("sum":Str)=some .globalImplicit)
  (hbase:attributeBase (.Name n np2) "_initial_size" fr.env (eval (.Name n np2) fr.env)=eval (.Name n np2) fr.env) (val:Nat→Int)
  (helt:∀ (Cg:Addr) (code:Value) (A':Around) E' (j:Nat) (va vb:Value) (s₂:Shared) m₂ v,A'.handled=none→ps[j]?=some v→nm va=v.1→nm vb=v.2→s₂.heap.Ns Cg m₂→m₂ xa=some va→m₂ xb=some vb→(∀ b o,C.H₀.get? b=some o→s₂.heap.get? b=some o)→
   wpAny (model C.prog C.w) A' (eval elt (genEnv scope [] Cg code builtinsNs fr.env)) (fun y s₃=>(∃ t,y=.int (val j) t)∧Keeps s₂ s₃) E' s₂)
  {Q:Value→j0→HP→Prop} (hQ:Q (.int (i+preSum val ps.length) 0) loc hp) :
  w0 C A g fr E (eval (.Call (.Name "sum" sp) [.GeneratorExp elt [⟨.Tuple [.Name xa pa,.Name xb pb] kt pt,.Name n np,[],0⟩] scope gpos,.Attribute (.Name n np2) "_initial_size" ap] [] pos) fr.env) loc hp Q:=fun s R S=>by
 have hsum:=mV (C:=C) (A:=A) (g:=g) (fr:=fr) (E:=E) (loc:=loc) (hp:=hp) (x:="sum") (pos:=sp) (v:=.builtin "sum") (Q:=fun v l p=>v=.builtin "sum"∧l=loc∧p=hp) F.k F.glob F.bi (F.kindOf hks) W.sum ⟨rfl,rfl,rfl⟩ (by decide) rfl
 refine Call_Name2 (wpAny_mono (hsum s R S) (fun f s₁ hZ0=>ci hZ0 fun S₁ l p R₁ e1 e2 e3=>?_) fun Z Z e=>e)
 subst e2;subst e3
 have:=jK e1;subst this
 refine Calls.callWith_builtin rfl (Calls.evalArgs_plain (Calls.spliced_cons ?_))
 refine kW X AK W BI hcode CH F hh hroom hx hts hln hP hco hfree hcell h0 hxa hxb hab hkind hn hd hc (fun j y=>∃ t,y=.int (val j) t) helt s₁ R₁ S₁ fun a s₅ wr fp St WS hst hfp haf hT hk hfin=>?_
 refine B0 (hfin s₅ ⟨fun Z Z Z e=>e,.inl rfl,rfl,rfl,Nat.le_refl _⟩) fun S₅ R₅=>?_
 refine Calls.spliced_cons ?_
 rw [arm_eval_Attribute,hbase]
 refine wpAny_bind (wpAny_mono (zP F R₅ hn hd hc) (fun v s' hZ0=>B0 hZ0 fun ev es=>?_) fun Z Z e=>e)
 subst ev;subst es
 refine V4 (R₅.acc hx) fun d hh1 t u ep vs nn zr0=>w5 zr0 fun ee1 ee2 ee3 I h1 h2=>?_
 refine wpAny_bind (wpAny_standAt (wpAny_bind (wpAny_holding (FH (R₅.K X) AK I (AK.size ..) rfl ?_))))
 refine wpAny_bind (wpAny_of_eq (a:=()) rfl (wpAny_pure (Calls.spliced_nil ?_)))
 refine Ea ?_
 have st6:=WS.frame 0 s' s'.heap (s'.toks+1) hst (Nat.le_succ _) fun b Z o e=>e
 refine (WalksS.in4_1 WS).self 0 _ _ _ st6 ⟨a,fp,wr,_,_,_,St,val,rfl,WalksS.in4_1 WS,st6,hfp,fun j v hv=>hv,fun s'' t' hm=>?_⟩
 have hm':Moved wr (GenOnlyQ s₁.gens.size) s' s'':=⟨hm.heap,hm.gens,hm.drawn,hm.os,Nat.le_trans (Nat.le_succ _) hm.toks⟩
 refine B0 (hfin s'' hm') fun S₆ R₆=>?_
 exact ⟨S₆,l,p,R₆,hQ⟩
end
end
section
structure t7 (C:Cx):Prop where
 bi:fG C
 cLen:M9 C 117 113
 cStr:M9 C 124 120
 gEmpty:∃ t,Q1 C "EMPTYSTRING" (.str Str.empty t)
theorem bV {C:Cx} {A:Around} {E:Value→Shared→Prop} {s:Shared} {env:Env} {x:Str} {pos:Pos} {v:Value} (hG:Q1 C x v) (hk:env.scope.kind=.function) (hg:env.globals=mainGlobals) (hb:env.builtins=builtinsNs) (hx:env.kindOf x=some .globalImplicit)
  (hk':∀ b o,C.H₀.get? b=some o→s.heap.get? b=some o) (hd:(x == ("__debug__":Str))=false):wpAny (model C.prog C.w) A (eval (.Name x pos) env) (fun u s'=>u=v∧s'=s) E s:=by
 rcases hG.is with ⟨mg,n,e⟩ | ⟨mg,mb,n,e,n',e'⟩
 ·exact Name_function_global hk hx (loadGlobal_global (hg▸n.keeps hk') e ⟨rfl,rfl⟩) hd
 ·exact Name_function_global hk hx (loadGlobal_builtin (hg▸n.keeps hk') e (hb▸n'.keeps hk') e' ⟨rfl,rfl⟩) hd
theorem jX {C:Cx} (W:G1 C) {A:Around} {E:Value→Shared→Prop} {s:Shared} {env:Env} {n:Str} {p1 p2 pos:Pos} {m:Str→Option Value} {y:Str} {t:Tok} {Q:Value→Shared→Prop} (hk:env.scope.kind=.function) (hg:env.globals=mainGlobals) (hb:env.builtins=builtinsNs)
  (hx:env.kindOf "len" = some .globalImplicit) (hn:env.kindOf n=some .local) (hns:s.heap.Ns env.locals m) (hm:m n=some (.str y t)) (hy:y.length≤100000) (hk':∀ b o,C.H₀.get? b=some o→s.heap.get? b=some o) (hd:(n == ("__debug__":Str))=false)
  (h:∀ u tk,Q (.int y.length u) {s with toks:=tk}):wpAny (model C.prog C.w) A (eval (.Call (.Name "len" p1) [.Name n p2] [] pos) env) Q E s:=by
 refine Call_Name1 (wpAny_mono (bV W.len hk hg hb hx hk' (by decide)) (fun f s₁ hZ0=>B0 hZ0 fun e1 e2=>?_) fun Z Z e=>e)
 subst e1;subst e2
 refine Calls.callWith_builtin rfl (Calls.evalArgs_plain (Calls.spliced_cons (wpAny_Name (wpAny_loadName_local hk hn hns hm (Calls.spliced_nil ?_)) hd)))
 exact P.len_str (u6 (Nat.le_trans hy (by decide))) (h _ _)
noncomputable def J4 (ps:List (Str × Str)):Nat→Int:=fun j=>((ps.getD j (Str.empty,Str.empty)).1.length:Int)+((ps.getD j (Str.empty,Str.empty)).2.length:Int)
noncomputable def L6 (ps:List (Str × Str)):List (Value × Value):=ps.map fun v=>(.str v.1 0,.str v.2 0)
section
variable {C:Cx} {A:Around} {g:Heap} {fr:Fm} {E:Value→Shared→Prop} {loc:j0} {hp:HP} {x:Addr} {i:Int} {ts:List Addr} {ps:List (Str × Str)} {Q:Value→j0→HP→Prop}
structure I6 (p:HP) (x:Addr) (i:Int) (ts:List Addr) (ps:List (Str × Str)):Prop where
 acc:Y2 p x i (ts.map .ref)
 len:ts.length=ps.length
 at_:∀ (k:Nat) (T:Addr) (v:Str × Str),ts[k]?=some T→ps[k]?=some v→p T=some (.tuple [.str v.1 0,.str v.2 0])
theorem I6.strs {p:HP} (h:I6 p x i ts ps):∀ (k:Nat) (T:Addr) (v:Value × Value),ts[k]?=some T→(L6 ps)[k]?=some v→p T=some (.tuple [v.1,v.2]):=fun k T v e1 e2=>by
 unfold L6 at e2
 rw [List.getElem?_map] at e2
 refine z0 (Option.map_eq_some_iff.mp e2) fun w hw hR0=>?_;subst hR0
 exact h.at_ k T w e1 hw
theorem FO (W:G1 C) (AW:K6 C) (A2:t7 C) (hroom:A.depth+1 < recursionLimit) (hh:A.handled=none) (hx:I6 hp x i ts ps) (hP:hp 113=some O2) (hy:∀ v∈ps,v.1.length≤100000∧v.2.length≤100000)
  (h:Q (.int (i+preSum (J4 ps) ps.length) 0) loc hp):M0 C A g fr E (.ref 118) [.ref x] [] loc hp Q:=I3 fun v hv=>by
 refine z0 (AW.K) fun K X AK=>?_
 refine o0 (AW.fLen) fun pm F=>?_
 have hln:ts.length=(L6 ps).length:=by unfold L6;rw [List.length_map];exact hx.len
 refine mR F rfl rfl W.lim (by exact S7 hroom) (binds:=[("self",v)]) (fun s hk=>kp_binds E5 fun S=>by rfl) (by rfl) rfl rfl (by rfl) fun g' L E' hF=>?_
 dsimp only [X1]
 simp only [hv]
 clear F
 refine fy (fz ?_)
 refine Ew X AK W A2.bi (P:=113) (c:=117) rfl A2.cLen hF ?hh ?room hx.acc hx.strs hln hP ?a1 ?a2 ?a3 ?a4 ?a5 ?a6 ?a7 ?a8 ?a9 ?b1 ?b2 ?b3 ?b4 (J4 ps) ?e ?q
 case hh=>exact hh
 case room=>show A.depth+1 < _;exact bk hroom
 case a1=>rfl
 case a2=>decide
 case a3=>decide
 case a4=>rfl
 case a5=>rfl
 case a6=>rfl
 case a7=>decide
 case a8=>rfl
 case a9=>exact bK
 case b1=>decide
 case b2=>decide
 case b3=>rfl
 case b4=>with_unfolding_all rfl
 case e=>
  intro Cg code A' E₂ j va vb s₂ m₂ v hA hj h1 h2 hns e1 e2 hk
  unfold L6 at hj
  rw [List.getElem?_map] at hj
  refine z0 (Option.map_eq_some_iff.mp hj) fun w hw hR0=>?_;subst hR0
  refine o0 (w4 h1) fun t1 hR0=>?_;subst hR0
  refine o0 (w4 h2) fun t2 hR0=>?_;subst hR0
  refine B0 (hy w (List.mem_of_getElem? hw)) fun hy1 hy2=>?_
  have ew:ps.getD j (Str.empty,Str.empty)=w:=by rw [List.getD_eq_getElem?_getD,hw];rfl
  simp only [eval_BinOp]
  refine wpAny_bind (jX W rfl rfl rfl (by rfl) (by rfl) hns e1 hy1 hk (by decide) fun u tk=>?_)
  refine wpAny_bind (wpAny_holding (jX W rfl rfl rfl (by rfl) (by rfl) (s:={s₂ with toks:=tk}) hns e2 hy2 hk (by decide) fun u' tk'=>?_))
  refine wpAny_bind (wpAny_standAt (fK (add_int ?_)))
  have es:(w.1.length:Int)+(w.2.length:Int)=J4 ps j:=by unfold J4;rw [ew]
  exact ⟨⟨_,congrArg (fun z=>Value.int z _) es⟩,_,_,rfl,fun Z Z e=>e⟩
 case q=>rw [←hln,hx.len];exact h
end
end
section
section
variable {C:Cx} {A:Around} {g:Heap} {fr:Fm} {E:Value→Shared→Prop} {loc:j0} {hp:HP} {x:Addr} {i:Int} {ts:List Addr} {ps:List (Str × Str)} {Q:Value→j0→HP→Prop} {sc:Scope} {ow:Str→Bool}
theorem mu (W:G1 C) (AW:K6 C) (A2:t7 C) (hroom:A.depth+1 < recursionLimit) (hh:A.handled=none) (hx:I6 hp x i ts ps) (hP:hp 113=some O2) (hy:∀ v∈ps,v.1.length≤100000∧v.2.length≤100000)
  (h0:0≤i+preSum (J4 ps) ps.length) (h1:i+preSum (J4 ps) ps.length < 2 ^ 60) (h:Q (.int (i+preSum (J4 ps) ps.length) 0) loc hp):M0 C A g fr E (.builtin "len") [.ref x] [] loc hp Q:=I3 fun v hv=>by
 have:=Q0 hv;subst this
 refine z0 (AW.K) fun K X AK=>?_
 intro s R S
 refine V4 (R.acc hx.acc) fun d hh1 t u ep vs nn zr0=>w5 zr0 fun e1 e2 e3 I h2 h3=>?_
 refine Calls.call_function_entry kind_len plain_len entry_len (args_len1 _) ?_
 unfold Builtin.«len»
 refine wpAny_bind (m:=oneArg "len" _) (wpAny_pure ?_)
 have fn:=FO (A:=A.in1) (g:=g) (fr:=fr) (E:=E) (loc:=loc) (hp:=hp) (Q:=fun v l p=>v=.int (i+preSum (J4 ps) ps.length) 0∧l=loc∧p=hp) W AW A2 hroom hh hx hP hy ⟨rfl,rfl,rfl⟩ [.ref x] [] rfl rfl
 refine wpAny_bind (m:=callSpecial? (.ref x) (Str.ofString "__len__")) (special_fn (R.K X) I AK.len (AK.tf 118 (by decide)) (wpAny_mono (fn s R S) (fun r s' hZ0=>ci hZ0 fun S' l p R' e el ep=>?_) fun Z Z y=>y))
 subst el;subst ep
 refine o0 (S0 e) fun t' hR0=>?_;subst hR0
 refine wpAny_bind (wpAny_holding (wpAny_pure ?_))
 refine wpAny_bind (wpAny_letGo ?_)
 show wpAny _ _ (if i+preSum (J4 ps) ps.length < 0 then _ else _) _ _ _
 rw [if_neg (by exact xw h0)]
 show wpAny _ _ (if i+preSum (J4 ps) ps.length≥2 ^ 63 then _ else _) _ _ _
 rw [if_neg (Int.not_le.mpr (Int.lt_trans h1 (by decide)))]
 exact wpAny_bind (wpAny_mkInt (wpAny_pure ⟨_,rfl,S',l,p,R',h⟩))
noncomputable def U7 (v:Str × Str):Str:=Txt.join Str.empty [v.1,v.2]
noncomputable def P6 (ps:List (Str × Str)):Str:=Txt.join Str.empty (ps.map U7)
theorem zk (v:Str × Str):(U7 v).length≤v.1.length+v.2.length:=by
 have e:Txt.join Str.empty [v.1,v.2]=Str.join Str.empty [v.1,v.2]:=beq_iff_eq.mp (join_plain_closes _ _)
 have:=StrLaws.join_length_le Str.empty [v.1,v.2]
 unfold U7
 rw [e]
 have e0:Str.empty.length=0:=rfl
 rw [e0] at this
 simpa using this
theorem fZ (M:Nat):∀ l:List Str,(∀ y∈l,y.length≤M)→(l.map (·.length)).sum≤l.length*M
 | [],_=>by exact Nat.zero_le _
 | a::l,h=>by
  have h1:=h a (.head _)
  have h2:=fZ M l fun y hy=>h y (.tail _ hy)
  simp only [List.map_cons,List.sum_cons,List.length_cons,Nat.add_mul,Nat.one_mul]
  exact xv h1 h2
theorem Cl (W:G1 C) (A2:t7 C) {s:Shared} {env:Env} {n1 n2:Str} {p1 ap p2 p3 tp pos:Pos} {k} {m:Str→Option Value} {y1 y2:Str} {t1 t2:Tok} {Q:Value→Shared→Prop} (hk:env.scope.kind=.function) (hg:env.globals=mainGlobals) (hb:env.builtins=builtinsNs)
  (hx:env.kindOf "EMPTYSTRING" = some .globalImplicit) (hn1:env.kindOf n1=some .local) (hn2:env.kindOf n2=some .local) (hns:s.heap.Ns env.locals m) (hm1:m n1=some (.str y1 t1)) (hm2:m n2=some (.str y2 t2)) (hy1:y1.length≤100000) (hy2:y2.length≤100000)
  (hk':∀ b o,C.H₀.get? b=some o→s.heap.get? b=some o) (hd1:(n1 == ("__debug__":Str))=false) (hd2:(n2 == ("__debug__":Str))=false) (hbase:attributeBase (.Name "EMPTYSTRING" p1) "join" env (eval (.Name "EMPTYSTRING" p1) env)=eval (.Name "EMPTYSTRING" p1) env) (hline:(ap.endLine == pos.line)=true)
  (h:∀ u tk h',(∀ b o,s.heap.get? b=some o→h'.get? b=some o)→Q (.str (U7 (y1,y2)) u) {s with heap:=h',toks:=tk}) :
  wpAny (model C.prog C.w) A (eval (.Call (.Attribute (.Name "EMPTYSTRING" p1) "join" ap) [.Tuple [.Name n1 p2,.Name n2 p3] k tp] [] pos) env) Q E s:=by
 refine o0 (A2.gEmpty) fun te hG=>?_
 refine wpAny_Call_method_lateS hbase rfl hline (wpAny_mono (bV hG hk hg hb hx hk' (by decide)) (fun ov s₁ hZ0=>B0 hZ0 fun e1 e2=>?_) fun Z Z e=>e)
 subst e1;subst e2
 refine ⟨"str","str.join",F.plainAttrs_str,F.slot_str_join,F.type_str_join,typeIs_str _ _ _,(fun Z e=>nomatch e),?_⟩
 refine Calls.callWith_builtin rfl (Calls.evalArgs_plain (Calls.spliced_cons ?_))
 refine wpAny_Tuple (k:=k) (Calls.spliced_cons (wpAny_Name (wpAny_loadName_local hk hn1 hns hm1 (Calls.spliced_cons (wpAny_Name (wpAny_loadName_local hk hn2 hns hm2 (Calls.spliced_nil ⟨(by simp only [sizeLine_eq];simp),Calls.spliced_nil ?_⟩)) hd2))) hd1))
 refine join_tuple (ys:=[y1,y2]) ⟨_,Heap.get?_push_size _ rfl,rfl,_,rfl⟩ (.cons y1 t1 (.cons y2 t2 .nil)) ?_ fun t' k=>h t' k _ fun b o e=>Heap.get?_push_of_some _ e
 show y1.length+(y2.length+0)+2*0≤_
 exact xu hy1 hy2
theorem FK (W:G1 C) (AW:K6 C) (A2:t7 C) (hroom:A.depth+1 < recursionLimit) (hh:A.handled=none) (hx:I6 hp x i ts ps) (hP:hp 120=some O2) (hy':∀ v∈ps,v.1.length≤1000∧v.2.length≤1000) (hn:ps.length≤1000)
  (h:Q (.str (P6 ps) 0) loc hp):M0 C A g fr E (.ref 125) [.ref x] [] loc hp Q:=I3 fun v hv=>by
 refine z0 (AW.K) fun K X AK=>?_
 refine o0 (AW.fStr) fun pm F=>?_
 refine o0 (A2.gEmpty) fun te hG=>?_
 have hln:ts.length=(L6 ps).length:=by unfold L6;rw [List.length_map];exact hx.len
 refine mR F rfl rfl W.lim (by exact S7 hroom) (binds:=[("self",v)]) (fun s hk=>kp_binds E5 fun S=>by rfl) (by rfl) rfl rfl (by rfl) fun g' L E' hF=>?_
 dsimp only [X1]
 simp only [hv]
 clear F
 refine fy (fz ?_)
 intro s R S
 have hk':∀ b o,C.H₀.get? b=some o→s.heap.get? b=some o:=fun b o e=>R.keep b o (R.base b o e)
 refine wpAny_Call_method_lateS (by with_unfolding_all rfl) rfl (by rfl) (wpAny_mono (bV hG rfl rfl rfl (by rfl) hk' (by decide)) (fun ov s₁ hZ0=>B0 hZ0 fun e1 e2=>?_) fun Z Z e=>e)
 subst e1;subst e2
 refine ⟨"str","str.join",F.plainAttrs_str,F.slot_str_join,F.type_str_join,typeIs_str _ _ _,(fun Z e=>nomatch e),?_⟩
 refine Calls.callWith_builtin rfl (Calls.evalArgs_plain (Calls.spliced_cons ?_))
 refine kW X AK W A2.bi (P:=120) (c:=124) rfl A2.cStr hF ?hh ?room hx.acc hx.strs hln hP ?a1 ?a2 ?a3 ?a4 ?a5 ?a6 ?a7 ?a8 ?a9 ?b1 ?b2 (fun j y=>∃ t,y=.str (U7 (ps.getD j (Str.empty,Str.empty))) t) ?e s₁ R S ?q
 case hh=>exact hh
 case room=>show A.depth+1 < _;exact bk hroom
 case a1=>rfl
 case a2=>decide
 case a3=>decide
 case a4=>rfl
 case a5=>rfl
 case a6=>rfl
 case a7=>decide
 case a8=>rfl
 case a9=>exact bK
 case b1=>decide
 case b2=>decide
 case e=>
  intro Cg code A' E₂ j va vb s₂ m₂ v hA hj h1 h2 hns e1 e2 hk
  unfold L6 at hj
  rw [List.getElem?_map] at hj
  refine z0 (Option.map_eq_some_iff.mp hj) fun w hw hR0=>?_;subst hR0
  refine o0 (w4 h1) fun t1 hR0=>?_;subst hR0
  refine o0 (w4 h2) fun t2 hR0=>?_;subst hR0
  refine B0 (hy' w (List.mem_of_getElem? hw)) fun hy1 hy2=>?_
  have ew:ps.getD j (Str.empty,Str.empty)=w:=by rw [List.getD_eq_getElem?_getD,hw];rfl
  rw [ew]
  exact Cl W A2 rfl rfl rfl (by rfl) (by rfl) (by rfl) hns e1 e2 (by exact q9 hy1) (by exact q9 hy2) hk (by decide) (by decide) (by with_unfolding_all rfl) (by rfl) fun u tk h' hk=>⟨⟨u,rfl⟩,_,_,rfl,hk⟩
 case q=>
  intro a s₅ wr fp St WS hst hfp haf hT hk hfin
  refine Calls.spliced_nil ?_
  refine SC.joinGen (WS.of_in1.of_in1) hT hst hfp haf (fun j v hZ0=>o0 hZ0 fun t e=>⟨_,t,e⟩) (fun s' l hm hl=>?_) ?_
  ·have hl':l.map (·.1)=ps.map U7:=by
    refine B0 hl fun hl1 hl2=>?_;try clear hl
    have hlen:l.length=ps.length:=by
     have:(strValues l).toArray.size=(L6 ps).length:=hl1
     unfold strValues L6 at this
     simpa using this
    apply List.ext_getElem?
    intro j
    simp only [List.getElem?_map,List.getElem?_map]
    rcases Nat.lt_or_ge j l.length with q | q
    ·have q':j < ps.length:=by exact q1 hlen q
     simp only [List.getElem?_eq_getElem q,List.getElem?_eq_getElem q']
     refine o0 (hl2 j (.str l[j].1 l[j].2) (by unfold strValues;simp [q])) fun t e=>?_
     injection e with e _
     simp only [Option.map_some]
     simp only [e,List.getD_eq_getElem?_getD,List.getElem?_eq_getElem q'];rfl
    ·rw [List.getElem?_eq_none q,List.getElem?_eq_none (by exact jr hlen q)];rfl
   refine B0 (hfin s' hm) fun S₆ R₆=>?_
   rw [hl']
   refine ⟨joinOk_of ?_,fun t' k=>⟨S₆,_,hp,R₆,h⟩⟩
   have hb:∀ y∈ps.map U7,y.length≤2000:=fun y hy=>by
    refine z0 (List.mem_map.mp hy) fun v hv hR0=>?_;subst hR0
    have:=zk v
    refine B0 (hy' v hv) fun h1 h2=>?_
    exact xt h1 h2 this
   have h1:=fZ 2000 _ hb
   have e0:Str.empty.length=0:=rfl
   rw [List.length_map] at h1
   simp only [e0,Nat.mul_zero]
   exact xr hn h1
  ·simp only [←hln,hx.len,sizeLine_eq];exact Y9 hn
end
end
section
noncomputable def R4 (ps:List (Str × Str)):Int:=preSum (J4 ps) ps.length
noncomputable def O6 (head:Int) (ps:List (Str × Str)) (it:Int × Str):List (Str × Str):=ps++[(G3 (it.1+head - (head+R4 ps)) 32,it.2)]
noncomputable def bF (st:List Int) (ps:List (Str × Str)) (lo:Int) (part:Str):List (Int × Str):=(lo,part)::((st.drop (C2 st lo)).zip (ps.drop (C2 st lo))).map fun z=>(z.1,z.2.2)
noncomputable def bA (head:Int) (st:List Int) (ps:List (Str × Str)) (lo:Int) (part:Str):List (Str × Str):=(bF st ps lo part).foldl (O6 head) (ps.take (C2 st lo))
theorem jA {f g:Nat→Int}:∀ {n:Nat},(∀ j,j < n→f j=g j)→preSum f n=preSum g n
 | 0,_=>rfl
 | n+1,h=>by
  have e1:preSum f (n+1)=preSum f n+f n:=rfl
  have e2:preSum g (n+1)=preSum g n+g n:=rfl
  simp only [e1,e2,jA fun j hj=>h j (by exact dD hj),h n (by exact bj)]
theorem cP {ps:List (Str × Str)} {v:Str × Str}:R4 (ps++[v])=R4 ps+((v.1.length:Int)+v.2.length):=by
 unfold R4
 simp only [List.length_append]
 show preSum (J4 (ps++[v])) (ps.length+1)=_
 have e1:preSum (J4 (ps++[v])) (ps.length+1)=preSum (J4 (ps++[v])) ps.length+J4 (ps++[v]) ps.length:=rfl
 simp only [e1]
 congr 1
 ·refine jA fun j hj=>?_
  unfold J4
  rw [List.getD_eq_getElem?_getD,List.getD_eq_getElem?_getD,List.getElem?_append_left hj]
 ·unfold J4
  rw [List.getD_eq_getElem?_getD,List.getElem?_append_right (Nat.le_refl _),Nat.sub_self];rfl
theorem jB {f:Nat→Int} {M:Int}:∀ {n:Nat},(∀ j,j < n→0≤f j∧f j≤M)→0≤preSum f n∧preSum f n≤M*n
 | 0,_=>⟨Int.le_refl _,by simp [preSum]⟩
 | n+1,h=>by
  have e1:preSum f (n+1)=preSum f n+f n:=rfl
  refine B0 (jB (n:=n) (f:=f) (M:=M) fun j hj=>h j (by exact dD hj)) fun a b=>?_
  refine B0 (h n (by exact bj)) fun c d=>?_
  rw [e1]
  push_cast
  simp only [Int.mul_add,Int.mul_one]
  exact xq a c b d
theorem oz {ps:List (Str × Str)} (hy:∀ v∈ps,v.1.length≤100∧v.2.length≤100):0≤R4 ps∧R4 ps≤200*ps.length:=by
 refine jB fun j hj=>?_
 unfold J4
 rw [List.getD_eq_getElem?_getD,List.getElem?_eq_getElem hj]
 refine B0 (hy _ (List.getElem_mem hj)) fun h1 h2=>?_
 simp only [Option.getD_some]
 exact xp h1 h2
theorem Y8 {n:Int} {c:Nat}:(G3 n c).length=n.toNat:=by
 unfold G3
 show Array.size _=_
 exact List.length_replicate ..
section
variable {C:Cx} {A:Around} {g:Heap} {fr:Fm} {E:Value→Shared→Prop} {loc:j0} {hp:HP} {x:Addr} {i:Int} {Q:Value→j0→HP→Prop}
theorem Cn (hh:A.handled=none) {β:Type} {l:List β} {F G:β→Value} {l1 l2:Addr} {x y:Str} {px py pos:Pos} {k} {K:List (List Value)→(HP→Prop)→j0→HP→Prop} (hl1:hp l1=some (.list (l.map F))) (hl2:hp l2=some (.list (l.map G)))
  (h:K (l.map fun v=>[F v,G v]) (fun p=>p l1=some (.list (l.map F))∧p l2=some (.list (l.map G))) loc hp) :
  M0 C A g fr E (.type "zip") [.ref l1,.ref l2] [] loc hp fun v l p=>i3 C A (.Tuple [.Name x px,.Name y py] k pos) [x,y] v l p K:=kH hh hl1 hl2 (by
 simp only [List.zip_map',List.map_map];exact h)
theorem Co (hh:A.handled=none) {β:Type} {xs:List β} {f1 f2:β→Value} {a:Addr} {ts:List Addr} {x y:Str} {px py pos:Pos} {k} {K:List (List Value)→(HP→Prop)→j0→HP→Prop} (ha:hp a=some (.list (ts.map .ref)))
  (hln:ts.length=xs.length) (hts:∀ (i:Nat) (T:Addr) (v:β),ts[i]?=some T→xs[i]?=some v→hp T=some (.tuple [f1 v,f2 v]))
  (h:∀ need:HP→Prop,(∀ p',p' a=some (.list (ts.map .ref))→(∀ T∈ts,∀ o,hp T=some o→p' T=some o)→need p')→K (xs.map fun v=>[f1 v,f2 v]) need loc hp) :
  i3 C A (.Tuple [.Name x px,.Name y py] k pos) [x,y] (.ref a) loc hp K:=by
 have hts':∀ (p:HP),(∀ T∈ts,∀ o,hp T=some o→p T=some o)→∀ (i:Nat) (T:Addr) (v:Value × Value),ts[i]?=some T→(xs.map fun v=>(f1 v,f2 v))[i]?=some v→p T=some (.tuple [v.1,v.2]):=fun p hs i T v e1 e2=>by
  rw [List.getElem?_map] at e2
  refine z0 (Option.map_eq_some_iff.mp e2) fun w hw hR0=>?_;subst hR0
  exact hs _ (List.mem_of_getElem? e1) _ (hts i T w e1 hw)
 exact eJ (C:=C) (loc:=loc) (x:=x) (y:=y) (px:=px) (py:=py) (pos:=pos) (k:=k) (K:=K) hh (ps:=xs.map fun v=>(f1 v,f2 v)) ha (by rw [List.length_map];exact hln) (hts' hp fun Z Z Z e=>e)
  (by
   simp only [List.map_map]
   exact h _ fun p' ha' hs=>⟨ha',by rw [List.length_map];exact hln,hts' p' hs⟩)
theorem fJ {β γ δ:Type} {f:β→δ→Int × Str}:∀ (A:List β) (B:List γ) (D:List δ),A.length=B.length→B.length=D.length→((A.zip (B.zip D)).map fun z=>f z.1 z.2.2)=(A.zip D).map fun z=>f z.1 z.2
 | [],_,_,_,_=>rfl
 | a::A,[],_,h,_=>by cases h
 | a::A,b::B,[],_,h=>by cases h
 | a::A,b::B,d::D,h1,h2=>by
  have:=fJ (f:=f) A B D (by simpa using h1) (by simpa using h2)
  simp only [List.zip_cons_cons,List.map_cons,this]
theorem zE {f a1 a2 a3 a4 a5:Value} (h:∀ v1 v2 v3 v4 v5,nm v1=a1→nm v2=a2→nm v3=a3→nm v4=a4→nm v5=a5→w0 C A g fr E (call f [v1,v2,v3,v4,v5] []) loc hp Q):M0 C A g fr E f [a1,a2,a3,a4,a5] [] loc hp Q:=fun vs kw hv hk=>mc vs hv fun v0 vs h0 hv=>mc vs hv fun v1 vs h1 hv=>mc vs hv fun v2 vs h2 hv=>mc vs hv fun v3 vs h3 hv=>mc vs hv fun v4 vs h4 hv=>mn vs hv (mn kw hk (h v0 v1 v2 v3 v4 h0 h1 h2 h3 h4))
theorem Ai (W:G1 C) (AW:K6 C) (A2:t7 C) {sa sp:Addr} {ts:List Addr} {ps:List (Str × Str)} {st:List Int} {lo hi:Nat} {head:Int} {c:Nat}
  (hroom:A.depth+3 < recursionLimit) (hh:A.handled=none) (hx:I6 hp x head ts ps) (hsa:hp sa=some (.list (st.map iv))) (hsp:hp sp=some (.tuple [iv lo,iv hi])) (hP:hp 113=some O2) (hlen:st.length=ps.length) (hsz:ps.length≤50)
  (hsort:st.Pairwise (·≤·)) (hst:∀ v∈st,0≤v∧v≤100) (hy:∀ v∈ps,v.1.length≤100∧v.2.length≤100) (hlt:lo < hi) (hhi:hi≤100) (hhead:0≤head∧head≤100)
  (h:∀ ts' p',I6 p' x head ts' (bA head st ps lo (G3 ((hi:Int) - lo) c))→p' sa=some (.list ((S3 st (C2 st lo) lo).map iv))→(∀ b o,b≠x→b≠sa→hp b=some o→p' b=some o)→Q .none loc p') :
  M0 C A g fr E (.ref 175) [.ref x,.ref sa,.ref sp,.str ⟨#[c]⟩ 0,iv head] [] loc hp Q:=zE fun v1 v2 v3 v4 v5 q1 q2 q3 q4 q5=>by
 refine z0 (AW.K) fun K X AK=>?_
 refine o0 (W.fPlace) fun pm F=>?_
 have hgR:=W.gR
 have hgIR:=W.gIR
 have hlenG:=W.len
 have hzip:=W.zip
 refine o0 (W.fR) fun pmR FR=>?_
 refine o0 (W.fIR) fun pmIR FIR=>?_
 refine X4 F rfl rfl W.lim (by exact xo hroom) (binds:=[("line",v1),("starts",v2),("span",v3),("sign",v4),("head",v5)]) (fun s hk=>kp_binds E5 fun S=>by rfl) (by rfl) rfl rfl (by rfl) fun A' g' fr' E' hd hu' hh' hF=>?_
 rw [hh] at hh'
 dsimp only [X1]
 simp only [q1,q2,q3,q4,q5]
 clear F
 refine Y1 ?_
 repeat' walk_at "kl"
 refine fv W (by exact dC hroom hd) hsa (by exact jj hsz hlen) hsort ?_
 have hkl:C2 st lo≤ps.length:=by rw [←hlen];exact List.countP_le_length
 generalize hkdef:C2 st (lo:Int)=k at hkl ⊢
 repeat' walk_at "kl"
 refine ⟨_,em X AK hx.acc AK.popf (by decide) (fun Z Z Z Z=>by rfl),?_⟩
 refine o0 (AW.fPop) fun pmP FP=>?_
 repeat' walk_at "kl"
 refine ⟨bN FP,zh W AW (by exact dC hroom hd) hx.acc (by rw [List.length_map,hx.len];exact ji hsz) (by simp only [List.length_map,hx.len];exact hkl) fun c₁ p₁ hc1 hc2 hacc1 hkeep1=>?_⟩
 have hxsa:sa≠x:=by rintro rfl;refine z0 (hx.acc) fun d e Z=>?_;rw [hsa] at e;exact R3 e
 have hxsp:sp≠x:=by rintro rfl;refine z0 (hx.acc) fun d e Z=>?_;rw [hsp] at e;exact R3 e
 have hx113:(113:Addr)≠x:=by rintro rfl;refine z0 (hx.acc) fun d e Z=>?_;rw [hP] at e;exact R3 e
 have hsa1:=hkeep1 sa _ hxsa hsa
 have hsp1:=hkeep1 sp _ hxsp hsp
 have hP1:=hkeep1 113 _ hx113 hP
 repeat' walk_at "kl"
 refine ⟨sa,_,rfl,hsa1,by rw [List.length_map];exact xn hsz hlen,fun c₂ hc₂=>?_⟩
 have hlts:ts.length=ps.length:=hx.len
 obtain ⟨L,hLdef⟩:∃ L,L=(st.drop k).zip ((ts.drop k).zip (ps.drop k)):=⟨_,rfl⟩
 have e1:W2 (st.map iv) (some (k:Int)) none=L.map fun z=>iv z.1:=by
  rw [cX (by rw [List.length_map];exact bl hkl hlen),←List.map_drop,hLdef]
  have:((st.drop k).zip ((ts.drop k).zip (ps.drop k))).map Prod.fst=st.drop k:=List.map_fst_zip (by simp;exact xk hlen hlts)
  conv=>lhs;rw [←this]
  rw [List.map_map];rfl
 have e2:(ts.map Value.ref).drop k=L.map fun z=>.ref z.2.1:=by
  rw [←List.map_drop,hLdef]
  have h1:((st.drop k).zip ((ts.drop k).zip (ps.drop k))).map Prod.snd=(ts.drop k).zip (ps.drop k):=List.map_snd_zip (by simp;exact xh hlen)
  have h2:((ts.drop k).zip (ps.drop k)).map Prod.fst=ts.drop k:=List.map_fst_zip (by simp;exact xg hlts)
  conv=>lhs;rw [←h2,←h1]
  rw [List.map_map,List.map_map];rfl
 simp only [e1]
 rw [e2] at hc2
 have hLlen:L.length≤50:=by rw [hLdef];simp;exact xf hsz
 have hLz:∀ z∈L,p₁ z.2.1=some (.tuple [.str z.2.2.1 0,.str z.2.2.2 0])∧0≤z.1∧z.1≤100∧z.2.2.2.length≤100:=fun z hz=>by
  refine o0 (List.mem_iff_getElem?.mp hz) fun j hj=>?_
  rw [hLdef] at hj
  have hj1:=List.getElem?_zip_eq_some.mp hj
  have hj2:=List.getElem?_zip_eq_some.mp hj1.2
  rw [List.getElem?_drop] at hj1
  rw [List.getElem?_drop,List.getElem?_drop] at hj2
  have ht:=hx.at_ _ _ _ hj2.1 hj2.2
  refine ⟨hkeep1 _ _ (by rintro e;rw [e] at ht;refine z0 (hx.acc) fun d e' Z=>?_;rw [ht] at e';exact R3 e') ht,?_⟩
  have h1:=hst _ (List.mem_of_getElem? hj1.1)
  have h2:=hy _ (List.mem_of_getElem? hj2.2)
  exact ⟨h1.1,h1.2,h2.2⟩
 repeat' walk_at "kl"
 refine m9 (Cn hh' (s0 _ _ _) (E1 hc₂ hc2) ?zz) fun v l p hz=>Q8 L (fun z=>[iv z.1,.ref z.2.1]) (fun z=>.tuple [iv z.1,.str z.2.2.2 0]) hz
 case zz=>
  refine ⟨rfl,by exact xe hLlen,fun p' hs=>⟨hs _ _ (s0 ..),hs _ _ (E1 hc₂ hc2)⟩,?elt,?done⟩
  case elt=>
   intro z hz g₃ fr₃ E₃ p₃ hF₃ hs₃
   have hz1:=hs₃ _ _ (m0.set hc₂ _ _ (hLz z hz).1)
   dsimp only [W0,K0]
   repeat' walk_at "kl"
   exact ⟨by simp,fun T hT=>⟨rfl,T,rfl,hT,m0.set hT,s0 ..⟩⟩
  case done=>
   intro D nts p₂ hnl hnn hnt hn0 hs₂ hD
   have hs13:m0 p₁ (k0 p₂ D (.list (nts.map .ref))):=(m0.set hc₂).trans (hs₂.trans (m0.set hD))
   have hD3:=s0 p₂ D (.list (nts.map .ref))
   have hnt3:∀ (j:Nat) (T:Addr) (z:Int × Addr × Str × Str),nts[j]?=some T→L[j]?=some z→k0 p₂ D (.list (nts.map .ref)) T=some (.tuple [iv z.1,.str z.2.2.2 0]):=fun j T z a b=>E1 hD (hnt j T z a b)
   generalize k0 p₂ D (.list (nts.map .ref))=p₃ at hs13 hD3 hnt3 ⊢
   have hsp3:=hs13 _ _ hsp1
   repeat' walk_at "kl"
   refine jF (by exact xd hlt) (by exact xc hhi) ?_
   repeat' walk_at "kl"
   refine ⟨by simp,fun T0 hT0=>?_⟩
   repeat' walk_at "kl"
   refine ⟨by simp,fun D0 hD0=>?_⟩
   repeat' walk_at "kl"
   refine ae (s0 _ _ _) (E1 hD0 (E1 hT0 hD3)) (by simp;exact wZ hLlen hnl) fun D1 hD1=>?_
   have hT04:k0 (k0 (k0 p₃ T0 (.tuple [iv lo,.str (G3 ((hi:Int) - lo) c) 0])) D0 (.list [.ref T0])) D1 (.list ([.ref T0]++nts.map .ref)) T0=some (.tuple [iv lo,.str (G3 ((hi:Int) - lo) c) 0]):=E1 hD1 (E1 hD0 (s0 ..))
   have hD14:=s0 (k0 (k0 p₃ T0 (.tuple [iv lo,.str (G3 ((hi:Int) - lo) c) 0])) D0 (.list [.ref T0])) D1 (.list ([.ref T0]++nts.map .ref))
   have hs34:m0 p₃ (k0 (k0 (k0 p₃ T0 (.tuple [iv lo,.str (G3 ((hi:Int) - lo) c) 0])) D0 (.list [.ref T0])) D1 (.list ([.ref T0]++nts.map .ref))):=(m0.set hT0).trans ((m0.set hD0).trans (m0.set hD1))
   have eT:[Value.ref T0]++nts.map Value.ref=(T0::nts).map Value.ref:=rfl
   rw [eT] at hT04 hD14 hs34 ⊢
   generalize k0 (k0 (k0 p₃ T0 (.tuple [iv lo,.str (G3 ((hi:Int) - lo) c) 0])) D0 (.list [.ref T0])) D1 (.list ((T0::nts).map .ref))=p₄ at hT04 hD14 hs34 ⊢
   have hs14:=hs13.trans hs34
   obtain ⟨items,hitems⟩:∃ items,items=bF st ps lo (G3 ((hi:Int) - lo) c):=⟨_,rfl⟩
   have hit2:items=((lo:Int),G3 ((hi:Int) - lo) c)::L.map fun z=>(z.1,z.2.2.2):=by
    simp only [hitems,hLdef]
    unfold bF
    rw [hkdef,fJ (f:=fun a (d:Str × Str)=>(a,d.2)) _ _ _ (by simp;exact wY hlen hlts) (by simp;exact wX hlts)]
   have hitlen:items.length≤51:=by rw [hit2];simp;exact wW hLlen
   have hitb:∀ v∈items,0≤v.1∧v.1≤100∧v.2.length≤100:=fun v hv=>by
    rw [hit2] at hv
    rcases List.mem_cons.mp hv with e | hv
    ·rw [e,Y8];simp only;exact wV hlt hhi
    ·refine z0 (List.mem_map.mp hv) fun z hz hR0=>?_;subst hR0
     exact (hLz z hz).2
   have hx4:∀ {b:Addr} {o:AO},p₄ b=some o→(∀ d xs,o≠.acc 151 d xs)→b≠x:=fun e hne=>by
    rintro rfl
    refine z0 hacc1 fun d e' Z=>?_;try clear hacc1
    rw [hs14 _ _ e'] at e;cases e
    exact hne _ _ rfl
   have htup4:∀ (j:Nat) (T:Addr) (v:Int × Str),(T0::nts)[j]?=some T→items[j]?=some v→p₄ T=some (.tuple [iv v.1,.str v.2 0]):=fun j T v a b=>by
    rw [hit2] at b
    cases j with
    | zero=>cases a;cases b;exact hT04
    | succ j=>
     simp only [List.getElem?_cons_succ] at a b
     rw [List.getElem?_map] at b
     refine z0 (Option.map_eq_some_iff.mp b) fun z hz hR0=>?_;subst hR0
     exact hs34 _ _ (hnt3 j T z a hz)
   have hnl':(T0::nts).length=items.length:=by rw [hit2];simp [hnl]
   refine Co hh' (f1:=fun v=>iv v.1) (f2:=fun v=>.str v.2 0) hD14 hnl' htup4 fun need hneed=>⟨fun n l p=>(∀ b o,b≠x→p₄ b=some o→p b=some o)∧l "line" = some (.ref x)∧l "starts" = some (.ref sa)∧l "span" = some (.ref sp)∧l "head" = some (iv head)∧
    ∃ ts',I6 p x head ts' ((items.take n).foldl (O6 head) (ps.take k))∧(∀ v∈(items.take n).foldl (O6 head) (ps.take k),v.1.length≤100∧v.2.length≤100)∧((items.take n).foldl (O6 head) (ps.take k)).length≤k+n,?i0,?need,?turn,?fin⟩
   case i0=>
    refine ⟨fun b o Z e=>e,?_,?_,?_,?_,ts.take k,⟨?_,?_,fun j T v a b=>?_⟩,fun v hv=>hy v (List.mem_of_mem_take hv),by simp;exact wU⟩
    ·walk_at "loc"
    ·walk_at "loc"
    ·walk_at "loc"
    ·walk_at "loc"
    ·have:=hacc1.mono hs14
     rwa [←List.map_take] at this
    ·simp [hlts]
    ·simp only [List.take_zero,List.foldl_nil] at b
     rw [List.getElem?_take] at a b
     split at a
     ·rename_i hj
      rw [if_pos hj] at b
      have ht:=hx.at_ j T v a b
      exact hs14 _ _ (hkeep1 _ _ (by rintro rfl;refine z0 (hx.acc) fun d e Z=>?_;rw [ht] at e;exact R3 e) ht)
     ·exact J0 a
   case need=>
    intro n l p hZ0;refine B0 hZ0 fun hk4 Z=>?_;clear hZ0
    refine hneed p (hk4 _ _ (hx4 hD14 fun d xs e=>by cases e) hD14) fun T hT o e=>?_
    refine o0 (List.mem_iff_getElem?.mp hT) fun j hj=>?_
    have hj':j < items.length:=by rw [←hnl'];exact (List.getElem?_eq_some_iff.mp hj).1
    have:=htup4 j T _ hj (List.getElem?_eq_getElem hj')
    rw [this] at e;cases e
    exact hk4 _ _ (hx4 this fun d xs e=>by cases e) this
   case turn=>
    intro n vs l p g₃ E₃ hvs hZ0;refine lN hZ0 fun hk4 n1 n2 n3 n4 ts' hpile zr0=>B0 zr0 fun hpb hpl=>?_;clear hZ0
    rw [List.getElem?_map] at hvs
    refine z0 (Option.map_eq_some_iff.mp hvs) fun v hv hR0=>?_;subst hR0
    refine V1 (hitb v (List.mem_of_getElem? hv)) fun hv1 hv2 hv3=>?_
    have hn:n < items.length:=(List.getElem?_eq_some_iff.mp hv).1
    have hP4:=hk4 113 _ hx113 (hs14 _ _ hP1)
    generalize hcur:(items.take n).foldl (O6 head) (ps.take k)=cur at hpile hpb hpl
    refine B0 (oz hpb) fun ht0 ht1=>?_
    refine o0 (AW.fPush) fun pmQ FQ=>?_
    dsimp only [W0,K0]
    repeat' walk_at "kl"
    refine ⟨_,em X AK hpile.acc AK.push (by decide) (fun Z Z Z Z=>by rfl),?_⟩
    repeat' walk_at "kl"
    refine mu W AW A2 (by exact jh hroom hd) hh' hpile hP4 (fun w hw=>by have:=hpb w hw;exact jg this) (by show 0≤head+R4 cur;exact wT hhead ht0) (by show head+R4 cur < 2 ^ 60;exact u7 hhead.2 ht1 hpl hkl hsz hn hitlen) ?_
    repeat' walk_at "kl"
    refine jF (by show -100000≤v.1+head - (head+R4 cur);exact wS hv1 hsz hitlen hn hkl hpl ht1) (by show v.1+head - (head+R4 cur)≤100000;exact wR ht0 hv2) ?_
    repeat' walk_at "kl"
    refine ⟨bN FQ,zg W AW (by exact dC hroom hd) hpile.acc (by rw [List.length_map,hpile.len];exact wQ hsz hitlen hn hkl hpl) fun T p' hT1 hT2 hacc' hkp=>⟨rfl,?_⟩⟩
    repeat' walk_at "kl"
    have ecur:(items.take (n+1)).foldl (O6 head) (ps.take k)=cur++[(G3 (v.1+head - (head+R4 cur)) 32,v.2)]:=by
     simp only [List.take_add_one,hv,List.foldl_append,hcur];rfl
    refine ⟨fun b o hb e=>hkp b o hb (hk4 b o hb e),?_,?_,?_,?_,ts'++[T],?_⟩
    ·walk_at "loc"
    ·walk_at "loc"
    ·walk_at "loc"
    ·walk_at "loc"
    ·rw [ecur]
     refine ⟨⟨?_,by simp [hpile.len],fun j U w a b=>?_⟩,fun w hw=>?_,by simp;exact wP hpl⟩
     ·rw [List.map_append];exact hacc'
     ·rcases Nat.lt_or_ge j ts'.length with q | q
      ·rw [List.getElem?_append_left q] at a
       rw [List.getElem?_append_left (by rw [←hpile.len];exact q)] at b
       have ht:=hpile.at_ j U w a b
       exact hkp _ _ (by rintro rfl;refine z0 (hpile.acc) fun d e Z=>?_;rw [ht] at e;exact R3 e) ht
      ·rw [List.getElem?_append_right q] at a
       rw [List.getElem?_append_right (by rw [←hpile.len];exact q)] at b
       have hj0:j - ts'.length=0:=by
        have:=(List.getElem?_eq_some_iff.mp a).1
        simp at this;exact dO this
       rw [hj0] at a
       rw [←hpile.len,hj0] at b
       cases a;cases b
       exact hT2
     ·rcases List.mem_append.mp hw with h | h
      ·exact hpb w h
      ·rcases List.mem_singleton.mp h with rfl
       refine ⟨?_,hv3⟩
       rw [Y8]
       exact wO ht0 hv2
   case fin=>
    intro l p g₃ E₃ hZ0;refine lN hZ0 fun hk4 n1 n2 n3 n4 ts' hpile zr0=>B0 zr0 fun hpb hpl=>?_;clear hZ0
    rw [List.length_map,List.take_length] at hpile
    have hsa4:=hk4 sa _ hxsa (hs14 _ _ hsa1)
    have hsp4:=hk4 sp _ hxsp (hs14 _ _ hsp1)
    repeat' walk_at "kl"
    refine kM W (by exact jh hroom hd) hsa4 (by exact jj hsz hlen) hsort ⟨rfl,?_⟩
    simp only [eM,hkdef]
    repeat' walk_at "kl"
    have hpl2:I6 (k0 p sa (.list ((S3 st k lo).map iv))) x head ts' (items.foldl (O6 head) (ps.take k)):=by
     refine ⟨?_,hpile.len,fun j U w a b=>?_⟩
     ·refine z0 (hpile.acc) fun d a1 a2=>?_
      refine ⟨d,by rw [H0 _ _ hxsa.symm];exact a1,by rw [H0 _ _ (by rintro rfl;rw [hsa4] at a2;cases a2)];exact a2⟩
     ·have ht:=hpile.at_ j U w a b
      rw [H0 _ _ (by rintro rfl;rw [hsa4] at ht;cases ht)];exact ht
    refine h ts' _ ?_ ?_ fun b o hb1 hb2 e=>?_
    ·unfold bA
     simp only [hkdef,←hitems]
     exact hpl2
    ·rw [hkdef];exact s0 ..
    ·rw [H0 _ _ hb2]
     exact hk4 b o hb1 (hs14 _ _ (hkeep1 b o hb1 e))
end
end
section
noncomputable def cM (C:Cx) (hp:HP) (kf:Addr) (T:Value) (x:Int):Prop:=∀ {A:Around} {g:Heap} {fr:Fm} {E:Value→Shared→Prop} {loc:j0} {Q:Value→j0→HP→Prop},A.depth < recursionLimit→Q (iv x) loc hp→M0 C A g fr E (.ref kf) [T] [] loc hp Q
structure aH (C:Cx) (hp:HP) (kf:Addr) (ts:List Value) (xs:List Int):Prop where
 obj:∃ o fd,hp kf=some (.obj o)∧o.data=.func fd
 len:ts.length=xs.length
 at_:∀ (i:Nat) (T:Value) (x:Int),ts[i]?=some T→xs[i]?=some x→cM C hp kf T x
theorem aP {a:Addr}:¬((Value.ref a == Value.none)=true):=fun h=>by exact Y5 h
theorem gc {C:Cx} {A:Around} {g:Heap} {fr:Fm} {E:Value→Shared→Prop} {loc:j0} {hp:HP} {value slice:Expr} {l:Addr} {i:Int} {ys:List Value} {Q:Value→j0→HP→Prop} (hs:∀ o j,subscripted slice false o j=operate [o,j] (getItem o j)) (hl:hp l=some (.list ys)) (h0:0≤i) (hi:i < ys.length) (hsz:ys.length≤sizeLine)
  (h:∀ (k:Nat) (hk:k < ys.length),(k:Int)=i→Q ys[k] loc hp):I1 C A g fr E (subscriptTail value slice) (.ref l) (.int i 0) loc hp Q:=by
 have hk:i.toNat < ys.length:=by exact j9 h0 hi
 rw [sizeLine_eq] at hsz
 exact M5 hs hl h0 (u1 hi hsz) (List.getElem?_eq_getElem hk) (h i.toNat hk (by exact bh h0))
theorem En {C:Cx} (W:G1 C) {A:Around} {g:Heap} {fr:Fm} {E:Value→Shared→Prop} {loc:j0} {hp:HP} {Q:Value→j0→HP→Prop} {a kf:Addr} {ts:List Value} {xs:List Int} {x:Int} {vals:List Value} {kw:List (Str × Value)} {v u vl vh vk:Value} {pm:Value}
  (F:j4 C 39 (U0 (G0 3) "bisect_right" (.ref 31) (.ref 32) (.ref 38) pm [] .none))
  (hb:∀ s:Shared,(∀ b o,C.H₀.get? b=some o→s.heap.get? b=some o)→BindsTo s (U0 (G0 3) "bisect_right" (.ref 31) (.ref 32) (.ref 38) pm [] .none) ⟨vals,kw⟩ [("a",v),("x",u),("lo",vl),("hi",vh),("key",vk)])
  (hv:nm v=.ref a) (hu:nm u=iv x) (hl:nm vl=iv 0) (hh':nm vh=.none) (hk':nm vk=.ref kf)
  (hroom:A.depth+1 < recursionLimit) (ha:hp a=some (.list ts)) (K:aH C hp kf ts xs) (hsz:xs.length≤1000) (hs:xs.Pairwise (·≤·)) (h:Q (iv (C2 xs x)) loc hp) :
  w0 C A g fr E (call (.ref 39) vals kw) loc hp Q:=by
 have hlen:=W.len
 refine X4 F rfl rfl W.lim (by exact S7 hroom) hb (by rfl) rfl rfl (by rfl) fun A' g' fr' E' hd hu' hh hF=>?_
 dsimp only [X1]
 simp only [hv,hu,hl,hh',hk']
 clear F hb
 refine V0 (K.obj) fun ko kfd hko hkd=>?_
 have hln:=K.len
 refine Y1 ?_
 repeat' walk_at "kl"
 refine E6 ha (by rw [sizeLine_eq];exact bf hsz hln) ?_
 repeat' walk_at "kl"
 refine (if_neg aP).mpr ?_
 repeat' walk_at "kl"
 refine aE (fun n l p=>∃ lo hi:Nat,n=hi - lo∧lo≤hi∧hi≤xs.length∧(∀ i (hi:i < xs.length),i < lo→xs[i]≤x)∧(∀ i (h:i < xs.length),hi≤i→x < xs[i])∧p=hp∧
  l "a" = some (.ref a)∧l "x" = some (iv x)∧l "lo" = some (iv lo)∧l "hi" = some (iv hi)∧l "key" = some (.ref kf)) ?turn _ ⟨0,xs.length,rfl,Nat.zero_le _,Nat.le_refl _,fun i Z h=>absurd h (Nat.not_lt_zero _),fun i h h'=>absurd h (Nat.not_lt.mpr h'),rfl,?_,?_,?_,?_,?_⟩
 case turn=>
  intro n l p E'' hZ0;refine i6 hZ0 fun lo hi hR0 h1 h2 h3 h4 zr0=>w5 zr0 fun hR1 ea ex elo ehi ekey=>?_;clear hZ0;subst hR0;subst hR1
  repeat' walk_at "kl"
  by_cases hlt:lo < hi
  ·rw [if_pos (by simpa using hlt)]
   repeat' walk_at "kl"
   refine gc (by intro _ _;with_unfolding_all rfl) ha (by exact be) (by exact jf hlt h2 hln) (by rw [sizeLine_eq];exact bf hsz hln) fun k hkt ek=>?_
   have hk:k < xs.length:=by exact q1 hln hkt
   repeat' walk_at "kl"
   refine cA hko hkd ?_
   refine K.at_ k _ _ (List.getElem?_eq_getElem hkt) (List.getElem?_eq_getElem hk) (by exact bd hroom hd) ?_
   repeat' walk_at "kl"
   have hk1:lo≤k:=by exact bc hlt ek
   have hk2:k < hi:=by exact bb hlt ek
   by_cases hx:x < xs[k]
   ·rw [if_pos (by simpa using hx)]
    repeat' walk_at "kl"
    refine ⟨k - lo,by exact ba hk2 hk1,lo,k,rfl,hk1,by exact D8 hk,h3,fun i hi' hle=>?_,rfl,?_,?_,?_,?_,?_⟩
    ·rcases Nat.lt_or_ge k i with q | q
     ·exact Int.lt_of_lt_of_le hx (List.pairwise_iff_getElem.mp hs k i hk hi' q)
     ·have:i=k:=by exact aZ q hle
      subst this;exact hx
    all_goals (first | (walk_at "loc";done) | (rw [ek];walk_at "loc"))
   ·rw [if_neg (by simpa using hx)]
    repeat' walk_at "kl"
    refine ⟨hi - (k+1),by exact aY hk2 hk1,k+1,hi,rfl,by exact q5 hk2,h2,fun i hi' hle=>?_,h4,rfl,?_,?_,?_,?_,?_⟩
    ·rcases Nat.lt_or_ge i k with q | q
     ·exact Int.le_trans (List.pairwise_iff_getElem.mp hs i k hi' hk q) (Int.not_lt.mp hx)
     ·have:i=k:=by exact q2 hle q
      subst this;exact Int.not_lt.mp hx
    all_goals (first | (walk_at "loc";done) | (rw [←ek];walk_at "loc"))
  ·rw [if_neg (by simpa using hlt)]
   repeat' walk_at "kl"
   have e:lo=C2 xs x:=(cy (by exact A8 h2 h1) (fun i hi q=>decide_eq_true (h3 i hi q)) fun i hi q=>decide_eq_false (Int.not_le.mpr (h4 i hi (by exact aX q hlt)))).symm
   subst e
   exact h
 all_goals (first | (walk_at "loc";done) | (rw [hln];walk_at "loc"))
theorem Eo {C:Cx} (W:G1 C) {A:Around} {g:Heap} {fr:Fm} {E:Value→Shared→Prop} {loc:j0} {hp:HP} {Q:Value→j0→HP→Prop} {a kf:Addr} {ts:List Value} {xs:List Int} {x:Int} {vals:List Value} {kw:List (Str × Value)} {v u vl vh vk:Value} {pm:Value}
  (F:j4 C 57 (U0 (G0 5) "bisect_left" (.ref 49) (.ref 50) (.ref 56) pm [] .none))
  (hb:∀ s:Shared,(∀ b o,C.H₀.get? b=some o→s.heap.get? b=some o)→BindsTo s (U0 (G0 5) "bisect_left" (.ref 49) (.ref 50) (.ref 56) pm [] .none) ⟨vals,kw⟩ [("a",v),("x",u),("lo",vl),("hi",vh),("key",vk)])
  (hv:nm v=.ref a) (hu:nm u=iv x) (hl:nm vl=iv 0) (hh':nm vh=.none) (hk':nm vk=.ref kf)
  (hroom:A.depth+1 < recursionLimit) (ha:hp a=some (.list ts)) (K:aH C hp kf ts xs) (hsz:xs.length≤1000) (hs:xs.Pairwise (·≤·)) (h:Q (iv (j3 xs x)) loc hp) :
  w0 C A g fr E (call (.ref 57) vals kw) loc hp Q:=by
 have hlen:=W.len
 refine X4 F rfl rfl W.lim (by exact S7 hroom) hb (by rfl) rfl rfl (by rfl) fun A' g' fr' E' hd hu' hh hF=>?_
 dsimp only [X1]
 simp only [hv,hu,hl,hh',hk']
 clear F hb
 refine V0 (K.obj) fun ko kfd hko hkd=>?_
 have hln:=K.len
 refine Y1 ?_
 repeat' walk_at "kl"
 refine E6 ha (by rw [sizeLine_eq];exact bf hsz hln) ?_
 repeat' walk_at "kl"
 refine (if_neg aP).mpr ?_
 repeat' walk_at "kl"
 refine aE (fun n l p=>∃ lo hi:Nat,n=hi - lo∧lo≤hi∧hi≤xs.length∧(∀ i (hi:i < xs.length),i < lo→xs[i] < x)∧(∀ i (h:i < xs.length),hi≤i→x≤xs[i])∧p=hp∧
  l "a" = some (.ref a)∧l "x" = some (iv x)∧l "lo" = some (iv lo)∧l "hi" = some (iv hi)∧l "key" = some (.ref kf)) ?turn _ ⟨0,xs.length,rfl,Nat.zero_le _,Nat.le_refl _,fun i Z h=>absurd h (Nat.not_lt_zero _),fun i h h'=>absurd h (Nat.not_lt.mpr h'),rfl,?_,?_,?_,?_,?_⟩
 case turn=>
  intro n l p E'' hZ0;refine i6 hZ0 fun lo hi hR0 h1 h2 h3 h4 zr0=>w5 zr0 fun hR1 ea ex elo ehi ekey=>?_;clear hZ0;subst hR0;subst hR1
  repeat' walk_at "kl"
  by_cases hlt:lo < hi
  ·rw [if_pos (by simpa using hlt)]
   repeat' walk_at "kl"
   refine gc (by intro _ _;with_unfolding_all rfl) ha (by exact be) (by exact jf hlt h2 hln) (by rw [sizeLine_eq];exact bf hsz hln) fun k hkt ek=>?_
   have hk:k < xs.length:=by exact q1 hln hkt
   repeat' walk_at "kl"
   refine cA hko hkd ?_
   refine K.at_ k _ _ (List.getElem?_eq_getElem hkt) (List.getElem?_eq_getElem hk) (by exact bd hroom hd) ?_
   repeat' walk_at "kl"
   have hk1:lo≤k:=by exact bc hlt ek
   have hk2:k < hi:=by exact bb hlt ek
   by_cases hx:xs[k] < x
   ·rw [if_pos (by simpa using hx)]
    repeat' walk_at "kl"
    refine ⟨hi - (k+1),by exact aY hk2 hk1,k+1,hi,rfl,by exact q5 hk2,h2,fun i hi' hle=>?_,h4,rfl,?_,?_,?_,?_,?_⟩
    ·rcases Nat.lt_or_ge i k with q | q
     ·exact Int.lt_of_le_of_lt (List.pairwise_iff_getElem.mp hs i k hi' hk q) hx
     ·have:i=k:=by exact q2 hle q
      subst this;exact hx
    all_goals (first | (walk_at "loc";done) | (rw [←ek];walk_at "loc"))
   ·rw [if_neg (by simpa using hx)]
    repeat' walk_at "kl"
    refine ⟨k - lo,by exact ba hk2 hk1,lo,k,rfl,hk1,by exact D8 hk,h3,fun i hi' hle=>?_,rfl,?_,?_,?_,?_,?_⟩
    ·rcases Nat.lt_or_ge k i with q | q
     ·exact Int.le_trans (Int.not_lt.mp hx) (List.pairwise_iff_getElem.mp hs k i hk hi' q)
     ·have:i=k:=by exact aZ q hle
      subst this;exact Int.not_lt.mp hx
    all_goals (first | (walk_at "loc";done) | (rw [ek];walk_at "loc"))
  ·rw [if_neg (by simpa using hlt)]
   repeat' walk_at "kl"
   have e:lo=j3 xs x:=(cy (by exact A8 h2 h1) (fun i hi q=>decide_eq_true (h3 i hi q)) fun i hi q=>decide_eq_false (Int.not_lt.mpr (h4 i hi (by exact aX q hlt)))).symm
   subst e
   exact h
 all_goals (first | (walk_at "loc";done) | (rw [hln];walk_at "loc"))
end
section
theorem mH {C:Cx} {i:Nat} {q:Str} {ad ak ac:Addr} (D:N7 C ad ak) {pm va vx vk:Value}
  (h:∀ h' t t' n n' S,peek [(ad,⟨.type "tuple",none,.seq #[.int 0 t,.none] n,#[]⟩),(ak,⟨.type "dict",none,.dict #[⟨h',.str "key" t',.none⟩] n',#[]⟩)] S (bindArgs (U0 (G0 i) q (.ref ad) (.ref ak) (.ref ac) pm [] .none) ⟨[va,vx],[("key",vk)]⟩)=some [(("a":Str),va),("x",vx),("lo",.int 0 t),("hi",.none),("key",vk)]) (hab:ad≠ak) :
  ∃ t,∀ s:Shared,(∀ b o,C.H₀.get? b=some o→s.heap.get? b=some o)→BindsTo s (U0 (G0 i) q (.ref ad) (.ref ak) (.ref ac) pm [] .none) ⟨[va,vx],[("key",vk)]⟩ [("a",va),("x",vx),("lo",.int 0 t),("hi",.none),("key",vk)]:=by
 refine i8 (D.t) fun t n e=>?_
 refine O8 (D.k) fun h' t' n' e'=>?_
 exact ⟨t,fun s hk=>kp_binds (bW hab (hk _ _ e) (hk _ _ e')) fun S=>h h' t t' n n' S⟩
theorem mF {C:Cx} {i:Nat} {q:Str} {ad ak ac:Addr} (D:N7 C ad ak) {pm va vx vl vh vk:Value}
  (h:∀ h' t t' n n' S,peek [(ad,⟨.type "tuple",none,.seq #[.int 0 t,.none] n,#[]⟩),(ak,⟨.type "dict",none,.dict #[⟨h',.str "key" t',.none⟩] n',#[]⟩)] S (bindArgs (U0 (G0 i) q (.ref ad) (.ref ak) (.ref ac) pm [] .none) ⟨[va,vx,vl,vh],[("key",vk)]⟩)=some [(("a":Str),va),("x",vx),("lo",vl),("hi",vh),("key",vk)]) (hab:ad≠ak) :
  ∀ s:Shared,(∀ b o,C.H₀.get? b=some o→s.heap.get? b=some o)→BindsTo s (U0 (G0 i) q (.ref ad) (.ref ak) (.ref ac) pm [] .none) ⟨[va,vx,vl,vh],[("key",vk)]⟩ [("a",va),("x",vx),("lo",vl),("hi",vh),("key",vk)]:=by
 refine i8 (D.t) fun t n e=>?_
 refine O8 (D.k) fun h' t' n' e'=>?_
 exact fun s hk=>kp_binds (bW hab (hk _ _ e) (hk _ _ e')) fun S=>h h' t t' n n' S
section
variable {C:Cx} {A:Around} {g:Heap} {fr:Fm} {E:Value→Shared→Prop} {loc:j0} {hp:HP} {Q:Value→j0→HP→Prop} {a kf:Addr} {ts:List Value} {T:Value} {xs:List Int} {x:Int}
theorem jI {f x y:Value} {k:Str} {z:Value} (h:∀ v u w,nm v=x→nm u=y→nm w=z→w0 C A g fr E (call f [v,u] [(k,w)]) loc hp Q):M0 C A g fr E f [x,y] [(k,z)] loc hp Q:=fun vs kw hv hk=>mc vs hv fun v0 vs h0 hv=>mc vs hv fun v1 vs h1 hv=>mn vs hv (ee kw hk fun w hw=>h v0 v1 w h0 h1 hw)
theorem jG {f x y p q:Value} {k:Str} {z:Value} (h:∀ v u c d w,nm v=x→nm u=y→nm c=p→nm d=q→nm w=z→w0 C A g fr E (call f [v,u,c,d] [(k,w)]) loc hp Q):M0 C A g fr E f [x,y,p,q] [(k,z)] loc hp Q:=fun vs kw hv hk=>mc vs hv fun v0 vs h0 hv=>mc vs hv fun v1 vs h1 hv=>mc vs hv fun v2 vs h2 hv=>mc vs hv fun v3 vs h3 hv=>mn vs hv (ee kw hk fun w hw=>h v0 v1 v2 v3 w h0 h1 h2 h3 hw)
theorem Cw (W:G1 C) (hroom:A.depth+2 < recursionLimit) (ha:hp a=some (.list ts)) (K:aH C hp kf ts xs) (hT:cM C hp kf T x) (hTn:nm T=T) (hsz:xs.length≤1000) (hs:xs.Pairwise (·≤·))
  (h:Q .none loc (k0 hp a (.list (T4 ts (C2 xs x) T)))):M0 C A g fr E (.ref 30) [.ref a,T] [("key",.ref kf)] loc hp Q:=jI fun v u w hv hu hw=>by
 refine o0 (W.fIR) fun pm F=>?_
 refine o0 (mH (i:=2) (q:="insort_right") (ac:=29) W.dIR (pm:=pm) (va:=v) (vx:=u) (vk:=w) (fun Z Z Z Z Z Z=>by rfl) (by decide)) fun t hb=>?_
 have hgR:=W.gR
 refine o0 (W.fR) fun pm' FR=>?_
 refine X4 F rfl rfl W.lim (by exact dJ hroom) hb (by rfl) rfl rfl (by rfl) fun A' g' fr' E' hd hu' hh hF=>?_
 dsimp only [X1]
 simp only [hv,hu,hw]
 simp only [nm]
 clear F hb
 refine V0 (K.obj) fun ko kfd hko hkd=>?_
 have hln:=K.len
 refine Y1 ?_
 repeat' walk_at "kl"
 refine (if_neg aP).mpr ?_
 repeat' walk_at "kl"
 refine cA hko hkd ?_
 refine hT (by exact br hroom hd) ?_
 repeat' walk_at "kl"
 refine jG fun v₁ v₂ v₃ v₄ v₅ h₁ h₂ h₃ h₄ h₅=>En W FR (mF (i:=3) (q:="bisect_right") (ac:=38) W.dR (fun Z Z Z Z Z Z=>by rfl) (by decide)) h₁ h₂ h₃ h₄ h₅ (by exact bp hroom hd) ha K hsz hs ?_
 repeat' walk_at "kl"
 refine ⟨_,B6 F.slot_list_insert F.type_list_insert ha,?_⟩
 repeat' walk_at "kl"
 refine ⟨S4,bJ ha (by rw [hln];exact List.countP_le_length) (by exact je hsz hln) ⟨rfl,?_⟩⟩
 repeat' walk_at "kl"
 exact h
theorem Cz (W:G1 C) (hroom:A.depth+2 < recursionLimit) (ha:hp a=some (.list ts)) (K:aH C hp kf ts xs) (hT:cM C hp kf T x) (hTn:nm T=T) (hsz:xs.length≤1000) (hs:xs.Pairwise (·≤·))
  (h:Q .none loc (k0 hp a (.list (T4 ts (j3 xs x) T)))):M0 C A g fr E (.ref 48) [.ref a,T] [("key",.ref kf)] loc hp Q:=jI fun v u w hv hu hw=>by
 refine o0 (W.fIL) fun pm F=>?_
 refine o0 (mH (i:=4) (q:="insort_left") (ac:=47) W.dIL (pm:=pm) (va:=v) (vx:=u) (vk:=w) (fun Z Z Z Z Z Z=>by rfl) (by decide)) fun t hb=>?_
 have hgR:=W.gL
 refine o0 (W.fL) fun pm' FR=>?_
 refine X4 F rfl rfl W.lim (by exact dJ hroom) hb (by rfl) rfl rfl (by rfl) fun A' g' fr' E' hd hu' hh hF=>?_
 dsimp only [X1]
 simp only [hv,hu,hw]
 simp only [nm]
 clear F hb
 refine V0 (K.obj) fun ko kfd hko hkd=>?_
 have hln:=K.len
 refine Y1 ?_
 repeat' walk_at "kl"
 refine (if_neg aP).mpr ?_
 repeat' walk_at "kl"
 refine cA hko hkd ?_
 refine hT (by exact br hroom hd) ?_
 repeat' walk_at "kl"
 refine jG fun v₁ v₂ v₃ v₄ v₅ h₁ h₂ h₃ h₄ h₅=>Eo W FR (mF (i:=5) (q:="bisect_left") (ac:=56) W.dL (fun Z Z Z Z Z Z=>by rfl) (by decide)) h₁ h₂ h₃ h₄ h₅ (by exact bp hroom hd) ha K hsz hs ?_
 repeat' walk_at "kl"
 refine ⟨_,B6 F.slot_list_insert F.type_list_insert ha,?_⟩
 repeat' walk_at "kl"
 refine ⟨S4,bJ ha (by rw [hln];exact List.countP_le_length) (by exact je hsz hln) ⟨rfl,?_⟩⟩
 repeat' walk_at "kl"
 exact h
end
end
section
noncomputable def Q5 (q:Str):AO:=.sat fun o=>∃ vs t,o.data=.fields vs∧vs[1]?=some (.str q t)
structure O4 (p:HP) (P:Addr) (q:Str):Prop where
 is:∃ ps:Array Value,p P=some (.obj (tabObj ps))∧TriplesOk ps.toList∧∀ pos,codeAmong pos ps.toList=none∨∃ c,codeAmong pos ps.toList=some (.ref c)∧p c=some (Q5 q)
theorem mf {pos:Pos}:∀ (l r:List Value),TriplesOk l→codeAmong pos (l++r)=(codeAmong pos l).or (codeAmong pos r)
 | [],r,_=>rfl
 | .int a _::.int b _::c::l,r,h=>by
  have ih:=mf (pos:=pos) l r h
  dsimp only [List.cons_append,codeAmong]
  split
  ·rfl
  ·exact ih
structure N9 (C:Cx):Prop where
 is:∃ mg,C.H₀.Ns mainGlobals mg∧C.H₀.BuiltinsAt mg 192
theorem O4.keeps {p p':HP} {P:Addr} {q:Str} (L:O4 p P q) (h:∀ b o,p b=some o→p' b=some o):O4 p' P q:=by
 refine J2 (L.is) fun ps a b c=>?_
 exact ⟨ps,h _ _ a,b,fun pos=>(c pos).imp id fun ⟨c,e1,e2⟩=>⟨c,e1,h _ _ e2⟩⟩
section
variable {C:Cx} {A:Around} {g:Heap} {fr:Fm} {E:Value→Shared→Prop} {loc:j0} {hp:HP} {sc:Scope} {ow:Str→Bool} {Q:Value→j0→HP→Prop}
theorem fA {c:Addr} {params:Arguments} {body:Expr} {scope:Scope} {pos:Pos} {q:Str} (hcode:fr.env.code=.ref c) (CH:CodeHd C.H₀ c 192) (BI:N9 C) (F:P0 fr sc ow) (L:O4 hp 192 q) (hdef:defaultsOf params fr.env=([],[])) (hq:fr.env.qual++"<lambda>" = q)
  (hfree:∀ y∈scope.names,y.2≠.free)
  (h:∀ f c' pm ctv p',hp f=none→O4 p' 192 q→p' f=some (.obj (kla_obj "<lambda>" q params body scope [] pm c' ctv))→p' c'=some (Q5 q)→(∀ b o,b≠192→hp b=some o→p' b=some o)→Q (.ref f) loc p') :
  w0 C A g fr E (eval (.Lambda params body scope pos) fr.env) loc hp Q:=fun s R S=>by
 refine J2 (L.is) fun ps hP hT hC=>?_
 refine z0 (BI.is) fun mg hns hbi=>?_
 have hk₀:∀ b o,C.H₀.get? b=some o→s.heap.get? b=some o:=fun b o e=>R.keep b o (R.base b o e)
 have hPs:s.heap.get? 192=some (tabObj ps):=by refine Q2 (R.at_ _ _ hP) fun Z Z Z o ho hi=>?_;cases hi;exact ho
 refine i6 hbi fun bm ob b1 b2 b3 b4 b5 zr0=>V1 zr0 fun b6 b7 b8=>?_;try clear hbi
 have hbi':s.heap.BuiltinsAt mg 192:=⟨bm,ob,b1,b2,b3,b4,hk₀ _ _ b5,b6,b7,b8⟩
 subst hq
 refine kla_eval hdef ?_
 rcases hC pos with hn | ⟨c',hc',hcp⟩
 ·refine kla_makeFunction (clos:=[]) (closureFor_none hfree) F.glob (hns.keeps hk₀) hcode (CH.keeps hk₀) hPs hT hn (by decide) hbi' fun c' ctv h' tk hext hge hlt hrec htab=>?_
  have hk:∀ b o,¬b=192→s.heap.get? b=some o→(h'.push (kla_obj "<lambda>" (fr.env.qual++"<lambda>") params body scope [] ((mg "__name__").getD .none) c' ctv)).get? b=some o:=fun b o hb e=>Heap.get?_push_of_some _ (hext b o hb e)
  refine D9 hrec fun c₂ oc vs t e2 hoc hd hv=>?_;try clear hrec
  cases e2
  have hf:s.heap.objs.size≤h'.objs.size:=by exact za hlt hge
  have hcn:hp c'=none:=by
   cases e:hp c' with
   | none=>rfl
   | some x=>exact absurd (R.lt_of_hp e) (Nat.not_lt.mpr hge)
  have hfn:hp h'.objs.size=none:=by
   cases e:hp h'.objs.size with
   | none=>rfl
   | some x=>exact absurd (R.lt_of_hp e) (Nat.not_lt.mpr hf)
  have hPlt:=R.lt_of_hp hP
  have n1:c'≠192:=by intro e;rw [e] at hge;exact absurd hPlt (Nat.not_lt.mpr hge)
  have n2:h'.objs.size≠192:=by intro e;rw [e] at hf;exact absurd hPlt (Nat.not_lt.mpr hf)
  have n3:c'≠h'.objs.size:=Nat.ne_of_lt hlt
  obtain ⟨p',hp'⟩:∃ p',p'=k0 (k0 (k0 hp 192 (.obj (tabObj (ps++#[rawInt pos.line,rawInt pos.col,.ref c'])))) c' (Q5 (fr.env.qual++"<lambda>"))) h'.objs.size (.obj (kla_obj "<lambda>" (fr.env.qual++"<lambda>") params body scope [] ((mg "__name__").getD .none) c' ctv)):=⟨_,rfl⟩
  have q1:p' 192=some (.obj (tabObj (ps++#[rawInt pos.line,rawInt pos.col,.ref c']))):=by simp only [hp',H0 _ _ n2.symm,H0 _ _ n1.symm,s0]
  have q2:p' c'=some (Q5 (fr.env.qual++"<lambda>")):=by simp only [hp',H0 _ _ n3,s0]
  have q3:p' h'.objs.size=some (.obj (kla_obj "<lambda>" (fr.env.qual++"<lambda>") params body scope [] ((mg "__name__").getD .none) c' ctv)):=by simp only [hp',s0]
  have q4:∀ b o,b≠192→hp b=some o→p' b=some o:=fun b o hb e=>by
   have m1:b≠c':=by rintro rfl;rw [hcn] at e;exact J0 e
   have m2:b≠h'.objs.size:=by rintro rfl;rw [hfn] at e;exact J0 e
   rw [hp',H0 _ _ m2,H0 _ _ m1,H0 _ _ hb];exact e
  have q5:∀ b ao,p' b=some ao→b=192∨b=c'∨b=h'.objs.size∨(b≠192∧hp b=some ao):=fun b ao e=>by
   rw [hp'] at e
   by_cases w1:b=h'.objs.size
   ·exact .inr (.inr (.inl w1))
   ·rw [H0 _ _ w1] at e
    by_cases w2:b=c'
    ·exact .inr (.inl w2)
    ·rw [H0 _ _ w2] at e
     by_cases w3:b=192
     ·exact .inl w3
     ·rw [H0 _ _ w3] at e
      exact .inr (.inr (.inr ⟨w3,e⟩))
  refine ⟨S,loc,p',R.step (W:=fun b=>b=192) (fun b hb=>by subst hb;exact ⟨_,hP⟩) hk fun b ao e=>?_,h _ c' _ ctv p' hfn ⟨_,q1,?_,fun pos'=>?_⟩ q3 q2 q4⟩
  ·rcases q5 b ao e with w | w | w | ⟨w1,w2⟩
   ·subst w;rw [q1] at e;cases e
    exact ⟨.inl ⟨_,hP⟩,_,Heap.get?_push_of_some _ htab,rfl⟩
   ·subst w;rw [q2] at e;cases e
    exact ⟨.inr hge,_,Heap.get?_push_of_some _ hoc,vs,t,hd,hv⟩
   ·subst w;rw [q3] at e;cases e
    exact ⟨.inr hf,_,Heap.get?_push_size _ rfl,rfl⟩
   ·refine Q2 (R.at_ b ao w2) fun Z Z Z o ho hi=>?_
    exact ⟨.inl ⟨_,w2⟩,o,hk b o w1 ho,hi⟩
  ·rw [Array.toList_append]
   exact TriplesOk_snoc _ _ _ _ hT
  ·rw [Array.toList_append,mf _ _ hT]
   rcases hC pos' with w | ⟨c₃,w,w'⟩
   ·rw [w]
    show codeAmong pos' [rawInt pos.line,rawInt pos.col,.ref c']=none∨∃ c,codeAmong pos' [rawInt pos.line,rawInt pos.col,.ref c']=some (.ref c)∧_
    dsimp only [codeAmong,rawInt]
    split
    ·exact .inr ⟨c',rfl,q2⟩
    ·exact .inl rfl
   ·rw [w]
    exact .inr ⟨c₃,rfl,q4 c₃ _ (by rintro rfl;rw [hP] at w';exact R3 w') w'⟩
 ·refine kla_makeFunctionHit (clos:=[]) (closureFor_none hfree) F.glob (hns.keeps hk₀) hcode (CH.keeps hk₀) hPs hT hc' hbi' fun ctv h' tk hk hsz=>?_
  have hfn:hp h'.objs.size=none:=by
   cases e:hp h'.objs.size with
   | none=>rfl
   | some x=>exact absurd (R.lt_of_hp e) (Nat.not_lt.mpr hsz)
  have R':=(R.keeps (h':=h') hk).alloc (o:=kla_obj "<lambda>" (fr.env.qual++"<lambda>") params body scope [] ((mg "__name__").getD .none) c' ctv) (ao:=.obj (kla_obj "<lambda>" (fr.env.qual++"<lambda>") params body scope [] ((mg "__name__").getD .none) c' ctv)) rfl rfl
  exact ⟨S,loc,_,R',h _ c' _ ctv _ hfn (L.keeps fun b o e=>E1 hfn e) (s0 ..) (E1 hfn hcp) fun b o Z e=>E1 hfn e⟩
theorem EP {f c':Addr} {name q:Str} {params:Arguments} {body:Expr} {scope:Scope} {pm ctv:Value} {vals:List Value} {binds:List (Str × Value)} (hf:hp f=some (.obj (kla_obj name q params body scope [] pm c' ctv))) (hc:hp c'=some (Q5 q)) (hlim:C.H₀.NoLimit)
  (hroom:A.depth < recursionLimit) (hco:scope.isCoroutine=false) (hgen:scope.isGenerator=false) (hk:scope.kind=.function)
  (hbind:bindArgs (kla_fn name q params body scope [] pm (.ref c') ctv) ⟨vals,[]⟩=pure binds)
  (hkb:(binds.all fun x=>scope.names.lookup x.1 == some .local || scope.names.lookup x.1 == some .cell)=true) (hfr:scope.names.all (fun x=>x.2 != .free)=true)
  (h:∀ A' g' fr' E',A'.depth=A.depth+1→A'.handled=A.handled→P0 fr' scope K7→w0 C A' g' fr' E' (eval body fr'.env) (X1 binds fun Z=>none) hp fun v Z p=>Q v loc p) :
  w0 C A g fr E (call (.ref f) vals []) loc hp Q:=fun s R S=>by
 refine Q2 (R.at_ _ _ hf) fun Z Z Z o ho hi=>?_
 cases hi
 refine lM (R.at_ _ _ hc) fun Z Z Z oc hoc vs t zr0=>B0 zr0 fun hd hv=>?_
 obtain ⟨fd,hfd⟩:∃ fd,fd=kla_fn name q params body scope [] pm (.ref c') ctv:=⟨_,rfl⟩
 have hkind:∀ x∈binds,fd.scope.names.lookup x.1=some .local∨fd.scope.names.lookup x.1=some .cell:=fun x hx=>by
  rw [hfd]
  have:=List.all_eq_true.mp hkb x hx
  rcases Bool.or_eq_true_iff.mp this with q | q
  ·exact .inl (by simpa using q)
  ·exact .inr (by simpa using q)
 have hk':∀ b o,C.H₀.get? b=some o→s.heap.get? b=some o:=fun b o e=>R.keep b o (R.base b o e)
 refine wpAny_call (kla_callFunE hroom ho rfl hco hgen rfl ⟨c',oc,vs,t,rfl,hoc,hd,hv⟩ ?_)
 rw [hbind]
 refine wpAny_pure ?_
 rw [hfd] at hkind
 refine wpAny_newFunctionEnv_cells (scope:=scope) hk (fun x hx=>(hkind x hx).imp id fun e=>⟨e,cellsFrom_some _ _ _ (.inl e)⟩) fun env he s' x=>?_
 subst he
 refine ⟨(hlim.keeps hk').keeps x.toInCall.keep,kla_codeExpr ?_⟩
 have R':=Z8 (h:=s.heap) (fd:=kla_fn name q params body scope [] pm (.ref c') ctv) (f:=f) R hkind x
 refine wpAny_mono (h (A.deeper (callEnvC (kla_fn name q params body scope [] pm (.ref c') ctv) s.heap.objs.size f)) _ (K3 (kla_fn name q params body scope [] pm (.ref c') ctv) s.heap.objs.size f) _ rfl rfl (N8 (kla_fn name q params body scope [] pm (.ref c') ctv) _ f hk rfl rfl hfr) s' R' (r8 S x)) (fun v s'' hq=>?_) fun Z Z e=>e
 refine Q3 hq fun S'' l' p' R'' q=>?_;try clear hq
 refine ⟨S'',loc,p',R.asleep R''.keep fun b ao e=>?_,q⟩
 refine P1 (R''.at_ b ao e) fun a1 Z Z a4=>?_
 exact ⟨a1,a4⟩
end
end
section
section
variable {C:Cx} {A:Around} {g:Heap} {fr:Fm} {E:Value→Shared→Prop} {loc:j0} {hp:HP} {x:Addr} {i:Int} {ts:List Addr} {ps:List (Str × Str)} {Q:Value→j0→HP→Prop}
theorem Eb (W:G1 C) (AW:K6 C) (A2:t7 C) (hu:A.units+10 < cLine) (hroom:A.depth+1 < recursionLimit) (hh:A.handled=none) (hx:I6 hp x i ts ps) (hP:hp 120=some O2) (hsz:ps.length≤50) (hy:∀ v∈ps,v.1.length≤1000∧v.2.length≤1000)
  (h:Q (.str (P6 ps) 0) loc hp):M0 C A g fr E (.type "str") [.ref x] [] loc hp Q:=I3 fun v hv=>by
 have:=Q0 hv;subst this
 refine z0 (AW.K) fun K X AK=>?_
 intro s R S
 refine V4 (R.acc hx.acc) fun d hh1 t u ep vs n zr0=>w5 zr0 fun e1 e2 e3 I h1 h2=>?_
 refine kso_call (by show A.units+1+1 < cLine;exact wN hu) (R.K X) I AK.str (by unfold isFn;rw [AK.tf 125 (by decide)];rfl) ?_
 have:=FK (C:=C) (A:=A.in1.in1) (g:=g) (fr:=fr) (E:=E) (loc:=loc) (hp:=hp) (x:=x) (i:=i) (Q:=fun v l p=>v=.str (P6 ps) 0∧l=loc∧p=hp) W AW A2 (by show A.depth+1 < _;exact hroom) hh hx hP hy (by exact ji hsz) ⟨rfl,rfl,rfl⟩ [.ref x] [] rfl rfl s R S
 refine wpAny_mono this (fun v s' hZ0=>ci hZ0 fun S' l p R' q1 q2 q3=>?_) fun Z Z e=>e
 refine o0 (w4 q1) fun tk hR0=>?_;subst hR0
 subst q2;subst q3
 exact ⟨S',l,p,R',h⟩
end
end
section
theorem gf:Slot "wrapper_descriptor" "__get__" "wrapper_descriptor.__get__":=.of (owner:="wrapper_descriptor") (n:="__get__") (by rw [typeLookup_type,builtinLookup_eq_fast];kernel_rfl) (by decide +kernel) (by decide +kernel) (by decide +kernel)
 (by first | exact .inl (by decide +kernel) | exact .inr (by decide +kernel)) (by rw [isSubtype_type];kernel_rfl)
theorem CV:entryFor table "wrapper_descriptor.__get__" = some Builtin.«wrapper_descriptor.__get__»:=entryFor_of_tree (by kernel_rfl)
theorem CI (a b c:Value):argsOk "wrapper_descriptor.__get__" ⟨[a,b,c],[]⟩:=by kernel_rfl
theorem og:typeOf (.builtin "list.__len__")=pure (.type "wrapper_descriptor"):=by kernel_rfl
theorem oh:typeOf (.builtin "list.__init__")=pure (.type "wrapper_descriptor"):=by kernel_rfl
section
variable {prog:Program} {w:World} {M:Model} {A:Around} {E:Value→Shared→Prop} {h:Heap} {g:Array GenState} {d:Drawn} {t:Nat} {os:OsState}
theorem zo:".".intercalate ("list.__len__".cutAt '.').dropLast = "list":=by decide +kernel
theorem zp:".".intercalate ("list.__init__".cutAt '.').dropLast = "list":=by decide +kernel
set_option maxHeartbeats 2000000 in
theorem oH {id:String} (how:".".intercalate (id.cutAt '.').dropLast = "list") (hty:typeOf (.builtin id)=pure (.type "wrapper_descriptor")) {so D x C:Addr} {ox:Obj} {l₀ l:List Value} {K:Frag} {name:Str} {tk:Tok} {Q:Fin→Shared→Prop}
  (hso:h.get? so=some {cls:=.type "super",dict:=none,data:=.fields #[.ref D,.ref x,.ref C],slots:=#[]}) (hno:Looks (model prog w) h (opaqueClassAbove (.ref C)) none)
  (hC:Looks (model prog w) h (mroOf (.ref C)) l₀) (hl:(l₀.dropWhile (· != .ref D)).drop 1=l) (X:K.In h) (hx:h.get? x=some ox) (hc:ox.cls=.ref C) (hi:Looks (model prog w) h (isSubtype (.ref C) (.type "list")) true)
  (hf:alongIn K name l=some (some (.builtin id))) (hxC:x≠C) (hn:(name == ("__class__":Str))=false)
  (hq:Q (.done (.ret (.ref h.objs.size))) ⟨h.push {cls:=.type "method-wrapper",data:=.fields #[.builtin id,.ref x]},g,d,t,os⟩) :
  wpAny (model prog w) A (Builtin.«super.__getattribute__» ⟨[.ref so,.str name tk],[]⟩) Q E ⟨h,g,d,t,os⟩:=by
 have hlk:=gf.lookup
 have hne:(Value.ref x == Value.ref C)=false:=by simp [hxC]
 have hTf:(⟨h,g,d,t,os⟩:Shared).TypeIs (.builtin id) "wrapper_descriptor":=hty
 have hdt:({cls:=.type "super",dict:=none,data:=.fields #[.ref D,.ref x,.ref C],slots:=#[]}:Obj).data=.fields #[.ref D,.ref x,.ref C]:=rfl
 have f0:(#[.ref D,.ref x,.ref C]:Array Value)[0]?=some (.ref D):=rfl
 have f1:(#[.ref D,.ref x,.ref C]:Array Value)[1]?=some (.ref x):=rfl
 have f2:(#[.ref D,.ref x,.ref C]:Array Value)[2]?=some (.ref C):=rfl
 unfold Builtin.«super.__getattribute__»
 repeat (first
  | (with_reducible refine wpAny_field hso hdt f0 ?_) | (with_reducible refine wpAny_field hso hdt f1 ?_) | (with_reducible refine wpAny_field hso hdt f2 ?_)
  | (with_reducible refine ks_wpAny_notOpaque hno ?_)
  | (with_reducible refine Looks.at hC ?_;rw [hl])
  | (refine ks_forIn_along X (fun Z Z=>rfl) rfl ?_ hf)
  | (with_reducible refine wpAny_of_eq hty ?_)
  | (with_reducible refine wpAny_call_entry gf hTf CV ?_ (CI _ _ _))
  | (rw [hc,how];with_reducible refine Looks.at hi ?_)
  | (with_reducible refine wpAny_loadPart_at hx ?_)
  | (with_reducible refine ⟨_,rfl,?_⟩)
  | (simp -iota only [hn,hne,Bool.or_false,Bool.false_eq_true,if_false])
  | wp_step
  | dsimp only)
 all_goals exact hq
theorem oG {id:String} (how:".".intercalate (id.cutAt '.').dropLast = "list") (hty:typeOf (.builtin id)=pure (.type "wrapper_descriptor")) {so D x C:Addr} {ox:Obj} {l₀ l:List Value} {K:Frag} {name:Str} {pl:Sem Bool} {Q:Value × List Value→Shared→Prop}
  (hso:h.get? so=some {cls:=.type "super",dict:=none,data:=.fields #[.ref D,.ref x,.ref C],slots:=#[]}) (hno:Looks (model prog w) h (opaqueClassAbove (.ref C)) none)
  (hC:Looks (model prog w) h (mroOf (.ref C)) l₀) (hl:(l₀.dropWhile (· != .ref D)).drop 1=l) (X:K.In h) (hx:h.get? x=some ox) (hc:ox.cls=.ref C) (hi:Looks (model prog w) h (isSubtype (.ref C) (.type "list")) true)
  (hf:alongIn K name l=some (some (.builtin id))) (hxC:x≠C) (hn:(name == ("__class__":Str))=false)
  (hq:Q (.ref h.objs.size,[]) ⟨h.push {cls:=.type "method-wrapper",data:=.fields #[.builtin id,.ref x]},g,d,t+1,os⟩) :
  wpAny (model prog w) A (getMethod (.ref so) name pl) Q E ⟨h,g,d,t,os⟩:=by
 have hlk:=F.ks_slot_super_ga.lookup
 have hcan:=F.ks_canon_super_ga
 have hT:∀ t',(⟨h,g,d,t',os⟩:Shared).TypeIs (.ref so) "super":=fun Z=>⟨_,hso,rfl⟩
 unfold getMethod
 refine wpAny_bind (wpAny_specialOf (hT _) hlk ?_)
 show wpAny _ _ (if (Manifest.canonical "super.__getattribute__" != "object.__getattribute__")=true then _ else _) _ _ _
 rw [if_pos hcan]
 delta getAttr getAttrBy
 refine wpAny_bind (wpAny_bind (wpAny_mkText (wpAny_holding (wpAny_bind (wpAny_typeOf (hT _) (wpAny_bind (wpAny_of_eq hlk ?_)))))))
 show wpAny _ _ (getAttrByItsOwn (.ref so) (.str name t) (.type "super") (.builtin "super.__getattribute__") true false) _ _ _
 delta getAttrByItsOwn hookBefore callGetattribute boundAndCalled
 refine wpAny_bind (wpAny_of_eq (show (if onTheHeap (.type "super") then typeLookup (.type "super") "__getattr__" else pure none)=pure none from rfl) ?_)
 refine wpAny_bind (wpAny_attempt (wpAny_holding ?_))
 show wpAny _ _ (bindSpecial (.builtin "super.__getattribute__") (.ref so) >>= _) _ _ _
 refine wpAny_bind (wpAny_of_eq (F.ks_slot_super_ga.bind _) ?_)
 refine wpAny_mono (Q:=fun v s'=>v=.ref h.objs.size∧s'=⟨h.push {cls:=.type "method-wrapper",data:=.fields #[.builtin id,.ref x]},g,d,t+1,os⟩) (E:=fun Z Z=>False)
  (wpAny_call_entry F.ks_slot_super_ga (hT _) F.ks_entry_super_ga (oH how hty hso hno hC hl X hx hc hi hf hxC hn ⟨_,rfl,rfl,rfl⟩) (F.ks_gaArgs_super _ _)) (fun v s' hv=>?_) fun Z Z z=>z.elim
 refine B0 hv fun hR0 hR1=>?_;try clear hv;subst hR0;subst hR1
 exact wpAny_pure (wpAny_pure hq)
theorem DZ {id:String} {b:Builtin} {u x:Addr} {pos:Pos} {env:Env} {Q:Value→Shared→Prop} (hu:h.get? u=some {cls:=.type "method-wrapper",data:=.fields #[.builtin id,.ref x]}) (hplain:plainId id=true) (hb:entryFor table id=some b)
  (hck:checkBoundCall id ⟨[.ref x],[]⟩=pure ())
  (hq:wpAny (model prog w) A.in1 (b ⟨[.ref x],[]⟩) (fun fin s'=>∃ v,fin=.done (.ret v)∧Q v s') E ⟨h,g,d,t,os⟩) :
  wpAny (model prog w) A (callWith pos (.ref u) [] (backTo pos (starEach [] env)) []) Q E ⟨h,g,d,t,os⟩:=by
 unfold callWith
 refine wpAny_bind (wpAny_holding (wpAny_mono (evalArgs_nil3 (Q:=fun a s₁=>a=⟨[],[]⟩∧s₁=⟨h,g,d,t,os⟩) ⟨rfl,rfl⟩) (fun a s₁ hZ0=>B0 hZ0 fun e1 e2=>wpAny_bind (wpAny_standAt ?_)) fun Z Z y=>y))
 subst e1;subst e2
 simp -iota only [show (backTo pos (starEach [] env)).any (·.1)=false from rfl,List.any_nil,Bool.or_false]
 refine wpAny_bind (m:=keeperOf (.ref u)) ?_
 unfold keeperOf
 refine wpAny_bind (wpAny_load hu ?_)
 simp -iota only [show (Value.type "method-wrapper" != Value.type "method")=true by decide,show (Value.type "method-wrapper" == Value.type "builtin_function_or_method" || Value.type "method-wrapper" == Value.type "method-wrapper")=true by decide,if_true]
 refine wpAny_pure ?_
 have tail:∀ {t₁:Sem Value},wpAny (model prog w) A t₁ Q E ⟨h,g,d,t,os⟩→wpAny (model prog w) A (t₁ >>= fun r=>holding [r] point >>= fun Z=>pure r) Q E ⟨h,g,d,t,os⟩:=
  fun ht=>wpAny_bind (wpAny_mono ht (fun r s₂ hr=>wpAny_bind (wpAny_holding (wpAny_point (wpAny_pure hr)))) fun Z Z y=>y)
 refine tail (wpAny_call (codeAny_of_tree ?_))
 show wpAny _ A.in1 (callAny (.ref u) ⟨[],[]⟩) _ _ _
 unfold callAny
 refine wpAny_bind (wpAny_load hu ?_)
 simp -iota only [show (Value.type "method-wrapper" == Value.type "method" || Value.type "method-wrapper" == Value.type "builtin_function_or_method" || Value.type "method-wrapper" == Value.type "method-wrapper")=true by decide,if_true]
 show wpAny _ _ (if (Value.type "method-wrapper" != Value.type "method")=true then _ else _) _ _ _
 rw [if_pos (by decide)]
 refine wpAny_bind (wpAny_of_eq hck ?_)
 refine wpAny_bind (wpAny_pure ?_)
 refine wpAny_pure ⟨plainId_quiet hplain _,codeAny_builtin hb ?_⟩
 rw [Around.under_plainId hplain _]
 refine wpAny_mono hq (fun fin s' hf=>?_) fun Z Z e=>e
 refine z0 hf fun v hR0 q=>?_;try clear hf;subst hR0
 exact q
end
end
section
structure aK (K:Frag):Prop where
 obj:∃ oc od cd sl,K.lookup 151=some ⟨oc,od,.cls cd,sl⟩∧cd.mro=[.ref 151,.type "list",.type "object"]∧cd.abstract=false∧cd.hasDel=false∧(sl.toList[4]?).join=some (.builtin "list.__new__")
 has:(clsIn K 151).any (·.hasDict)=true
 noSize:findIn K (.ref 151) "_initial_size" = some none
 sa:findIn K (.ref 151) "__setattr__" = some (some (.builtin "object.__setattr__"))
 opq:nsIn K cStatics "thirdparty.any" = some none
 call:specialIn K (.ref 151) "__call__" = some (some (.builtin "type.__call__"))
 typ:instIn K (.ref 151) (.type "type")=some true
noncomputable def cN (C:Cx) (c:Addr):Prop:=∃ o vs file tf,C.H₀.get? c=some o∧o.data=.fields vs∧vs[2]?=some (.str file tf)∧((C.prog.main.file:Str) == file)=true
structure O7 (C:Cx):Prop where
 K:∃ K:Frag,K.In C.H₀∧H4 K∧aK K
 fCount:∃ pm,j4 C 148 (U0 (W3 8) "_Accumulator.part_count" .none .none (.ref 147) pm [("__class__",76)] (.ref 141))
 fInit:∃ pm,j4 C 89 (U0 (W3 0) "_Accumulator.__init__" (.ref 81) .none (.ref 88) pm [("__class__",76)] (.ref 82))
 dInit:∃ t n,C.H₀.get? 81=some ⟨.type "tuple",none,.seq #[.int 0 t] n,#[]⟩
 cell:C.H₀.IsCell 76 (some (.ref 151))
 gSuper:Q1 C "super" (.type "super")
 gAcc:Q1 C "_Accumulator" (.ref 151)
 cCount:cN C 147
 cInit:cN C 88
 top:(C.prog.main.scope.names.lookup ("super":Str)).isSome=false
theorem Fz:∀ K:Frag,alongIn K "__len__" [.type "list",.type "object"]=some (some (.builtin "list.__len__")):=fun K=>by kernel_rfl
theorem FB:∀ K:Frag,alongIn K "__init__" [.type "list",.type "object"]=some (some (.builtin "list.__init__")):=fun K=>by kernel_rfl
theorem Q1.load {C:Cx} {A:Around} {E:Value→Shared→Prop} {s:Shared} {env:Env} {x:Str} {v:Value} {Q:Value→Shared→Prop} (hG:Q1 C x v) (hk:env.scope.kind=.function) (hg:env.globals=mainGlobals) (hb:env.builtins=builtinsNs) (hx:env.kindOf x=some .globalImplicit)
  (hk':∀ b o,C.H₀.get? b=some o→s.heap.get? b=some o) (h:Q v s):wpAny (model C.prog C.w) A (loadName env x) Q E s:=by
 refine ks_loadName_global hk hx ?_
 rcases hG.is with ⟨mg,n,e⟩ | ⟨mg,mb,n,e,n',e'⟩
 ·exact loadGlobal_global (hg▸n.keeps hk') e h
 ·exact loadGlobal_builtin (hg▸n.keeps hk') e (hb▸n'.keeps hk') e' h
section
variable {C:Cx} {A:Around} {g:Heap} {fr:Fm} {E:Value→Shared→Prop} {loc:j0} {hp:HP} {x:Addr} {i:Int} {xs:List Value} {Q:Value→j0→HP→Prop}
theorem fY (A3:O7 C) {id:String} {b:Builtin} (how:".".intercalate (id.cutAt '.').dropLast = "list") (hty:typeOf (.builtin id)=pure (.type "wrapper_descriptor")) (hplain:plainId id=true) (hb:entryFor table id=some b) (hck:∀ x,checkBoundCall id ⟨[.ref x],[]⟩=pure ())
  {name:Str} (hal:∀ K:Frag,alongIn K name [.type "list",.type "object"]=some (some (.builtin id))) (hnm:(name == ("__class__":Str))=false)
  {s:Shared} {ox:Obj} {od:Option Obj} (I:InstAt s.heap x ox 151 od) (hk₀:∀ b o,C.H₀.get? b=some o→s.heap.get? b=some o) {fd:FuncData} {L f cda:Addr} {m:Str→Option Value} {body:List Stmt} {p0 p1 pos apos:Pos} {ar:Arg} {Q:Value→Shared→Prop}
  (hf:∃ o,s.heap.get? f=some o∧o.data=.func fd) (hclo:fd.closure=[(("__class__":Str),76)]) (hcode:fd.code=.ref cda) (hCO:cN C cda) (hp:(fd.params.posonlyargs++fd.params.args).head?=some ar) (hns:s.heap.Ns L m) (hm:m ar.arg=some (.ref x))
  (hks:fd.scope.names.lookup ("super":Str)=some .globalImplicit) (hkc:fd.scope.names.lookup ("__class__":Str)=some .free) (hka:fd.scope.names.lookup ar.arg=some .local) (hkind:fd.scope.kind=.function) (hgl:fd.globals=mainGlobals) (hbi:fd.builtins=builtinsNs)
  {pl:Sem Bool} (he:eval (.Call (.Attribute (.Call (.Name "super" p0) [] [] p1) name apos) [] [] pos) (callEnv fd L f)=(do
   let ov ←attributeBase (.Call (.Name "super" p0) [] [] p1) name (callEnv fd L f) (eval (.Call (.Name "super" p0) [] [] p1) (callEnv fd L f))
   standAt apos.atName
   let (f₁,first) ←holding [ov] (getMethod ov name pl)
   callWith pos f₁ first (backTo pos (starEach [] (callEnv fd L f))) []))
  (h:∀ h' tk A',(∀ b o,s.heap.get? b=some o→h'.get? b=some o)→wpAny (model C.prog C.w) A' (b ⟨[.ref x],[]⟩) (fun fin s'=>∃ v,fin=.done (.ret v)∧Q v s') E {s with heap:=h',toks:=tk}) :
  _root_.PySem.wpAt (model C.prog C.w) A (.func body (callEnv fd L f)) (eval (.Call (.Attribute (.Call (.Name "super" p0) [] [] p1) name apos) [] [] pos) (callEnv fd L f)) Q E s:=by
 refine J2 (A3.K) fun K X₀ AK AK2=>?_
 refine D9 (AK2.obj) fun oc odd cd sl hK hmro Z zr0=>B0 zr0 fun Z Z=>?_
 have hcl:clsIn K 151=some cd:=by unfold clsIn;rw [hK]
 have X:K.In s.heap:=X₀.keeps hk₀
 refine z0 hf fun o ho hd=>?_;try clear hf
 refine D9 hCO fun co vs file tf hc1 hc2 hc3 hc4=>?_;try clear hCO
 obtain ⟨hh,gg,dd,t,os⟩:=s
 have hD:=X _ _ hK
 have hself:mroIn K 151 (.ref 151)=some true:=by
  unfold mroIn;rw [hcl,Option.bind_some,hmro];rfl
 have hxC:x≠151:=ks_ne X I hcl
 refine ks_wpAt_MethodCall (pl:=pl) ?_ he
 refine ks_wpAt_super_base (env:=callEnv fd L f) hks hkc hnm rfl ho hd hp hcode (hk₀ _ _ hc1) hc2 hc3 hc4 A3.top ?_
 refine Q1.load A3.gSuper hkind hgl hbi hks hk₀ ⟨rfl,?_⟩
 refine wpAny_loadName_free hkind hkc (c:=76) (by show fd.closure.lookup _=_;rw [hclo];rfl) (A3.cell.keeps hk₀) ?_
 refine wpAny_loadName_local hkind hka hns hm ?_
 refine ks_wpAny_isType_cls hD rfl ⟨rfl,?_⟩
 refine ks_wpAny_call_super hD rfl I.at_ I.cls (fun c e=>?_) (looks_mroIn X hself) (fun h' e k=>?_)
 ·have:=I.no
  unfold notCls at this
  rw [e] at this
  exact Bool.noConfusion this
 ·refine oG how hty e (looks_opaque (X.keeps k) AK2.opq) (l₀:=cd.mro) (l:=[.type "list",.type "object"]) ?_ (by rw [hmro];rfl) (X.keeps k) (k _ _ I.at_) I.cls (looks_mroIn (X.keeps k) AK.sub) (hal K) hxC hnm ?_
  ·exact fun A Q E s k' q=>wpAny_bind ((looks_clsIn (X.keeps k) hcl) A _ E s k' (wpAny_pure q))
  ·refine DZ (Heap.get?_push_size _ rfl) hplain hb (hck x) ?_
   exact h _ _ _ fun b o e=>Heap.get?_push_of_some _ (k b o e)
end
end
section
theorem DT (x:Addr):checkBoundCall "list.__len__" ⟨[.ref x],[]⟩=pure ():=by kernel_rfl
theorem DU (x:Addr):checkBoundCall "list.__init__" ⟨[.ref x],[]⟩=pure ():=by kernel_rfl
section
variable {C:Cx} {A:Around} {g:Heap} {fr:Fm} {E:Value→Shared→Prop} {loc:j0} {hp:HP} {x:Addr} {i:Int} {xs:List Value} {Q:Value→j0→HP→Prop}
theorem zm (W:G1 C) (A3:O7 C) (hroom:A.depth < recursionLimit) (hx:Y2 hp x i xs) (h:Q (iv xs.length) loc hp):M0 C A g fr E (.ref 148) [.ref x] [] loc hp Q:=I3 fun v hv=>by
 have:=Q0 hv;subst this
 refine o0 (A3.fCount) fun pm F=>?_
 intro s R S
 refine V4 (R.acc hx) fun d hh1 t u ep vs n zr0=>w5 zr0 fun e1 e2 e3 I h1 h2=>?_
 refine z0 (F.at_) fun o ho hd=>?_
 have hk₀:∀ b o,C.H₀.get? b=some o→s.heap.get? b=some o:=fun b o e=>R.keep b o (R.base b o e)
 refine wpAny_call (ks_codeAny_call_defAt hroom (hk₀ _ _ ho) hd (W.lim.keeps hk₀) (F.code.keeps hk₀) (body:=M3 (W3 8)) rfl (kp_binds E5 fun S=>by rfl:BindsTo s _ _ [("self",.ref x)]) (by show ∀ y∈(Z6 (W3 8)).names,y.2≠.cell;decide) (fun y hy=>by cases List.mem_singleton.mp hy;rfl) fun h₀ hns hk=>?_)
 show _root_.PySem.wpAt _ _ _ (execs (_::[]) _) _ _ _
 refine ks_wpAt_execs_cons (ks_wpAt_Return_some ?_)
 refine fY (s:={s with heap:=h₀,toks:=s.toks+1}) A3 zo og (by decide +kernel) entry_list_len DT Fz (by decide) (ox:={cls:=.ref 151,dict:=some d,data:=.seq vs n}) (od:=some (G6 hh1 t (.int i u) ep)) ⟨hk _ _ e1,rfl,rfl,hk _ _ e3⟩ (fun b o e=>hk _ _ (hk₀ b o e)) ⟨o,hk _ _ (hk₀ _ _ ho),hd⟩ rfl rfl A3.cCount rfl hns (by rfl) (by rfl) (by rfl) (by rfl) (by rfl) rfl rfl (by rfl) ?_
 intro h' tk A' hk'
 show wpAny _ _ (do retInt (←seqSize x)) _ _ _
 unfold seqSize
 refine wpAny_bind (wpAny_bind (wpAny_loadPart (hk' _ _ (hk _ _ e1)) ?_))
 refine wpAny_pure (wpAny_bind (wpAny_mkInt (wpAny_pure ⟨_,rfl,?_⟩)))
 refine ⟨S,loc,hp,R.keeps fun b o e=>hk' _ _ (hk _ _ e),?_⟩
 have:vs.size=xs.length:=M2 e2
 simp only [nm]
 rw [this]
 exact h
end
end
section
open Builtin
structure na (M:Model) (h:Heap):Prop where
 obj:∃ oc od cd sl,h.get? 151=some ⟨oc,od,.cls cd,sl⟩∧cd.abstract=false∧cd.hasDel=false∧cd.mro.isEmpty=false
 made:Looks M h (Bind.madeBy (.ref 151)) (some "list.__new__")
 base:Looks M h (Bind.staticBase (.ref 151)) (.ref 151)
 self:Looks M h (isSubtype (.ref 151) (.ref 151)) true
 top:Looks M h (isSubtype (.ref 151) (.type "list")) true
 call:Looks M h (specialOf (.ref 151) "__call__") (some (.builtin "type.__call__"))
 typ:Looks M h (isInstance (.ref 151) (.type "type")) true
theorem jO {K:Frag} {M:Model} {h:Heap} (X:K.In h) (A1:H4 K) (A2:aK K):na M h:=by
 refine D9 (A2.obj) fun oc od cd sl ho e1 e2 zr0=>B0 zr0 fun e3 e4=>?_
 have hc:clsIn K 151=some cd:=by unfold clsIn;rw [ho]
 have hm:Looks M h (mroOf (.ref 151)) cd.mro:=(looks_clsIn X hc).andThen .now
 have made:Looks M h (Bind.madeBy (.ref 151)) (some "list.__new__"):=by
  intro A Q E s k q
  unfold Bind.madeBy
  refine wpAny_bind (hm A _ E s k ?_)
  rw [e1,List.forIn_cons]
  refine wpAny_bind (wpAny_bind (wpAny_bind (wpAny_bind (wpAny_loadPart (k _ _ (X _ _ ho)) (wpAny_pure ?_)))))
  dsimp only
  rw [←Array.getElem?_toList,e4]
  exact wpAny_pure (wpAny_pure (wpAny_pure q))
 refine ⟨⟨oc,od,cd,sl,X _ _ ho,e2,e3,by rw [e1];rfl⟩,made,?_,looks_mroIn X ?_,looks_mroIn X A1.sub,looks_specialIn X A2.call,looks_instIn X A2.typ⟩
 ·intro A Q E s k q
  unfold Bind.staticBase
  refine wpAny_bind (hm A _ E s k ?_)
  rw [e1,List.forIn_cons]
  exact wpAny_bind (wpAny_bind (wpAny_bind (made A _ E s k (wpAny_pure (wpAny_pure (wpAny_pure q))))))
 ·unfold mroIn;rw [hc,Option.bind_some,e1];rfl
noncomputable abbrev O5 (d:Addr):Obj:={cls:=.ref 151,dict:=some d,data:=.seq #[]}
theorem BN:builtinKind "list.__new__" = some .builtinFn:=by decide +kernel
theorem oW:splitId "list.__new__" = some ("list","__new__"):=by decide +kernel
section
variable {prog:Program} {w:World} {A:Around} {K:Frag} {R:Result→Shared→Prop} {h:Heap} {g:Array GenState} {d:Drawn} {t:Nat} {os:OsState}
theorem zO {v:Value} (Y:na (model prog w) h)
  (hq:R (.ok (.ret (.ref (h.objs.size+1)))) ⟨(h.push emptyDict).push (O5 h.objs.size),g,d,t,os⟩) :
  codeAny (model prog w) A (.call (.builtin "list.__new__") ⟨[.ref 151,v],[]⟩) R ⟨h,g,d,t,os⟩:=by
 obtain ⟨⟨oc,od,cd,sl,hC,e1,e2,e4⟩,made,base,self,top,call,typ⟩:=Y
 refine codeAny_call_builtin_code (Code.quiet_builtin _ (by decide +kernel)) ?_
 simp only [checkBuiltinCall,BN,oW]
 have hit:Looks (model prog w) h (isType (.ref 151)) true:=by
  intro A Q E s k q
  delta isType loadHead
  exact wpAny_bind (wpAny_loadPart (k _ _ hC) (wpAny_pure q))
 repeat (first | simp only [Bool.not_true,Bool.false_eq_true,if_false] | (with_reducible refine Looks.at hit ?_) | (with_reducible refine Looks.at top ?_) | (with_reducible refine Looks.at base ?_) | (with_reducible refine Looks.at made ?_) | lk)
 refine codeAny_builtin_stack PySem.F.entry_list_new rfl fun p st=>?_
 rw [Around.under_plainId PySem.F.plain_list_new _]
 simp only [owner_list_new]
 have tail:∀ A',wpAny (model prog w) A' (do
   let .ref dd ←newDict | unsupported "internal:list.__new__"
   ret (←newObj (.ref 151) (.seq #[]) (some dd))) (fun fin s'=>match fin with | .done f=>R (.ok f) s' | .again c'=>c'.quiet=true∧codeAny (model prog w) A c' R s') (fun e s'=>R (.error e) s') ⟨h,g,d,t,os⟩:=by
  intro A'
  unfold newDict
  refine wpAny_bind (wpAny_newObj_type ?_ (by size_fits))
  dsimp only
  refine wpAny_bind ?_
  unfold newObj
  delta newObjAsIs classHasDel
  refine wpAny_bind (wpAny_alloc (wpAny_bind (wpAny_bind (wpAny_load (Heap.get?_push_of_some _ (Heap.get?_push_of_some _ hC)) (wpAny_pure ?_)))))
  rw [e2]
  refine wpAny_pure (wpAny_pure ?_)
  show R _ _
  rw [Heap.size_push]
  exact hq
 repeat (first | simp only [Bool.not_true,Bool.false_eq_true,if_false] | (with_reducible refine Looks.at hit ?_) | (with_reducible refine Looks.at top ?_) | exact tail _ | lk)
end
end
section
open Builtin Builtin.ObjectAttr
section
variable {prog:Program} {w:World} {A:Around} {K:Frag} {R:Result→Shared→Prop} {h:Heap} {g:Array GenState} {d:Drawn} {t:Nat} {os:OsState}
theorem zT {v:Value} (X:K.In h) (A1:H4 K) (A2:aK K)
  (hq:codeAny (model prog w) (A.under (.builtin "type.__call__" ⟨[.ref 151,v],[]⟩)) (.call (.ref 89) ⟨[.ref (h.objs.size+1),v],[]⟩) (InitBack (h.objs.size+1) R) ⟨(h.push emptyDict).push (O5 h.objs.size),g,d,t,os⟩) :
  codeAny (model prog w) A (.call (.ref 151) ⟨[v],[]⟩) R ⟨h,g,d,t,os⟩:=by
 have Y':=jO (M:=model prog w) X A1 A2
 have hi:Looks (model prog w) h (typeLookup (.ref 151) "__init__") (some (.ref 89)):=looks_findIn X A1.init
 have hb:∀ self,Looks (model prog w) h (bindSpecial (.ref 89) self) (.ref 89,[self]):=fun self=>bind_fn X self (A1.tf 89 (by decide))
 obtain ⟨⟨oc,od,cd,sl,hC,e1,e2,e4⟩,made,base,self,top,call,typ⟩:=jO (M:=model prog w) X A1 A2
 refine codeAny_of_tree ?_
 show wpAny _ _ (callAny (.ref 151) _) _ _ _
 refine nd_load hC ?_
 show wpAny _ _ (callAny.viaDunder (.ref 151) _) _ _ _
 unfold callAny.viaDunder
 refine wpAny_bind (call.at ?_)
 dsimp only
 simp -iota only [tc_bind]
 refine wpAny_bind (wpAny_pure (wpAny_bind (wpAny_pure ?_)))
 refine wpAny_pure (a:=Fin.again (.call (.builtin "type.__call__") ⟨[.ref 151,v],[]⟩)) (And.intro rfl ?_)
 refine codeAny_call_builtin_at (Code.quiet_builtin _ (by decide +kernel)) entry_typeCall (check_slot tc_kind tc_split typ (tc_args _ _ _) ?_)
 unfold Builtin.«type.__call__»
 have hm:Looks (model prog w) h (mroOf (.ref 151)) cd.mro:=((Looks.ld (part:=none) hC).andThen .now).andThen .now
 repeat (first | simp only [e4,Bool.false_eq_true,if_false] | with_reducible refine wpAny_call ?_ | lk)
 refine zO Y' ?_
 have k:∀ b o,h.get? b=some o→((h.push emptyDict).push (O5 h.objs.size)).get? b=some o:=fun b o e=>Heap.get?_push_of_some _ (Heap.get?_push_of_some _ e)
 have hx:((h.push emptyDict).push (O5 h.objs.size)).get? (h.objs.size+1)=some (O5 h.objs.size):=by heap_get
 have t1:Looks (model prog w) ((h.push emptyDict).push (O5 h.objs.size)) (typeOf (.ref (h.objs.size+1))) (.ref 151):=(Looks.ld hx).andThen .now
 have s1:=self.keeps k
 have i1:=hi.keeps k
 have b1:=(hb (.ref (h.objs.size+1))).keeps k
 unfold isInstance callSpecial? specialOf
 repeat (first | with_reducible refine wpAny_call ?_ | lk)
 refine codeAny_mono hq fun r s' z=>?_
 rcases r with e | (v | _ | _ | _) <;> first | exact z | exact z.elim | skip
 obtain ⟨rfl,z⟩:=z
 exact wpAny_pure (wpAny_pure z)
end
theorem zn:classOwn (.type "list") "__setattr__" = pure none:=by kernel_rfl
theorem pv (self:Value) (l:List Value):refuseLoop self "__setattr__" (.type "list"::l)=refuseLoop self "__setattr__" l:=by
 unfold refuseLoop
 simp -iota only [List.forIn_cons,zn]
 rfl
theorem pr (self:Value):refuseLoop self "__setattr__" [.ref 151,.type "list",.type "object"]=pure ():=by
 rw [refuseLoop_ref,pv]
 exact PySem.F.store_object.passes self
section
variable {C:Cx} {A:Around} {E:Value→Shared→Prop} {x d:Addr} {K:Frag} {s:Shared} {vs:Array Value} {n:Nat}
theorem ph {v:Value} {Q:Unit→Shared→Prop} (X:K.In s.heap) (A1:H4 K) (A2:aK K) (I:InstAt s.heap x {cls:=.ref 151,dict:=some d,data:=.seq vs n} 151 (some emptyDict)) (hd:s.heap.get? d=some emptyDict)
  (h:∀ h' tk hh u ep,h'.get? d=some (G6 hh u v ep)→Heap.ExtBut d s.heap h'→Q () {s with heap:=h',toks:=tk}) :
  wpAny (model C.prog C.w) A (setAttr (.ref x) "_initial_size" v) Q E s:=by
 have SF:=PySem.F.store_object
 refine D9 (A2.obj) fun oc od cd sl hK hmro Z zr0=>B0 zr0 fun Z Z=>?_
 have hcl:clsIn K 151=some cd:=by unfold clsIn;rw [hK]
 have hhas:cd.hasDict=true:=by have:=A2.has;rw [hcl] at this;exact this
 obtain ⟨hh,g,dr,t,os⟩:=s
 dsimp only at X I hd
 unfold setAttr
 refine wpAny_bind (wpAny_mkText ?_)
 refine wpAny_bind ?_
 unfold callSpecial? specialOf
 refine wpAny_bind (wpAny_bind (I.type.here ((looks_findIn X A2.sa).here ?_)))
 dsimp only
 refine wpAny_holding ?_
 refine wpAny_bind (wpAny_of_eq (SF.slot.bind _) ?_)
 refine wpAny_bind (wpAny_call ?_)
 have sub:Looks (model C.prog C.w) hh (isInstance (.ref x) (.type "object")) true:=I.type.andThen (looks_mroIn X (by unfold mroIn;rw [hcl,Option.bind_some,hmro];rfl))
 refine codeAny_call_builtin SF.slot.plain SF.entry (@check_slot (model C.prog C.w) _ _ _ "object.__setattr__" "object" "__setattr__" (.ref x) [.str "_initial_size" t,v] [] _ SF.kind SF.split sub (SF.args (.ref x) (.str "_initial_size" t) v) ?_)
 have hm:Looks (model C.prog C.w) hh (mroOf (.ref 151)) cd.mro:=(looks_clsIn X hcl).andThen .now
 show wpAny _ _ (Builtin.«object.__setattr__» ⟨[.ref x,.str "_initial_size" t,v],[]⟩) _ _ _
 rw [osa_eq,refuse_eq]
 refine wpAny_bind (wpAny_bind (I.type.here (wpAny_bind (hm.here ?_))))
 rw [hmro,pr]
 refine wpAny_pure (wpAny_bind (I.type.here (wpAny_bind ((looks_findIn X A2.noSize).here (wpAny_bind (wpAny_pure ?_))))))
 dsimp only
 refine wpAny_bind (wpAny_pure (wpAny_bind (wpAny_bind (wpAny_loadPart I.at_ (wpAny_bind ((looks_clsIn X hcl).here ?_))))))
 rw [hhas]
 refine wpAny_pure (a:=some d) (wpAny_bind (wpAny_pure (wpAny_bind ?_)))
 unfold nsSet
 refine wpAny_bind (wpAny_bind (wpAny_askSetting (wpAny_pure (wpAny_bind (wpAny_mkText (wpAny_bind (wpAny_loadPart hd ?_)))))))
 have ha:aRefKeyMayBeTheName "_initial_size" (#[]:Array DictEntry)=false:=by rw [aRefKeyMayBeTheName_at];simp
 dsimp only
 simp -iota only [ha,if_neg Bool.false_ne_true]
 obtain ⟨H,hH⟩:∃ H,H=(if (("_initial_size":Str)).cps.isEmpty=true then 0 else reduceHash ((C.w.params).strHash ("_initial_size":Str).cps)):=⟨_,rfl⟩
 have hput:Obj.putName "_initial_size" H (.str "_initial_size" (t+1)) v emptyDict=G6 H (t+1) v 1:=by rfl
 have D':(hh.update d (Obj.putName "_initial_size" H (.str "_initial_size" (t+1)) v)).get? d=some (G6 H (t+1) v 1):=by
  simp only [←hput];exact Heap.get?_update_self _ hd rfl
 have hext:Heap.ExtBut d hh (hh.update d (Obj.putName "_initial_size" H (.str "_initial_size" (t+1)) v)):=(Heap.SameBut.update ..).extBut
 subst hH
 refine wpAny_updatePart hd ?_
 refine wpAny_bind (wpAny_lookBehind D' (pastItsLine_dict (by simp only [sizeLine_eq,List.size_toArray];show 1≤_;exact wM)) ?_)
 exact wpAny_pure (wpAny_pure (wpAny_pure (h _ _ _ _ _ D' hext)))
end
end
section
theorem nH (a:Addr) (r:List Value) (kw:List (Str × Value)):(Code.builtin "type.__call__" ⟨.ref a::r,kw⟩).weight=1:=by kernel_rfl
section
variable {C:Cx} {A:Around} {g:Heap} {fr:Fm} {E:Value→Shared→Prop} {loc:j0} {hp:HP} {Q:Value→j0→HP→Prop}
theorem Ek (W:G1 C) (A3:O7 C) {head:Int} (hroom:A.depth+1 < recursionLimit) (h:∀ x p',hp x=none→Y2 p' x head []→m0 hp p'→Q (.ref x) loc p'):M0 C A g fr E (.ref 151) [iv head] [] loc hp Q:=I3 fun v hv=>by
 refine o0 (S0 hv) fun t₀ hR0=>?_;subst hR0
 refine J2 (A3.K) fun K X₀ A1 A2=>?_
 refine o0 (A3.fInit) fun pm F=>?_
 refine z0 (F.at_) fun o ho hd=>?_
 intro s R S
 have hk₀:∀ b o,C.H₀.get? b=some o→s.heap.get? b=some o:=fun b o e=>R.keep b o (R.base b o e)
 obtain ⟨hh,gg,dr,t,os⟩:=s
 dsimp only at R hk₀
 refine wpAny_call (zT (X₀.keeps hk₀) A1 A2 ?_)
 have k1:∀ b o,hh.get? b=some o→((hh.push emptyDict).push (O5 hh.objs.size)).get? b=some o:=fun b o e=>Heap.get?_push_of_some _ (Heap.get?_push_of_some _ e)
 have hx1:((hh.push emptyDict).push (O5 hh.objs.size)).get? (hh.objs.size+1)=some (O5 hh.objs.size):=by heap_get
 have hd1:((hh.push emptyDict).push (O5 hh.objs.size)).get? hh.objs.size=some emptyDict:=by heap_get
 generalize (hh.push emptyDict).push (O5 hh.objs.size)=h2 at k1 hx1 hd1 ⊢
 obtain ⟨x,hx⟩:∃ x,x=hh.objs.size+1:=⟨_,rfl⟩
 rw [←hx] at hx1 ⊢
 refine i8 (A3.dInit) fun dT nT hT=>?_
 refine ks_codeAny_call_defAt (by show A.depth+(Code.builtin "type.__call__" ⟨[.ref 151,_],[]⟩).weight < _;rw [nH];exact hroom) (k1 _ _ (hk₀ _ _ ho)) hd ((W.lim.keeps hk₀).keeps k1) ((F.code.keeps hk₀).keeps k1) (body:=M3 (W3 0)) rfl (kp_binds (kY (k1 _ _ (hk₀ _ _ hT))) fun S=>by rfl:BindsTo _ _ _ [("self",.ref x),("initial_size",.int head t₀)]) (by show ∀ y∈(Z6 (W3 0)).names,y.2≠.cell;decide)
  (fun y hy=>by rcases List.mem_cons.mp hy with rfl | hy;exact rfl;cases List.mem_singleton.mp hy;rfl) fun h₀ hns hk=>?_
 show _root_.PySem.wpAt _ _ _ (execs (_::_::[]) _) _ _ _
 refine ks_wpAt_execs_cons (ks_wpAt_Assign_Attr ?_)
 refine wpAt_of_wpAny (wpAny_Name (wpAny_loadName_local (by rfl) (by rfl) hns rfl ?_) (by rfl))
 refine wpAny_Name (wpAny_loadName_local (by rfl) (by rfl) hns rfl ?_) (by rfl)
 refine ph ((X₀.keeps hk₀).keeps fun b o e=>hk _ _ (k1 b o e)) A1 A2 (d:=hh.objs.size) (vs:=#[]) (n:=0) ⟨hk _ _ hx1,rfl,rfl,hk _ _ hd1⟩ (hk _ _ hd1) fun h3 tk3 H3 u3 ep3 hd3 hext=>?_
 dsimp only at hns hk hext ⊢
 have hx3:h3.get? x=some (O5 hh.objs.size):=hext _ _ (by rw [hx];exact Nat.succ_ne_self _) (hk _ _ hx1)
 have hold:∀ b o,hh.get? b=some o→h3.get? b=some o:=fun b o e=>hext b o (Nat.ne_of_lt (Heap.lt_size e)) (hk _ _ (k1 b o e))
 have hns3:=hns.extBut hext (by
  intro e
  have:=Heap.lt_size hd1
  rw [e] at this
  exact Nat.lt_irrefl _ this)
 refine ks_wpAt_execs_cons (ks_wpAt_Expr_any ?_)
 refine fY (s:=⟨h3,gg,dr,tk3,os⟩) A3 zp oh (by decide +kernel) PySem.F.entry_list_init DU FB (by decide) (ox:=O5 hh.objs.size) (od:=some (G6 H3 u3 (.int head t₀) ep3)) ⟨hx3,rfl,rfl,hd3⟩ (fun b o e=>hold _ _ (hk₀ b o e)) ⟨o,hold _ _ (hk₀ _ _ ho),hd⟩ rfl rfl A3.cInit rfl hns3 (by rfl) (by rfl) (by rfl) (by rfl) (by rfl) rfl rfl (by rfl) ?_
 intro h4 tk A' hk4
 dsimp only at hk4
 have hx4:=hk4 _ _ hx3
 show wpAny _ _ (Builtin.List.listItems (.ref x) >>= _) _ _ _
 unfold Builtin.List.listItems
 refine wpAny_bind (wpAny_bind (wpAny_seqItems hx4 rfl (wpAny_pure ?_)))
 refine wpAny_bind ?_
 show wpAny _ _ (updateSeq x fun Z=>#[]) _ _ _
 refine wpAny_updateSeq hx4 rfl ?_ (by rw [sizeLine_eq];decide) (by rw [sizeLine_eq];decide)
 refine wpAny_bind (wpAny_letGo ?_)
 refine wpAny_pure ⟨.none,rfl,?_⟩
 have hlt:hh.objs.size≠x:=by rw [hx];exact (Nat.succ_ne_self _).symm
 have hx5:=Heap.get?_update_self (Obj.mapSeq fun Z=>#[]) hx4 rfl
 have hext5:Heap.ExtBut x h4 (h4.update x (Obj.mapSeq fun Z=>#[])):=(Heap.SameBut.update ..).extBut
 have hd5:=hext5 _ _ hlt (hk4 _ _ hd3)
 have hold5:∀ b o,hh.get? b=some o→(h4.update x (Obj.mapSeq fun Z=>#[])).get? b=some o:=fun b o e=>hext5 _ _ (Nat.ne_of_lt (Nat.lt_trans (Heap.lt_size e) (by rw [hx];exact Nat.lt_succ_self _))) (hk4 _ _ (hold b o e))
 have hpx:hp x=none:=by
  cases e:hp x with
  | none=>rfl
  | some ao=>exact absurd (R.lt_of_hp e) (by rw [hx];exact Nat.not_lt.mpr (Nat.le_succ _))
 have hpd:hp hh.objs.size=none:=R.none_at
 obtain ⟨p',hp'⟩:∃ p',p'=k0 (k0 hp hh.objs.size (S5 head)) x (.acc 151 hh.objs.size []):=⟨_,rfl⟩
 have q1:p' x=some (.acc 151 hh.objs.size []):=by simp only [hp',s0]
 have q2:p' hh.objs.size=some (S5 head):=by rw [hp',H0 _ _ hlt,s0]
 have q3:m0 hp p':=by
  rw [hp']
  intro b o e
  exact E1 (by rw [H0 _ _ hlt.symm];exact hpx) (E1 hpd e)
 refine wpAt_of_wpAny (wpAny_pure ⟨rfl,S,loc,p',R.step (W:=fun Z=>False) (fun Z z=>z.elim) (fun b o Z e=>hold5 b o e) fun b ao e=>?_,h x p' hpx ⟨_,q1,q2⟩ q3⟩)
 by_cases w1:b=x
 ·subst w1
  rw [q1] at e;cases e
  exact ⟨.inr (by rw [hx];exact Nat.le_succ _),_,hx5,#[],_,rfl,rfl⟩
 ·by_cases w2:b=hh.objs.size
  ·subst w2
   rw [q2] at e;cases e
   exact ⟨.inr (Nat.le_refl _),_,hd5,H3,u3,t₀,ep3,rfl⟩
  ·rw [hp',H0 _ _ w1,H0 _ _ w2] at e
   refine Q2 (R.at_ b ao e) fun Z Z Z o ho hi=>?_
   exact ⟨.inl ⟨_,e⟩,o,hold5 _ _ ho,hi⟩
end
end
section
theorem mY:∀ d:Fin 64,Builtin.bitAnd ((d.val:Int)+64) 63=d.val∧Builtin.bitAnd ((d.val:Int)+128) 63=d.val∧Builtin.bitAnd ((d.val:Int)+64) 64=64∧Builtin.bitAnd ((d.val:Int)+128) 64=0:=by decide +kernel
theorem zq (v d:Nat) (h:d < 64):Builtin.bitOr ((v:Int)*64) (d:Int)=(v:Int)*64+d:=by
 rw [bitOr_and,bitAnd_pp (by exact wL) (by exact q0)]
 have e1:((v:Int)*64).toNat=v*64:=by exact wK
 have e2:((d:Int)).toNat=d:=by exact wJ
 simp only [e1,e2]
 have e3:v*64 &&& d=0:=by
  have h1:d &&& (2 ^ 6 - 1)=d % 2 ^ 6:=Nat.and_two_pow_sub_one_eq_mod d 6
  have h2:(v*64) &&& (2 ^ 6 - 1)=(v*64) % 2 ^ 6:=Nat.and_two_pow_sub_one_eq_mod _ 6
  have h3:d % 2 ^ 6=d:=Nat.mod_eq_of_lt h
  have h4:(v*64) % 2 ^ 6=0:=Nat.mul_mod_left v 64
  rw [h3] at h1
  rw [h4] at h2
  calc v*64 &&& d=v*64 &&& (d &&& (2 ^ 6 - 1)):=by rw [h1]
   _=(v*64 &&& (2 ^ 6 - 1)) &&& d:=by simp only [Nat.and_comm d,Nat.and_assoc]
   _=0:=by rw [h2];simp
 rw [e3];exact wI
section
variable {C:Cx} {A:Around} {g:Heap} {fr:Fm} {E:Value→Shared→Prop} {loc:j0} {hp:HP} {a I:Addr} {i:Nat} {xs:List Value} {v:Value} {Q:Value→j0→HP→Prop}
theorem mt (hI:hp I=some (X0 a i)) (ha:hp a=some (.list xs)) (hx:xs[i]?=some v) (h:Q v loc (k0 hp I (X0 a (i+1)))):M0 C A g fr E (.builtin "next") [.ref I] [] loc hp Q:=I3 fun u hu=>by
 have:=Q0 hu;subst this
 intro s R S
 refine V0 (R.list ha) fun us n e q=>?_
 refine z0 (X5 q hx) fun u hu' hR0=>?_;subst hR0
 have hit:=R.iter hI
 refine J2 (id hit) fun o ho hc hd=>?_
 refine Calls.call_function_entry (by decide +kernel) (by decide +kernel) kdk_entry_next (kdk_args_next _) ?_
 unfold Builtin.«next»
 refine wpAny_bind (m:=someArgs "next" 1 2 _) (wpAny_of_eq (a:=[Value.ref I]) (by first | rfl | kernel_rfl!) ?_)
 dsimp only
 refine wpAny_bind (wpAny_specialOf (name:=Str.ofString "__next__") hit.typeIs slot_listiter_next.lookup ?_)
 refine wpAny_ite_split (fun hab=>absurd hab (by decide)) (fun Z=>?_)
 refine wpAny_bind (wpAny_callSpecial?_slot (name:=Str.ofString "__next__") hit.typeIs slot_listiter_next (wpAny_call_entry slot_listiter_next hit.typeIs entry_listiter_next ?_ (args_listiter_next _)))
 show wpAny _ _ (field (.ref I) 0 >>= _) _ _ s
 refine wpAny_bind (wpAny_field ho hd (x:=.ref a) rfl ?_)
 show wpAny _ _ (if (Value.ref a == Value.none)=true then _ else _) _ _ s
 rw [if_neg (show ¬((Value.ref a == Value.none)=true) from Bool.false_ne_true)]
 show wpAny _ _ (field (.ref I) 1 >>= _) _ _ s
 refine wpAny_bind (wpAny_field ho hd (x:=.int i 0) rfl ?_)
 show wpAny _ _ (seqItems? (.ref a) >>= _) _ _ s
 refine wpAny_bind (wpAny_seqItems e rfl ?_)
 simp only [Int.toNat_natCast,hu']
 refine wpAny_bind (wpAny_setField ho hd (by exact Nat.le_refl _) (wpAny_pure ⟨u,rfl,wpAny_pure ⟨_,rfl,S,loc,_,?_,h⟩⟩))
 refine R.chg hI (Heap.SameBut.update ..).extBut (Heap.get?_update_self _ ho (Obj.isFreed_of_fields (Obj.data_mapFields hd _))) (ao':=X0 a (i+1)) ⟨(Obj.cls_mapFields ..).trans hc,?_⟩
 rw [Obj.data_mapFields hd];rfl
noncomputable def Z4 (ds:List Nat) (v:Nat):Nat:=ds.foldl (fun v d=>v*64+d) v
theorem fQ:∀ (ds:List Nat) (v:Nat),(∀ d∈ds,d < 64)→Z4 ds v < (v+1)*64 ^ ds.length
 | [],v,_=>by simp [Z4]
 | d::ds,v,h=>by
  have:=fQ ds (v*64+d) fun e he=>h e (.tail _ he)
  have hd:=h d (.head _)
  refine Nat.lt_of_lt_of_le this ?_
  simp only [List.length_cons,Nat.pow_succ,Nat.mul_comm (64 ^ ds.length) 64,←Nat.mul_assoc]
  exact Nat.mul_le_mul_right _ (by exact wH hd)
theorem nM (ds:List Nat) (d v:Nat):Z4 (ds++[d]) v=Z4 ds v*64+d:=by unfold Z4;rw [List.foldl_append];rfl
noncomputable def Q6 (ds:List Nat) (last k:Nat):Int:=if k < ds.length then ((ds.getD k 0:Nat):Int)+64 else (last:Int)+128
theorem nK (W:G1 C) {os:List Int} {ds:List Nat} {last:Nat} (hroom:A.depth < recursionLimit) (hI:hp I=some (X0 a i)) (ha:hp a=some (.list (os.map iv))) (hds:∀ d∈ds,d < 64) (hlast:last < 64) (hln:ds.length≤2)
  (hos:∀ k,k≤ds.length→os[i+k]?=some (Q6 ds last k)) (h:Q (iv (Z4 (ds++[last]) 0:Nat)) loc (k0 hp I (X0 a (i+ds.length+1)))):M0 C A g fr E (.ref 72) [.ref I] [] loc hp Q:=I3 fun u hu=>by
 refine o0 (W.fVarint) fun pm F=>?_
 have hnext:=W.next
 have haI:a≠I:=by rintro rfl;rw [ha] at hI;exact R3 hI
 have hfull:∀ k,k≤ds.length→(ds++[last]).getD k 0 < 64∧(Builtin.bitAnd (Q6 ds last k) 63=((ds++[last]).getD k 0:Nat))∧Builtin.bitAnd (Q6 ds last k) 64=if k < ds.length then 64 else 0:=fun k hk=>by
  unfold Q6
  by_cases q:k < ds.length
  ·have e:(ds++[last]).getD k 0=ds.getD k 0:=by simp [List.getD_eq_getElem?_getD,List.getElem?_append_left q]
   have hb:ds.getD k 0 < 64:=by
    rw [List.getD_eq_getElem?_getD,List.getElem?_eq_getElem q]
    exact hds _ (List.getElem_mem q)
   refine P1 (mY ⟨ds.getD k 0,hb⟩) fun h1 h2 h3 h4=>?_
   rw [e,if_pos q,if_pos q]
   exact ⟨hb,h1,h3⟩
  ·have e0:k=ds.length:=by exact T7 hk q
   have e:(ds++[last]).getD k 0=last:=by simp [List.getD_eq_getElem?_getD,e0]
   refine P1 (mY ⟨last,hlast⟩) fun h1 h2 h3 h4=>?_
   rw [e,if_neg q,if_neg q]
   exact ⟨hlast,h2,h4⟩
 have hval:∀ k,k≤ds.length→Z4 ((ds++[last]).take k) 0 < 2 ^ 12:=fun k hk=>by
  have h1:=fQ ((ds++[last]).take k) 0 fun d hd=>by
   rcases List.mem_append.mp (List.mem_of_mem_take hd) with h | h
   ·exact hds d h
   ·cases List.mem_singleton.mp h;exact hlast
  refine Nat.lt_of_lt_of_le h1 ?_
  have h2:((ds++[last]).take k).length≤2:=by rw [List.length_take];exact wG hln hk
  have h3:64 ^ ((ds++[last]).take k).length≤64 ^ 2:=Nat.pow_le_pow_right (by decide) h2
  exact Nat.le_trans (Nat.le_of_eq (Nat.one_mul _)) h3
 have htake:∀ k,k≤ds.length→Z4 ((ds++[last]).take (k+1)) 0=Z4 ((ds++[last]).take k) 0*64+(ds++[last]).getD k 0:=fun k hk=>by
  have hk':k < (ds++[last]).length:=by simp;exact dB hk
  simp only [List.take_add_one,List.getElem?_eq_getElem hk',List.getD_eq_getElem?_getD,List.getElem?_eq_getElem hk']
  exact nM ..
 refine X4 F rfl rfl W.lim hroom (binds:=[("iterator",u)]) (fun s hk=>kp_binds E5 fun S=>by rfl) (by rfl) rfl rfl (by rfl) fun A' g' fr' E' hd hu' hh' hF=>?_
 dsimp only [X1]
 rw [hu]
 clear F
 refine Y1 ?_
 repeat' walk_at "kl"
 refine mt hI ha (v:=iv (Q6 ds last 0)) (by rw [List.getElem?_map,←Nat.add_zero i,hos 0 (Nat.zero_le _)];rfl) ?_
 repeat' walk_at "kl"
 simp only [(hfull 0 (Nat.zero_le _)).2.1]
 refine aE (fun n l p=>∃ k:Nat,n=ds.length - k∧k≤ds.length∧p=k0 hp I (X0 a (i+k+1))∧l "iterator" = some (.ref I)∧l "b" = some (iv (Q6 ds last k))∧l "val" = some (iv (Z4 ((ds++[last]).take (k+1)) 0:Nat))) ?turn _ ⟨0,rfl,Nat.zero_le _,rfl,?_,?_,?_⟩
 case turn=>
  intro n l p E'' hZ0;refine lG hZ0 fun k hR0 hk hR1 e1 e2 e3=>?_;clear hZ0;subst hR0;subst hR1
  repeat' walk_at "kl"
  rw [(hfull k hk).2.2]
  by_cases hlt:k < ds.length
  ·rw [if_pos hlt]
   repeat' walk_at "kl"
   have hv:=hval (k+1) hlt
   have hb:Builtin.Int.intBits ((Z4 ((ds++[last]).take (k+1)) 0:Nat):Int)≤12:=intBits_le_iff.mpr (by simp only [Int.natAbs_natCast];exact hv)
   refine zx (by decide) (Int.le_trans (Int.add_le_add_right (Int.ofNat_le.mpr hb) 6) (by decide)) ?_
   repeat' walk_at "kl"
   refine mt (s0 ..) (by rw [H0 _ _ haI];exact ha) (v:=iv (Q6 ds last (k+1))) (by simp only [List.getElem?_map,show i+k+1=i+(k+1) from rfl,hos (k+1) hlt];rfl) ?_
   simp only [X6]
   repeat' walk_at "kl"
   rw [(hfull (k+1) hlt).2.1]
   simp only [show (6:Int).toNat=6 from rfl,show (2:Int) ^ 6=64 from rfl,zq _ _ (hfull (k+1) hlt).1]
   refine ⟨ds.length - (k+1),by exact C8 hlt,k+1,rfl,hlt,rfl,?_,?_,?_⟩
   ·walk_at "loc"
   ·walk_at "loc"
   ·simp only [htake (k+1) hlt]
    walk_at "loc"
  ·rw [if_neg hlt]
   repeat' walk_at "kl"
   have ek:k=ds.length:=by exact T7 hk hlt
   subst ek
   rw [show (ds++[last]).take (ds.length+1)=ds++[last] from List.take_of_length_le (by simp)] at *
   exact h
 ·walk_at "loc"
 ·walk_at "loc"
 ·rw [htake 0 (Nat.zero_le _)]
  simp only [List.take_zero,Z4,List.foldl_nil,Nat.zero_mul,Nat.zero_add]
  walk_at "loc"
end
end
section
section
variable {C:Cx} {A:Around} {g:Heap} {fr:Fm} {E:Value→Shared→Prop} {loc:j0} {hp:HP} {a I:Addr} {i:Nat} {xs:List Value} {Q:Value→j0→HP→Prop}
structure FY (I:Addr) (h h':Heap) (e:Addr):Prop where
 keep:∀ b o,b≠I→h.get? b=some o→h'.get? b=some o
 new:h.objs.size≤e
 there:∃ o vs,h'.get? e=some o∧o.cls=.type "StopIteration"∧o.data=.fields vs∧vs[1]?=some .none
theorem Ef (hh:A.handled=none) (hI:hp I=some (X0 a i)) (ha:hp a=some (.list xs)) (hx:xs[i]?=none)
  (h:∀ s e h' tk,F0 C.H₀ g fr loc hp s.heap→H2 C s→FY I s.heap h' e→E (.ref e) {s with heap:=h',toks:=tk}):M0 C A g fr E (.builtin "next") [.ref I] [] loc hp Q:=I3 fun u hu=>by
 have:=Q0 hu;subst this
 intro s R S
 refine V0 (R.list ha) fun us n e q=>?_
 have hu':us[i]?=none:=by
  have h1:=M2 q
  have h2:=List.getElem?_eq_none_iff.mp hx
  exact Array.getElem?_eq_none (by exact wF h2 h1)
 have hit:=R.iter hI
 refine J2 (id hit) fun o ho hc hd=>?_
 refine Calls.call_function_entry (by decide +kernel) (by decide +kernel) kdk_entry_next (kdk_args_next _) ?_
 unfold Builtin.«next»
 refine wpAny_bind (m:=someArgs "next" 1 2 _) (wpAny_of_eq (a:=[Value.ref I]) (by first | rfl | kernel_rfl!) ?_)
 dsimp only
 refine wpAny_bind (wpAny_specialOf (name:=Str.ofString "__next__") hit.typeIs slot_listiter_next.lookup ?_)
 refine wpAny_ite_split (fun hab=>absurd hab (by decide)) (fun Z=>?_)
 refine wpAny_bind (wpAny_callSpecial?_slot (name:=Str.ofString "__next__") hit.typeIs slot_listiter_next (wpAny_call_entry slot_listiter_next hit.typeIs entry_listiter_next ?_ (args_listiter_next _)))
 show wpAny _ _ (field (.ref I) 0 >>= _) _ _ s
 refine wpAny_bind (wpAny_field ho hd (x:=.ref a) rfl ?_)
 show wpAny _ _ (if (Value.ref a == Value.none)=true then _ else _) _ _ s
 rw [if_neg (show ¬((Value.ref a == Value.none)=true) from Bool.false_ne_true)]
 show wpAny _ _ (field (.ref I) 1 >>= _) _ _ s
 refine wpAny_bind (wpAny_field ho hd (x:=.int i 0) rfl ?_)
 show wpAny _ _ (seqItems? (.ref a) >>= _) _ _ s
 refine wpAny_bind (wpAny_seqItems e rfl ?_)
 simp only [Int.toNat_natCast,hu']
 refine wpAny_bind (wpAny_rule (wpAny_bind (wpAny_setField ho hd (by simp) ?_)))
 show wpAny _ _ (newExc (.type "StopIteration") [] >>= _) _ _ _
 refine wpAny_bind ?_
 simp only [newExc,newTuple]
 refine wpAny_bind (wpAny_newObj_type ?_ (by size_fits))
 refine wpAny_bind (m:=firstArgMember _ _) (wpAny_of_eq (a:=Value.none) (by first | rfl | (simp only [firstArgMember];rfl)) ?_)
 refine wpAny_newObj_type ?_ (by size_fits)
 dsimp only [raiseNew]
 refine wpAny_bind (wpAny_handled ?_)
 rw [show A.in1.in1.handled=none from hh]
 refine wpAny_bind (wpAny_pure (wpAny_throw ?_))
 refine h s _ _ _ R S ⟨fun b o hb hbo=>Heap.get?_push_of_some _ (Heap.get?_push_of_some _ ((Heap.SameBut.update ..).extBut b o hb hbo)),?_,_,_,Heap.get?_push_size _ rfl,rfl,rfl,?_⟩
 ·rw [Heap.size_push,Heap.size_after_update];exact Nat.le_succ _
 ·rfl
end
section
variable {M:Model} {A:Around} {E:Value→Shared→Prop} {s:Shared}
theorem zK {base:Heap} {env:Env} {outer:List Env} {L e:Addr} {cls:Value} {Q:Unit→Shared→Prop}
  (hfr:A.frames=some (env::outer)) (hl:s.heap.FunFrames base (env::outer)) (hf:env.frame=some L) (ht:s.heap.Traced base e cls) (hkb:base.StaysIn s.heap) (hen:base.get? e=none)
  (h:∀ h',Heap.Left base (env::outer) e cls s.heap h'→Q () {s with heap:=h'}):wpAny M A (noteFrame (.ref e) env) (fun Z s'=>wpAny M A (setFlight (.ref e) none) Q E s') E s:=by
 refine e8 ht fun oe vs T oT ts he hcls zr0=>fj zr0 fun hd h1 hnT hTe hT hdT h3=>?_;try clear ht
 subst hcls
 unfold noteFrame
 simp only [hf]
 refine wpAny_bind (wpAny_field he hd h1 ?_)
 rw [if_pos (show (Value.ref T != Value.none)=true from by rfl)]
 refine wpAny_bind (wpAny_field hT hdT h3 ?_)
 rw [if_neg (show ¬((Value.none == rawInt L)=true) from by exact Bool.false_ne_true)]
 refine wpAny_bind (wpAny_setField hT hdT (Array.getElem?_eq_some_iff.mp h3).1 ?_)
 have other:∀ b,b≠T→(s.heap.update T (Obj.mapFields (·.setIfInBounds 3 Value.none))).get? b=s.heap.get? b:=fun b hb=>Heap.get?_update_other _ _ (Ne.symm hb)
 have noRecord:∀ b o,s.heap.get? b=some o→(∀ vs,o.data≠.fields vs)→b≠T:=fun b o hb hnf q=>by
  rw [q,hT] at hb;injection hb with hb;subst hb;exact hnf ts hdT
 refine wpAny_newEntry hfr (hl.of_keeps fun b o hb hnf=>⟨o,(other b (noRecord b o hb hnf)).trans hb,rfl⟩) hf ((other e (Ne.symm hTe)).trans he)
  (fun b o hbo=>(other b fun q=>by rw [q,hnT] at hbo;exact J0 hbo).trans (hkb b o hbo)) hen hd (Array.getElem?_eq_some_iff.mp h1).1
  fun h' hZ0=>P1 hZ0 fun x1 x2 x3 x4=>h h' ⟨x1,x2,x3,fun b o hb hnf=>x4 b o ((other b (noRecord b o hb hnf)).trans hb) hnf⟩
end
end
section
structure r7 (C:Cx) (g:Heap) (fr:Fm) (loc:j0) (hp:HP) (I fL:Addr) (e:Addr) (s:Shared):Prop where
 sok:H2 C s
 ex:∃ h₁ l,F0 C.H₀ g fr loc hp h₁∧(∀ b∈l,(b≠fr.env.locals→g.get? b=none)∧(∀ x c,fr.env.cells.lookup x=some c→c≠b)∧(hp b=none∨b=I∨b=fL))∧fr.env.locals∈l∧fL∈l∧(hideAll h₁ l).StaysIn s.heap∧
  (∀ b o,b=fr.env.locals∨b=fL→h₁.get? b=some o→∃ sl,s.heap.get? b=some {o with slots:=sl})∧(hideAll h₁ l).get? e=none∧s.heap.Traced (hideAll h₁ l) e (.type "StopIteration")
noncomputable def S8 (P:Obj→Prop):Prop:=∀ o,P o→(∀ sl,P {o with slots:=sl})∧∀ vs,o.data≠.fields vs
noncomputable def L8 (hp:HP) (I:Addr):HP:=fun b=>if b=I then none else hp b
section
variable {C:Cx} {A:Around} {g:Heap} {fr:Fm} {E:Value→Shared→Prop} {loc:j0} {hp:HP} {a I fL e:Addr} {i:Nat} {xs:List Value} {Q:Value→j0→HP→Prop} {P:Obj→Prop} {s:Shared} {law:Env}
theorem r7.rep (f:r7 C g fr loc hp I fL e s) (hP:hp fL=some (.sat P)) (sf:S8 P):F0 C.H₀ g fr loc (L8 hp I) s.heap:=by
 refine i6 (f.ex) fun h₁ l R hl hL hf hb zr0=>V1 zr0 fun hs Z Z=>?_
 have keep:∀ b o,b∉l→h₁.get? b=some o→s.heap.get? b=some o:=fun b o hbl e=>hb b o (hideAll_get _ e hbl)
 have nsK:∀ m,h₁.Ns fr.env.locals m→s.heap.Ns fr.env.locals m:=fun m hZ0=>cf hZ0 fun o es ep e r=>by
  refine o0 (hs _ o (.inl rfl) e) fun sl e'=>?_
  exact ⟨_,es,ep,e',r⟩
 have cK:∀ x c v,fr.env.cells.lookup x=some c→h₁.IsCell c v→s.heap.IsCell c v:=fun x c v lk hZ0=>z0 hZ0 fun o e r=>⟨o,keep _ _ (fun q=>(hl c q).2.1 x c lk rfl) e,r⟩
 refine ⟨fun b o e=>keep b o (fun q=>?_) (R.keep b o e),R.base,fun x v e=>?_,?_,R.nsn,R.cell,fun x c lk=>?_,R.apart,fun b ao e=>?_⟩
 ·by_cases hbL:b=fr.env.locals
  ·rw [hbL,R.nsn] at e;exact J0 e
  ·rw [(hl b q).1 hbL] at e;exact J0 e
 ·rcases R.loc x v e with ⟨k,m,v',n,q⟩ | ⟨k,c,v',lk,n,q⟩
  ·exact .inl ⟨k,m,v',nsK m n,q⟩
  ·exact .inr ⟨k,c,v',lk,cK x c _ lk n,q⟩
 ·refine o0 (R.ns) fun m n=>?_;exact ⟨m,nsK m n⟩
 ·refine P5 (R.cne x c lk) fun a v n=>?_;exact ⟨a,v,cK x c v lk n⟩
 ·unfold L8 at e
  by_cases hbI:b=I
  ·rw [if_pos hbI] at e;exact J0 e
  ·rw [if_neg hbI] at e
   refine Q2 (R.at_ b ao e) fun a1 a2 a3 o ho hi=>?_
   refine ⟨a1,a2,a3,?_⟩
   by_cases hbf:b=fL
   ·subst hbf
    rw [hP] at e;cases e
    refine o0 (hs _ o (.inr rfl) ho) fun sl e'=>?_
    exact ⟨_,e',(sf o hi).1 sl⟩
   ·refine ⟨o,keep b o (fun q=>?_) ho,hi⟩
    rcases (hl b q).2.2 with w | w | w
    ·rw [w] at e;exact J0 e
    ·exact hbI w
    ·exact hbf w
theorem r7.frames (f:r7 C g fr loc hp I fL e s) (hP:hp fL=some (.sat P)) (sf:S8 P) (hk:fr.env.scope.kind=.function) (hff:fr.env.frame=some fr.env.locals) (hlk:law.scope.kind=.function) (hlf:law.frame=some fL) :
  ∃ base,base.StaysIn s.heap∧base.get? e=none∧s.heap.FunFrames base [fr.env,law]∧s.heap.Traced base e (.type "StopIteration")∧∀ h',Heap.Left base [fr.env,law] e (.type "StopIteration") s.heap h'→r7 C g fr loc hp I fL e {s with heap:=h'}:=by
 refine i6 (f.ex) fun h₁ l R hl hL hf hb zr0=>V1 zr0 fun hs hen htr=>?_
 refine an (R.ns) fun m oL es ep hoL hdL Z=>?_
 refine Q2 (R.at_ _ _ hP) fun Z Z Z oF hoF hPF=>?_
 refine o0 (hs _ oL (.inl rfl) hoL) fun slL hsL=>?_
 refine o0 (hs _ oF (.inr rfl) hoF) fun slF hsF=>?_
 have nL:∀ vs,({oL with slots:=slL}:Obj).data≠.fields vs:=fun vs q=>by
  have q':oL.data=.fields vs:=q
  rw [hdL] at q';cases q'
 have nF:∀ vs,({oF with slots:=slF}:Obj).data≠.fields vs:=(sf oF hPF).2
 refine ⟨hideAll h₁ l,hb,hen,⟨by rw [hk];decide,⟨_,_,hff,hideAll_none _ hL,hsL,nL⟩,⟨by rw [hlk];decide,⟨_,_,hlf,hideAll_none _ hf,hsF,nF⟩,trivial⟩⟩,htr,fun h' hZ0=>P1 hZ0 fun k1 k2 k3 k4=>⟨f.sok,h₁,l,R,hl,hL,hf,k1,fun b o hbb ho=>?_,hen,k3⟩⟩
 rcases hbb with w | w
 ·subst w
  rw [hoL] at ho;cases ho
  refine o0 (k4 _ _ hsL nL) fun sl e'=>?_
  exact ⟨sl,e'⟩
 ·subst w
  rw [hoF] at ho;cases ho
  refine o0 (k4 _ _ hsF nF) fun sl e'=>?_
  exact ⟨sl,e'⟩
theorem r7.flight (f:r7 C g fr loc hp I fL e s) (hP:hp fL=some (.sat P)) (sf:S8 P) {M:Model} {A:Around} {E:Value→Shared→Prop} {Q:Unit→Shared→Prop} (h:∀ h',r7 C g fr loc hp I fL e {s with heap:=h'}→Q () {s with heap:=h'}):wpAny M A (setFlight (.ref e) none) Q E s:=by
 refine i6 (f.ex) fun h₁ l R hl hL hf hb zr0=>V1 zr0 fun hs hen htr=>?_
 refine an (R.ns) fun m oL es ep hoL hdL Z=>?_
 refine Q2 (R.at_ _ _ hP) fun Z Z Z oF hoF hPF=>?_
 refine e8 htr fun oe vs T oT ts he hcls zr0=>fj zr0 fun hd h1 hnT hTe hT hdT h3=>?_;try clear htr
 have other:∀ b,b≠T→(s.heap.update T (Obj.mapFields (·.setIfInBounds 3 Value.none))).get? b=s.heap.get? b:=fun b hb=>Heap.get?_update_other _ _ (Ne.symm hb)
 refine wpAny_setFlight_none he hd h1 hT hdT (Array.getElem?_eq_some_iff.mp h3).1 (h _ ⟨f.sok,h₁,l,R,hl,hL,hf,fun b o hbo=>?_,fun b o hbb ho=>?_,hen,oe,vs,T,_,_,(other e (Ne.symm hTe)).trans he,hcls,hd,h1,hnT,hTe,Heap.get?_update_self _ hT (Obj.isFreed_of_fields (Obj.data_mapFields hdT _)),Obj.data_mapFields hdT _,?_⟩)
 ·rw [other b fun q=>by rw [q,hnT] at hbo;cases hbo]
  exact hb b o hbo
 ·refine o0 (hs b o hbb ho) fun sl e'=>?_
  refine ⟨sl,(other b fun q=>?_).trans e'⟩
  rw [q,hT] at e'
  cases e'
  rcases hbb with w | w
  ·rw [w,hoL] at ho;cases ho
   have q':oL.data=.fields ts:=hdT
   rw [hdL] at q';cases q'
  ·rw [w,hoF] at ho;cases ho
   exact (sf _ hPF).2 _ hdT
 ·have hlt:=(Array.getElem?_eq_some_iff.mp h3).1
  simp [hlt]
end
end
section
section
variable {C:Cx} {A:Around} {g:Heap} {fr:Fm} {E:Value→Shared→Prop} {loc:j0} {hp:HP} {a I fL:Addr} {i:Nat} {xs:List Value} {Q:Value→j0→HP→Prop} {P:Obj→Prop} {law:Env}
theorem nJ (W:G1 C) (hroom:A.depth < recursionLimit) (hh:A.handled=none) (hfr:A.frames=some [fr.env,law]) (hff:fr.env.frame=some fr.env.locals) (hk:fr.env.scope.kind=.function) (hlk:law.scope.kind=.function) (hlf:law.frame=some fL) (hP:hp fL=some (.sat P)) (sf:S8 P)
  (hI:hp I=some (X0 a i)) (ha:hp a=some (.list xs)) (hx:xs[i]?=none) (h:∀ e s,r7 C g fr loc hp I fL e s→E (.ref e) s):M0 C A g fr E (.ref 72) [.ref I] [] loc hp Q:=I3 fun u hu=>by
 have:=Q0 hu;subst this
 refine o0 (W.fVarint) fun pm F=>?_
 have hnext:=W.next
 intro s R S
 refine z0 (F.at_) fun o ho hd=>?_
 have hk0:∀ b o,C.H₀.get? b=some o→s.heap.get? b=some o:=fun b o e=>R.keep b o (R.base b o e)
 have hbT:BindsTo s (U0 (G0 9) "_parse_varint" .none .none (.ref 71) pm [] .none) ⟨[.ref I],[]⟩ [("iterator",.ref I)]:=kp_binds E5 fun S=>by rfl
 refine wpAny_call (codeAny_call_function hroom (hk0 _ _ ho) hd F.co F.gen (body:=M3 (G0 9)) rfl (F.code.keeps hk0) (hbT _ _ _ _ ?_))
 refine wpAny_newFunctionEnv_cells F.kind (fun x hx=>by cases List.mem_singleton.mp hx;exact .inl rfl) fun env he s' x=>?_
 subst he
 refine ⟨(W.lim.keeps hk0).keeps x.toInCall.keep,codeAny_func ?_⟩
 have R':=Z8 (h:=s.heap) R (fd:=U0 (G0 9) "_parse_varint" .none .none (.ref 71) pm [] .none) (f:=72) (binds:=[("iterator",.ref I)]) (fun x hx=>by cases List.mem_singleton.mp hx;exact .inl rfl) x
 have hF:P0 (K3 (U0 (G0 9) "_parse_varint" .none .none (.ref 71) pm [] .none) s.heap.objs.size 72) (U0 (G0 9) "_parse_varint" .none .none (.ref 71) pm [] .none).scope K7:=N8 _ _ 72 F.kind rfl rfl (by rfl)
 have hF':(K3 (U0 (G0 9) "_parse_varint" .none .none (.ref 71) pm [] .none) s.heap.objs.size 72).env.frame=some s.heap.objs.size:=rfl
 have hFl:(K3 (U0 (G0 9) "_parse_varint" .none .none (.ref 71) pm [] .none) s.heap.objs.size 72).env.locals=s.heap.objs.size:=rfl
 have hFk:(K3 (U0 (G0 9) "_parse_varint" .none .none (.ref 71) pm [] .none) s.heap.objs.size 72).env.scope.kind=.function:=F.kind
 have S':=r8 S x
 show wpAny (model C.prog C.w) (A.deeper (K3 (U0 (G0 9) "_parse_varint" .none .none (.ref 71) pm [] .none) s.heap.objs.size 72).env) (execs (M3 (G0 9)) (K3 (U0 (G0 9) "_parse_varint" .none .none (.ref 71) pm [] .none) s.heap.objs.size 72).env) _
  (fun e s'=>wpAny (model C.prog C.w) (A.deeper (K3 (U0 (G0 9) "_parse_varint" .none .none (.ref 71) pm [] .none) s.heap.objs.size 72).env) (leaving (K3 (U0 (G0 9) "_parse_varint" .none .none (.ref 71) pm [] .none) s.heap.objs.size 72).env e) (fun Z s''=>E e s'') (fun e' s''=>E e' s'') s') s'
 generalize K3 (U0 (G0 9) "_parse_varint" .none .none (.ref 71) pm [] .none) s.heap.objs.size 72=fp at R' hF hF' hFl hFk ⊢
 have gnone:∀ b,s.heap.objs.size≤b→g.get? b=none:=fun b hb=>by
  cases q:g.get? b with
  | none=>rfl
  | some o=>exact absurd (Heap.lt_size (R.keep _ _ q)) (Nat.not_lt.mpr hb)
 have hIL:I≠fr.env.locals:=(R.at_ _ _ hI).2.1
 have hfI:fL≠I:=by
  rintro rfl
  refine Q2 (R.at_ _ _ hI) fun Z Z Z o1 e1 i1=>?_
  refine Q2 (R.at_ _ _ hP) fun Z Z Z o2 e2 i2=>?_
  rw [e1] at e2;cases e2
  exact (sf _ i2).2 _ i1.2
 have body:I0 C (A.deeper fp.env) (H1 s.heap hp) fp (fun e s'=>wpAny (model C.prog C.w) (A.deeper fp.env) (leaving fp.env e) (fun Z s''=>E e s'') (fun e' s''=>E e' s'') s') (execs (M3 (G0 9)) fp.env) (X1 [("iterator",.ref I)] fun Z=>none) hp (fun Z Z Z=>False):=by
  dsimp only [X1]
  refine Y1 ?_
  repeat' walk_at "kl"
  refine Ef hh hI ha hx fun s₃ e h₄ tk R₃ S₃ st=>?_
  have Rc:F0 C.H₀ g fr loc hp s₃.heap:=R.asleep R₃.keep fun b ao e=>⟨(R₃.at_ b ao e).1,(R₃.at_ b ao e).2.2.2⟩
  refine lF (st.there) fun oe vs he hcls hdat h1=>?_
  refine an (R₃.ns) fun mp oP esP epP hoP hdP Z=>?_
  rw [hFl] at hoP
  refine an (Rc.ns) fun mL oL esL epL hoL hdL Z=>?_
  refine Q2 (Rc.at_ _ _ hP) fun Z Z Z oF hoF hPF=>?_
  have hpI:s.heap.objs.size≠I:=by
   have:=(R₃.at_ _ _ hI).2.1
   rw [hFl] at this
   exact this.symm
  have k4:∀ b o,b≠I→s₃.heap.get? b=some o→h₄.get? b=some o:=st.keep
  have nd:∀ {oo:Obj} {es ep},oo.data=.dict es ep→∀ vs,oo.data≠.fields vs:=fun q vs w=>by rw [q] at w;cases w
  refine wpAny_leaving_first (base:=hideAll s₃.heap [s.heap.objs.size,I,fr.env.locals,fL]) (env:=fp.env) (outer:=[fr.env,law]) (Around.frames_deeper hfr) ?_ hF' he (fun b o e=>?_) (Heap.get?_none_of_le (by rw [hideAll_size];exact st.new)) hdat h1 fun h' hZ0=>P1 hZ0 fun l1 l2 l3 l4=>?_
  ·refine ⟨by rw [hFk];decide,⟨_,oP,hF',hideAll_none _ (.head _),k4 _ _ hpI hoP,nd hdP⟩,⟨by rw [hk];decide,⟨_,oL,hff,hideAll_none _ (.tail _ (.tail _ (.head _))),k4 _ _ hIL.symm hoL,nd hdL⟩,⟨by rw [hlk];decide,⟨_,oF,hlf,hideAll_none _ (.tail _ (.tail _ (.tail _ (.head _)))),k4 _ _ hfI hoF,(sf _ hPF).2⟩,trivial⟩⟩⟩
  ·refine k4 b o (fun q=>?_) (of_hideAll _ e)
   rw [q,hideAll_none _ (.tail _ (.head _))] at e;exact J0 e
  ·refine h e _ ⟨S₃,s₃.heap,[s.heap.objs.size,I,fr.env.locals,fL],Rc,fun b hb=>?_,.tail _ (.tail _ (.head _)),.tail _ (.tail _ (.tail _ (.head _))),l1,fun b o hb e=>?_,Heap.get?_none_of_le (by rw [hideAll_size];exact st.new),by rw [←hcls];exact l3⟩
   ·rcases List.mem_cons.mp hb with w | hb
    ·subst w
     exact ⟨fun Z=>gnone _ (Nat.le_refl _),fun x c lk=>Nat.ne_of_lt (R.cell_lt lk),.inl R.none_at⟩
    ·rcases List.mem_cons.mp hb with w | hb
     ·subst w
      exact ⟨fun Z=>(R.at_ _ _ hI).1,fun x c lk=>((R.at_ _ _ hI).2.2.1 x c lk).symm,.inr (.inl rfl)⟩
     ·rcases List.mem_cons.mp hb with w | hb
      ·subst w
       refine ⟨fun q=>absurd rfl q,fun x c lk=>(R.cne x c lk).1,.inl ?_⟩
       cases q:hp fr.env.locals with
       | none=>rfl
       | some ao=>exact absurd rfl (R.at_ _ _ q).2.1
      ·cases List.mem_singleton.mp hb
       exact ⟨fun Z=>(R.at_ _ _ hP).1,fun x c lk=>((R.at_ _ _ hP).2.2.1 x c lk).symm,.inr (.inr rfl)⟩
   ·rcases hb with w | w
    ·subst w
     rw [hoL] at e;cases e
     exact l4 _ _ (k4 _ _ hIL.symm hoL) (nd hdL)
    ·subst w
     rw [hoF] at e;cases e
     exact l4 _ _ (k4 _ _ hfI hoF) (sf _ hPF).2
 exact wpAny_mono (body s' R' S') (fun fl s'' hq=>by refine Q3 hq fun Z Z Z Z q=>?_;try clear hq;exact q.elim) fun Z Z e=>e
end
end
section
theorem oO:isSubtype (.type "StopIteration") (.type "BaseException")=pure true:=by rw [isSubtype_type];kernel_rfl
theorem oM:isSubtype (.type ((Manifest.find? "StopIteration").elim "type" fun x=>x.metatype)) (.type "tuple")=pure false:=by rw [isSubtype_type];kernel_rfl
theorem oN:isSubtype (.type "StopIteration") (.type "StopIteration")=pure true:=by rw [isSubtype_type];kernel_rfl
section
variable {C:Cx} {A:Around} {g:Heap} {fr:Fm} {E:Value→Shared→Prop} {loc loc₁:j0} {hp hp₁:HP} {a I fL:Addr} {i:Nat} {xs:List Value} {Q:Flow→j0→HP→Prop} {P:Obj→Prop} {law:Env} {sc:Scope} {ow:Str→Bool}
theorem EU {body orelse suite:List Stmt} {b₀:Stmt} {p hpos pos:Pos} (F:P0 fr sc ow) (hG:Q1 C "StopIteration" (.type "StopIteration")) (hks:sc.names.lookup ("StopIteration":Str)=some .globalImplicit)
  (hfr:A.frames=some [fr.env,law]) (hff:fr.env.frame=some fr.env.locals) (hlk:law.scope.kind=.function) (hlf:law.frame=some fL) (hP:hp₁ fL=some (.sat P)) (sf:S8 P)
  (hb:∀ E₁:Value→Shared→Prop,(∀ e s,r7 C g fr loc₁ hp₁ I fL e s→E₁ (.ref e) s)→I0 C A g fr E₁ (execs body fr.env) loc hp fun Z Z Z=>False)
  (hq:∀ A' E',A'.depth=A.depth→A'.units=A.units→I0 C A' g fr E' (execs (b₀::suite) fr.env) loc₁ (L8 hp₁ I) Q) :
  I0 C A g fr E (exec (.Try body [.ExceptHandler (some (.Name "StopIteration" p)) none (b₀::suite) hpos] orelse [] pos) fr.env) loc hp Q:=fun s R S=>by
 refine wpAny_Try_except (wpAny_mono (hb _ (fun e s f=>?_) s R S) (fun fl s'' hq=>by refine Q3 hq fun Z Z Z Z q=>?_;try clear hq;exact q.elim) fun Z Z e=>e)
 refine fb (f.frames hP sf F.k hff hlk hlf) fun base b1 b2 b3 b4 b5=>?_
 refine zK hfr b3 hff b4 b1 b2 fun h' hl=>?_
 have f':=b5 h' hl
 have R':=f'.rep hP sf
 have hk':∀ b o,C.H₀.get? b=some o→h'.get? b=some o:=fun b o e=>R'.keep b o (R'.base b o e)
 refine wpAny_handleBy_builtin oO oM oN (b:=true) (wpAny_mono (bV hG F.k F.glob F.bi (F.kindOf hks) hk' (by decide)) (fun c s₁ hZ0=>B0 hZ0 fun e1 e2=>?_) fun Z Z e=>e)
 subst e2
 refine ⟨e1,?_,?_⟩
 ·refine i6 (f'.ex) fun Z Z Z Z Z Z Z zr0=>V1 zr0 fun Z Z htr=>?_
  refine e8 htr fun oe Z Z Z Z he hcls Z=>?_;try clear htr
  exact ⟨oe,he,hcls⟩
 ·rw [if_pos rfl]
  refine f'.flight hP sf fun h'' f''=>?_
  exact hq (A.mark (some (.ref e))) _ rfl rfl _ (f''.rep hP sf) f''.sok
end
end
section
section
variable {C:Cx} {A:Around} {g:Heap} {fr:Fm} {E:Value→Shared→Prop} {loc:j0} {hp:HP} {a:Addr} {xs:List Value} {Q:Value→j0→HP→Prop}
theorem Eh (ha:hp a=some (.list xs)) (h:∀ I,hp I=none→Q (.ref I) loc (k0 hp I (X0 a 0))):M0 C A g fr E (.builtin "iter") [.ref a] [] loc hp Q:=I3 fun u hu=>by
 have:=Q0 hu;subst this
 intro s R S
 refine V0 (R.list ha) fun us n e q=>?_
 refine Calls.call_function_entry (by decide +kernel) (by decide +kernel) kdk_entry_iter (kdk_args_iter _) ?_
 unfold Builtin.«iter»
 refine wpAny_bind (m:=someArgs "iter" 1 2 _) (wpAny_of_eq (a:=[Value.ref a]) (by first | rfl | kernel_rfl!) ?_)
 show wpAny _ _ (pyIter (.ref a) >>= _) _ _ _
 refine wpAny_bind (wpAny_pyIter_list ⟨_,e,rfl,n,rfl⟩ ?_)
 exact wpAny_pure ⟨_,rfl,S,loc,_,R.alloc (ao:=X0 a 0) (o:={cls:=.type "list_iterator",data:=.fields #[.ref a,.int 0 0]}) rfl ⟨rfl,rfl⟩,h _ R.none_at⟩
end
section
variable {prog:Program} {w:World} {A:Around} {R:Result→Shared→Prop} {s:Shared} {elt target iter t₂ i₂:Expr} {scope:Scope} {pos:Pos} {it acc:Value} {env:Env}
noncomputable abbrev Q4 (elt target iter t₂ i₂:Expr) (scope:Scope) (pos:Pos):Expr:=.ListComp elt [⟨target,iter,[],0⟩,⟨t₂,i₂,[],0⟩] scope pos
theorem DH:compTurn (Q4 elt target iter t₂ i₂ scope pos) 0 it acc env=(do
   standAt iter.pos
   match ←pyNext it with
   | none=>pure (.done .next)
   | some v=>
    letOwnedTupleGo target it v
    assign target env v
    let x ←eval i₂ env
    standAt i₂.pos
    let x ←foldedSetIterable i₂ env x
    let _ ←runOwn (.compStart (Q4 elt target iter t₂ i₂ scope pos) 1 (←holding [x] (pyIter x)) acc env) env
    again (.compLoop (Q4 elt target iter t₂ i₂ scope pos) 0 it acc env)):=by rfl
theorem DG:compTurn (Q4 elt target iter t₂ i₂ scope pos) 1 it acc env=(do
   standAt i₂.pos
   match ←pyNext it with
   | none=>pure (.done .next)
   | some v=>
    letOwnedTupleGo t₂ it v
    assign t₂ env v
    (do let _ ←call (.builtin "list.append") [acc,←eval elt env])
    again (.compLoop (Q4 elt target iter t₂ i₂ scope pos) 1 it acc env)):=by rfl
end
end
section
section
variable {prog:Program} {w:World} {A:Around} {R:Result→Shared→Prop} {s:Shared} {elt target iter t₂ i₂:Expr} {scope:Scope} {pos:Pos} {it acc:Value} {env:Env}
theorem DJ (I:Nat→Shared→Prop)
  (turn:∀ n s,I n s→wpAny (model prog w) A (pyNext it) (fun r s₁=>match r with
   | none=>R (.ok .next) s₁
   | some v=>wpAny (model prog w) A (letOwnedTupleGo t₂ it v) (fun Z s₁'=>wpAny (model prog w) A (assign t₂ env v) (fun Z s₂=>
     wpAny (model prog w) A (eval elt env) (fun x s₄=>
       wpAny (model prog w) A (call (.builtin "list.append") [acc,x]) (fun Z s₅=>∃ m,m < n∧I m s₅) (notedBy (model prog w) A env fun e s'=>R (.error e) s') s₄) (notedBy (model prog w) A env fun e s'=>R (.error e) s') s₂) (notedBy (model prog w) A env fun e s'=>R (.error e) s') s₁') (notedBy (model prog w) A env fun e s'=>R (.error e) s') s₁) (notedBy (model prog w) A env fun e s'=>R (.error e) s') s)
  (n:Nat) (h:I n s):codeAny (model prog w) A (.compLoop (Q4 elt target iter t₂ i₂ scope pos) 1 it acc env) R s:=by
 refine codeAny_loop rfl I (fun n s hI=>?_) n h
 show wpAny _ A ((compTurn (Q4 elt target iter t₂ i₂ scope pos) 1 it acc env).onRaise (fun x=>do noteFrame x env;theTreesLotGoes x)) _ _ s
 refine wpAny_noted ?_
 simp -iota only [DG]
 refine wpAny_bind (wpAny_standAt (wpAny_bind (wpAny_mono (turn n s hI) (fun r s₁ h₁=>?_) fun Z Z h'=>h')))
 cases r with
 | none=>exact wpAny_pure h₁
 | some v=>
  refine wpAny_bind (wpAny_mono h₁ (fun Z s₁' h₁'=>?_) fun Z Z h'=>h')
  refine wpAny_bind (wpAny_mono h₁' (fun Z s₂ h₂=>?_) fun Z Z h'=>h')
  exact wpAny_bind (wpAny_bind (wpAny_mono h₂ (fun x s₄ h₄=>wpAny_bind (wpAny_mono h₄ (fun Z s₅ h₅=>wpAny_pure (wpAny_pure ⟨rfl,h₅⟩)) fun Z Z h'=>h')) fun Z Z h'=>h'))
theorem DL (h0:codeAny (model prog w) A (.compLoop (Q4 elt target iter t₂ i₂ scope pos) 1 it acc env) R s)
  (h:wpAny (model prog w) A (pyIter it) (fun it' s'=>codeAny (model prog w) A (.compLoop (Q4 elt target iter t₂ i₂ scope pos) 1 it' acc env) R s')
   (notedBy (model prog w) A env fun x s'=>R (.error x) s') s) :
  codeAny (model prog w) A (.compStart (Q4 elt target iter t₂ i₂ scope pos) 1 it acc env) R s:=by
 refine codeAny_of_tree ?_
 show wpAny _ _ ((compStart (Q4 elt target iter t₂ i₂ scope pos) 1 it acc env).onRaise (fun x=>do noteFrame x env;standAt theWindowsPlace)) _ _ s
 refine wpAny_notedAt ?_
 unfold compStart
 show wpAny _ _ (ask >>= _) _ _ s
 refine wpAny_bind (wpAny_askSetting (wpAny_ite ?_))
 split
 ·first
   | exact wpAny_bind (wpAny_pure (wpAny_pure (And.intro rfl h0)))
   | exact wpAny_pure (And.intro rfl h0)
 ·first
   | exact wpAny_bind (wpAny_rule (wpAny_bind (wpAny_standAt (wpAny_bind (wpAny_mono h (fun it' s' h'=>wpAny_pure (And.intro rfl h')) fun Z Z x=>x)))))
   | (refine wpAny_bind (wpAny_rule ?_);show wpAny _ _ (standAt i₂.pos >>= _) _ _ s;exact wpAny_bind (wpAny_standAt (wpAny_bind (wpAny_mono h (fun it' s' h'=>wpAny_pure (And.intro rfl h')) fun Z Z x=>x))))
noncomputable def jE (prog:Program) (w:World) (A:Around) (env:Env) (E:Value→Shared→Prop):Value→Shared→Prop:=fun x s=>wpAny (model prog w) A (do
  if (←field x 1) == .none then unsupported "frame.own-activation:exception-without-traceback"
  setFlight x env.frame) (fun Z s'=>E x s') E s
theorem DK (hfs:∀ x,foldedSetIterable i₂ env x=pure x) (I:Nat→Shared→Prop)
  (turn:∀ n s,I n s→wpAny (model prog w) A (pyNext it) (fun r s₁=>match r with
   | none=>R (.ok .next) s₁
   | some v=>wpAny (model prog w) A (letOwnedTupleGo target it v) (fun Z s₁'=>wpAny (model prog w) A (assign target env v) (fun Z s₂=>
     wpAny (model prog w) A (eval i₂ env) (fun x s₃=>wpAny (model prog w) A (pyIter x) (fun it₂ s₄=>
       codeAny (model prog w) A (.compStart (Q4 elt target iter t₂ i₂ scope pos) 1 it₂ acc env) (fun r s₅=>match r with | .ok _=>∃ m,m < n∧I m s₅ | .error e=>jE prog w A env (notedBy (model prog w) A env fun e s'=>R (.error e) s') e s₅) s₄)
      (notedBy (model prog w) A env fun e s'=>R (.error e) s') s₃) (notedBy (model prog w) A env fun e s'=>R (.error e) s') s₂) (notedBy (model prog w) A env fun e s'=>R (.error e) s') s₁') (notedBy (model prog w) A env fun e s'=>R (.error e) s') s₁) (notedBy (model prog w) A env fun e s'=>R (.error e) s') s)
  (n:Nat) (h:I n s):codeAny (model prog w) A (.compLoop (Q4 elt target iter t₂ i₂ scope pos) 0 it acc env) R s:=by
 refine codeAny_loop rfl I (fun n s hI=>?_) n h
 show wpAny _ A ((compTurn (Q4 elt target iter t₂ i₂ scope pos) 0 it acc env).onRaise (fun x=>do noteFrame x env;theTreesLotGoes x)) _ _ s
 refine wpAny_noted ?_
 simp -iota only [DH]
 refine wpAny_bind (wpAny_standAt (wpAny_bind (wpAny_mono (turn n s hI) (fun r s₁ h₁=>?_) fun Z Z h'=>h')))
 cases r with
 | none=>exact wpAny_pure h₁
 | some v=>
  refine wpAny_bind (wpAny_mono h₁ (fun Z s₁' h₁'=>?_) fun Z Z h'=>h')
  refine wpAny_bind (wpAny_mono h₁' (fun Z s₂ h₂=>?_) fun Z Z h'=>h')
  refine wpAny_bind (wpAny_mono h₂ (fun x s₃ h₃=>?_) fun Z Z h'=>h')
  refine wpAny_bind (wpAny_standAt (wpAny_bind ?_))
  simp -iota only [hfs]
  refine wpAny_pure (wpAny_bind (wpAny_holding (wpAny_mono h₃ (fun it₂ s₄ h₄=>?_) fun Z Z h'=>h')))
  refine wpAny_bind ?_
  unfold runOwn
  refine wpAny_onRaise (wpAny_run (codeAny_mono h₄ fun r s₅ h₅=>?_))
  cases r with
  | ok f=>exact wpAny_pure ⟨rfl,h₅⟩
  | error e=>exact h₅
end
end
section
section
variable {α:Type} {C:Cx} {A:Around} {g:Heap} {fr:Fm} {E:Value→Shared→Prop} {loc:j0} {hp:HP} {sc:Scope} {ow:Str→Bool} {scope:Scope}
theorem CC {target iter i₂:Expr} {y:Str} {py₁ py₂:Pos} {pos:Pos} {T D it₂:Addr} {ys zs:List Value} {b:HP} {l:j0} {R:Result→Shared→Prop} (hh:A.handled=none) (hsto:M1 fr y) (hk:fr.env.scope.kind=.function) (hyd:(y == ("__debug__":Str))=false) (hyc:(y == ("__classdict__":Str))=false)
  (hT:b T=some (.list zs)) (hD:b D=some (.list ys)) (hTD:T≠D) (hit:b it₂=none) (hsz:ys.length+zs.length≤100000)
  (fin:∀ s' l',H2 C s'→F0 C.H₀ g fr l' (k0 b D (.list (ys++zs))) s'.heap→(∀ x v,l x=some v→x≠y→l' x=some v)→R (.ok .next) s')
  (s:Shared) (Rp:F0 C.H₀ g fr l (k0 b it₂ (X0 T 0)) s.heap) (S:H2 C s) :
  codeAny (model C.prog C.w) A (.compLoop (Q4 (.Name y py₁) target iter (.Name y py₂) i₂ scope pos) 1 (.ref it₂) (.ref D) fr.env) R s:=by
 have hDi:D≠it₂:=by rintro rfl;rw [hit] at hD;exact J0 hD
 have hTi:T≠it₂:=by rintro rfl;rw [hit] at hT;exact J0 hT
 refine DJ (fun k s'=>H2 C s'∧∃ j l',k=zs.length - j∧j≤zs.length∧F0 C.H₀ g fr l' (k0 (k0 b D (.list (ys++zs.take j))) it₂ (X0 T j)) s'.heap∧∀ x v,l x=some v→x≠y→l' x=some v) ?_ zs.length
  ⟨S,0,l,rfl,Nat.zero_le _,by (simp only [List.take_zero,List.append_nil,show k0 b D (.list ys)=b from funext fun c=>by unfold k0;split;rename_i q;rw [q,hD];rfl]);exact Rp,fun Z Z e Z=>e⟩
 intro k s' hZ0;refine ci hZ0 fun S' j l' hR0 hj R' hl=>?_;clear hZ0;subst hR0
 have hq:(k0 b D (.list (ys++zs.take j))) it₂=none:=by rw [H0 _ _ hDi.symm];exact hit
 have hTq:k0 (k0 b D (.list (ys++zs.take j))) it₂ (X0 T j) T=some (.list zs):=by rw [H0 _ _ hTi,H0 _ _ hTD];exact hT
 refine V0 (R'.list hTq) fun us n e q=>?_
 by_cases hlt:j < zs.length
 ·refine z0 (X5 q (List.getElem?_eq_getElem hlt)) fun u hu hun=>?_
  refine wpAny_pyNext_list_item (R'.iter (s0 ..)) ⟨_,e,rfl,n,rfl⟩ hu fun h' hit' hs'=>?_
  refine J2 hit' fun o ho hc hd=>?_;try clear hit'
  have R₂:=R'.chg (s0 ..) hs'.extBut ho (ao':=X0 T (j+1)) ⟨hc,hd⟩
  rw [X6] at R₂
  refine wpAny_of_eq (a:=()) rfl ?_
  have as:=F6 (C:=C) (A:=A) (g:=g) (fr:=fr) (E:=notedBy (model C.prog C.w) A fr.env fun e s'=>R (.error e) s') (loc:=l') (hp:=k0 (k0 b D (.list (ys++zs.take j))) it₂ (X0 T (j+1))) (x:=y) (pos:=py₂) (v:=u)
   (Q:=fun Z l p=>l=N0 l' y (nm u)∧p=k0 (k0 b D (.list (ys++zs.take j))) it₂ (X0 T (j+1))) hsto ⟨rfl,rfl⟩
  refine wpAny_mono (as {s' with heap:=h'} R₂ S') (fun Z s₃ hZ0=>cg hZ0 fun S₃ R₃=>?_) fun Z Z e=>e
  have nmv:=mS (C:=C) (A:=A) (g:=g) (fr:=fr) (E:=notedBy (model C.prog C.w) A fr.env fun e s'=>R (.error e) s') (loc:=N0 l' y (nm u)) (hp:=k0 (k0 b D (.list (ys++zs.take j))) it₂ (X0 T (j+1))) (x:=y) (pos:=py₁) (v:=nm u)
   (Q:=fun v l p=>v=nm u∧l=N0 l' y (nm u)∧p=k0 (k0 b D (.list (ys++zs.take j))) it₂ (X0 T (j+1))) hk bK ⟨rfl,rfl,rfl⟩ hyd hyc
  refine wpAny_mono (nmv s₃ R₃ S₃) (fun v s₄ hZ0=>ff hZ0 fun S₄ R₄ e1=>?_) fun Z Z e=>e
  have hD4:k0 (k0 b D (.list (ys++zs.take j))) it₂ (X0 T (j+1)) D=some (.list (ys++zs.take j)):=by rw [H0 _ _ hDi,s0]
  have ap:=fm (C:=C) (A:=A) (g:=g) (fr:=fr) (E:=notedBy (model C.prog C.w) A fr.env fun e s'=>R (.error e) s') (loc:=N0 l' y (nm u)) (x:=v)
   (Q:=fun Z l p=>l=N0 l' y (nm u)∧p=k0 (k0 (k0 b D (.list (ys++zs.take j))) it₂ (X0 T (j+1))) D (.list (ys++zs.take j++[nm v]))) hD4 (by simp only [sizeLine_eq,List.length_append,List.length_take];exact wC hsz) ⟨rfl,rfl⟩
  refine wpAny_mono (ap s₄ R₄ S₄) (fun Z s₅ hZ0=>cg hZ0 fun S₅ R₅=>?_) fun Z Z e=>e
  refine ⟨zs.length - (j+1),by exact C8 hlt,S₅,j+1,N0 l' y (nm u),rfl,hlt,?_,fun x v e hx=>?_⟩
  ·rw [CD hDi.symm,X6,e1,hun] at R₅
   simp only [List.take_add_one,List.getElem?_eq_getElem hlt,←List.append_assoc,hun]
   exact R₅
  ·show N0 l' y (nm u) x=some v
   unfold N0;rw [if_neg hx];exact hl x v e hx
 ·have hje:j=zs.length:=by exact T7 hj hlt
  subst hje
  refine wpAny_pyNext_list_end hh (R'.iter (s0 ..)) ⟨_,e,rfl,n,rfl⟩ (Array.getElem?_eq_none (by rw [M2 q];exact Nat.le_refl _)) fun h' hx=>?_
  refine fin {s' with heap:=h'} l' S' ?_ hl
  have:=R'.drop1 (s0 ..) hx (hp':=k0 b D (.list (ys++zs.take zs.length))) fun c o e=>⟨(by rintro rfl;rw [hq] at e;exact J0 e),E1 hq e⟩
  rwa [List.take_length] at this
end
end
section
section
variable {α:Type} {C:Cx} {A:Around} {g:Heap} {fr:Fm} {E:Value→Shared→Prop} {loc:j0} {hp:HP} {sc:Scope} {ow:Str→Bool} {scope:Scope}
theorem DF {β:Type} {target iter i₂:Expr} {y:Str} {py₁ py₂:Pos} {pos pos₂:Pos} (rows:List β) (m:β→List Value) (zs:β→List Value) {names:List Str} {use:Option (Value→Sem Unit)} {Qw:Value→Shared→Prop} (hh:A.handled=none) (F:P0 fr sc ow) (hs:E2 scope sc=true)
  (hfs:∀ x,foldedSetIterable iter fr.env x=pure x) (hfs₂:∀ fr':Fm,∀ x,foldedSetIterable i₂ fr'.env x=pure x) (hy:scope.names.lookup y=some .local) (hyd:(y == ("__debug__":Str))=false) (hyc:(y == ("__classdict__":Str))=false) (hok:names.all (fun x=>scope.names.lookup x == some .local || scope.names.lookup x == some .cell)=true)
  (s:Shared) (R:F0 C.H₀ g fr loc hp s.heap) (S:H2 C s)
  (h:w0 C A g fr E (eval iter fr.env) loc hp fun x l p=>i3 C A target names x l p fun vss need l p=>vss=rows.map m∧rows.length≤1000∧(∀ x∈rows,(zs x).length≤10)∧(∀ p',m0 p p'→need p')∧
   (∀ x∈rows,∀ g' fr' E' p',P0 fr' (I5 scope sc) (W5 scope)→m0 p p'→w0 C A g' fr' E' (eval i₂ fr'.env) (K0 names (m x) (J1 scope l)) p' fun v l' p''=>l'=K0 names (m x) (J1 scope l)∧∃ T,v=.ref T∧m0 p' p''∧p'' T=some (.list (zs x)))∧
   (∀ D L p' s',m0 p p'→p' D=none→(k0 p' D (.list (rows.flatMap zs))) L=none→H2 C s'→F0 C.H₀ g fr l (k0 (k0 p' D (.list (rows.flatMap zs))) L A9) s'.heap→(∃ m,s'.heap.Ns L m)→compPost (model C.prog C.w) A E use Qw (.ref D) L (.ok .next) s')) :
  wpAny (model C.prog C.w) A (comprehension (Q4 (.Name y py₁) target iter (.Name y py₂) i₂ scope pos) scope fr.env pos₂ (newList []) false (eval iter fr.env) use) Qw E s:=by
 refine wpAny_comprehension_free rfl hfs (ma F hs) (E2.kind hs) (fun x hx hl=>by obtain ⟨n,k⟩:=x;cases hl;exact E2.names hs hx) ?_
 refine wpAny_mono (h s R S) (fun x s₁ hZ0=>CZ hZ0 fun l₁ need r₁ p₀ S₁ R₁ hnd hap hit zr0=>F9 zr0 fun hlen hz hn turn fin=>?_) fun Z Z e=>e
 have:=hit g fr E l₁ p₀ x (fun it l p=>∃ St r₀,l=l₁∧p=C0 p₀ r₀∧H6 C A target names it (rows.map m) need St∧St 0 r₀∧O1 p₀ r₀) rfl hnd hap (fun it St r₀ W hst hap=>⟨St,r₀,rfl,rfl,W,hst,hap⟩) s₁ R₁ S₁
 refine wpAny_mono this (fun it s₂ hZ0=>fc hZ0 fun l₂ St r₀ S₂ R₂ e1 zr0=>V1 zr0 fun W hst hap=>?_) fun Z Z e=>e
 subst e1
 have hD0:C0 p₀ r₀ s₂.heap.objs.size=none:=R₂.none_at
 have hDp:p₀ s₂.heap.objs.size=none:=by
  cases q:p₀ s₂.heap.objs.size with
  | none=>rfl
  | some o=>rw [Z1 q] at hD0;exact B5 hD0
 generalize hDe:s₂.heap.objs.size=D at hD0 hDp
 have alloc:F0 C.H₀ g fr l₂ (C0 (k0 p₀ D (.list [])) r₀) (s₂.heap.push {cls:=.type "list",data:=.seq ([]:List Value).toArray}):=by
  rw [M8,←hDe]
  exact R₂.alloc rfl ⟨_,_,rfl,rfl⟩
 refine wpAny_newObj_type ?_ (by show ([]:List Value).toArray.size≤sizeLine;rw [sizeLine_eq];decide)
 rw [hDe]
 generalize hs₃:({s₂ with heap:=s₂.heap.push {cls:=.type "list",data:=.seq ([]:List Value).toArray}}:Shared)=s₃
 have R₃:F0 C.H₀ g fr l₂ (C0 (k0 p₀ D (.list [])) r₀) s₃.heap:=by rw [←hs₃];exact alloc
 have S₃:H2 C s₃:=by rw [←hs₃];exact S₂
 clear hs₃ alloc this R₂ S₂ R₁ S₁ hit R S h
 refine fM ?_
 generalize hL:s₃.heap.objs.size=L
 have R₄:=gq F hs R₃
 rw [hL] at R₄
 have hF':=kZ F hs L
 have hapD:O1 (k0 p₀ D (.list [])) r₀:=fun b hb=>by
  by_cases e:b=D
  ·subst e
   exfalso
   unfold C0 at hD0
   rw [hDp] at hD0
   exact hb hD0
  ·rw [H0 _ _ e];exact hap b hb
 have hokS:∀ x∈names,M1 (B3 fr scope L) x:=fun x hx=>by
  have hk:=List.all_eq_true.mp hok x hx
  rcases Bool.or_eq_true_iff.mp hk with q | q
  ·refine hF'.stoL ?_
   simp only [t8,beq_iff_eq.mp q];rfl
  ·refine hF'.stoC ?_ ?_
   ·simp only [t8,beq_iff_eq.mp q];rfl
   ·exact q
 have hbase:∀ x v,J1 scope l₂ x=some v→x∉names:=fun x v e hx=>by
  refine B0 (bD e) fun e1 Z=>?_
  have hk:=List.all_eq_true.mp hok x hx
  rw [e1] at hk
  exact Y5 hk
 have gL:(H1 s₃.heap (C0 (k0 p₀ D (.list [])) r₀)).get? L=none:=by
  cases q:(H1 s₃.heap (C0 (k0 p₀ D (.list [])) r₀)).get? L with
  | none=>rfl
  | some o=>exact absurd (Heap.lt_size (z6 q).1) (by rw [hL];exact Nat.lt_irrefl _)
 have loop:∀ s:Shared,H2 C s→∀ r,St 0 r→O1 (k0 p₀ D (.list [])) r→F0 C.H₀ (H1 s₃.heap (C0 (k0 p₀ D (.list [])) r₀)) (B3 fr scope L) (J1 scope l₂) (C0 (k0 p₀ D (.list [])) r) s.heap→
   codeAny (model C.prog C.w) A (.compLoop (Q4 (.Name y py₁) target iter (.Name y py₂) i₂ scope pos) 0 it (.ref D) (B3 fr scope L).env) (compPost (model C.prog C.w) A E use Qw (.ref D) L) s:=fun s Ss r hst hap R=>by
  refine DK (fun x=>hfs₂ _ x) (fun k s'=>H2 C s'∧∃ i l p r,k=rows.length - i∧i≤rows.length∧p D=none∧O1 (k0 p D (.list ((rows.take i).flatMap zs))) r∧F0 C.H₀ (H1 s₃.heap (C0 (k0 p₀ D (.list [])) r₀)) (B3 fr scope L) l (C0 (k0 p D (.list ((rows.take i).flatMap zs))) r) s'.heap∧St i r∧
   (∀ x v,J1 scope l₂ x=some v→l x=some v)∧m0 p₀ p) ?_ rows.length ⟨Ss,0,_,p₀,r,rfl,Nat.zero_le _,hDp,hap,R,hst,fun Z Z e=>e,m0.rfl⟩
  intro k s' hZ0;refine lH hZ0 fun S' i l p r hR0 hi zr0=>w5 zr0 fun hpD hap R' hst' hl hI=>?_;clear hZ0;subst hR0
  have hbound:∀ n,n≤rows.length→((rows.take n).flatMap zs).length≤10*n:=fun n hn=>by
   have:∀ (l:List β),(∀ x∈l,(zs x).length≤10)→(l.flatMap zs).length≤10*l.length:=fun l=>by
    induction l with
    | nil=>intro _;exact Nat.le_refl _
    | cons x l ih=>
     intro h
     simp only [List.flatMap_cons,List.length_append,List.length_cons]
     have h1:=h x (.head _)
     have h2:=ih fun y hy=>h y (.tail _ hy)
     exact wB h1 h2
   have h1:=this (rows.take n) fun x hx=>hz x (List.mem_of_mem_take hx)
   rw [List.length_take] at h1
   exact wA h1
  generalize hys:(rows.take i).flatMap zs=ys at hap R'
  have hup:=al (o:=.list ys) hpD
  by_cases hlt:i < rows.length
  ·obtain ⟨x,hx⟩:∃ x,rows[i]?=some x:=⟨_,List.getElem?_eq_getElem hlt⟩
   have hxm:=List.mem_of_getElem? hx
   have hget:(rows.map m)[i]?=some (m x):=by simp only [List.getElem?_map,hx];rfl
   have:=W.adv i _ r (k0 p D (.list ys)) _ (B3 fr scope L) (notedBy (model C.prog C.w) A (B3 fr scope L).env fun e s'=>compPost (model C.prog C.w) A E use Qw (.ref D) L (.error e) s') l
    (fun l' p'=>∃ r',St (i+1) r'∧O1 (k0 p D (.list ys)) r'∧l'=K0 names (m x) l∧p'=C0 (k0 p D (.list ys)) r') hget hst' (W.up _ _ hup (hn p hI)) hap hokS (fun r' a b=>⟨r',a,b,rfl,rfl⟩) s' R' S'
   refine wpAny_mono this (fun rr s₁ hZ0=>G7 hZ0 fun S₁ l₁ p₁ R₁ v e h₁=>?_) fun Z Z e=>e
   subst e
   refine wpAny_mono (h₁ s₁ R₁ S₁) (fun Z s₂ hZ0=>Q3 hZ0 fun S₂ l₂' p₂ R₂ h₂=>?_) fun Z Z e=>e
   refine wpAny_mono (h₂ s₂ R₂ S₂) (fun Z s₄ hZ0=>fe hZ0 fun r' S₄ R₅ hst₃ hap₃=>?_) fun Z Z e=>e
   have apD:O1 p (k0 r' D (.list ys)):=C4 (fun b hb=>by
    have:=hap₃ b hb
    by_cases e:b=D
    ·subst e;exact hpD
    ·rwa [H0 _ _ e] at this) hpD
   have ej:C0 (k0 p D (.list ys)) r'=C0 p (k0 r' D (.list ys)):=by rw [M8,U4 hpD]
   rw [ej] at R₅
   have R₆:=R₅.forget (cZ names (m x) hl) (fun Z Z e=>e)
   have te:=cG (C:=C) (A:=A) (g:=(H1 s₃.heap (C0 (k0 p₀ D (.list [])) r₀))) (fr:=B3 fr scope L) (E:=notedBy (model C.prog C.w) A (B3 fr scope L).env fun e s'=>compPost (model C.prog C.w) A E use Qw (.ref D) L (.error e) s') apD
    (fun g'=>turn x hxm g' (B3 fr scope L) _ p hF' hI)
   refine wpAny_mono (te s₄ R₆ S₄) (fun y₀ s₆ hZ0=>lI hZ0 fun p₈ S₆ R₈ hap₈ zr0=>J2 zr0 fun T e₃ hI' hT=>?_) fun Z Z e=>e
   have:=Q0 e₃;subst this
   have hsup:∀ x' v,J1 scope l₂ x'=some v→K0 names (m x) (J1 scope l₂) x'=some v:=cY names (m x) fun x' v e=>⟨e,hbase x' v e⟩
   have hD':p₈ D=none:=hap₈ D (by rw [s0];exact fun e=>nomatch e)
   have ha':∀ o,O1 (k0 p₈ D o) r':=fun o b hb=>by
    by_cases e:b=D
    ·subst e
     have:=hap₃ _ hb
     rw [s0] at this;exact B5 this
    ·rw [H0 _ _ e];exact hap₈ b (by rw [H0 _ _ e];exact hb)
   have hTb:C0 p₈ (k0 r' D (.list ys)) T=some (.list (zs x)):=Z1 hT
   have hDb:C0 p₈ (k0 r' D (.list ys)) D=some (.list ys):=U1 hap₈ (s0 ..)
   have hTD:T≠D:=by rintro rfl;rw [hD'] at hT;exact J0 hT
   refine V0 (R₈.list hTb) fun us n e q=>?_
   refine wpAny_pyIter_list ⟨_,e,rfl,n,rfl⟩ ?_
   have R₉:=R₈.alloc (ao:=X0 T 0) (o:={cls:=.type "list_iterator",data:=.fields #[.ref T,.int 0 0]}) rfl ⟨rfl,rfl⟩
   have hni:=R₈.none_at
   generalize s₆.heap.objs.size=it₂ at R₉ hni
   have hzl:=hz x hxm
   have hyl:ys.length≤10000:=by
    have:=hbound i hi
    rw [hys] at this
    exact wz hlen hlt this
   have inner:∀ s₇:Shared,H2 C s₇→F0 C.H₀ (H1 s₃.heap (C0 (k0 p₀ D (.list [])) r₀)) (B3 fr scope L) (K0 names (m x) (J1 scope l₂)) (k0 (C0 p₈ (k0 r' D (.list ys))) it₂ (X0 T 0)) s₇.heap→_:=fun s₇ S₇ R₇=>
    CC (target:=target) (iter:=iter) (i₂:=i₂) (y:=y) (py₁:=py₁) (py₂:=py₂) (pos:=pos) (scope:=scope) hh (hF'.stoL (by rw [t8,hy];rfl)) hF'.k hyd hyc hTb hDb hTD hni (by exact wy hyl hzl)
     (R:=fun r s₅=>match r with | .ok _=>∃ m',m' < rows.length - i∧(fun k s'=>H2 C s'∧∃ i l p r,k=rows.length - i∧i≤rows.length∧p D=none∧O1 (k0 p D (.list ((rows.take i).flatMap zs))) r∧F0 C.H₀ (H1 s₃.heap (C0 (k0 p₀ D (.list [])) r₀)) (B3 fr scope L) l (C0 (k0 p D (.list ((rows.take i).flatMap zs))) r) s'.heap∧St i r∧(∀ x v,J1 scope l₂ x=some v→l x=some v)∧m0 p₀ p) m' s₅ | .error e=>jE C.prog C.w A (B3 fr scope L).env (notedBy (model C.prog C.w) A (B3 fr scope L).env fun e s'=>compPost (model C.prog C.w) A E use Qw (.ref D) L (.error e) s') e s₅)
     (fun s₈ l₈ S₈ R₈' hl₈=>by
      refine ⟨rows.length - (i+1),by exact C8 hlt,S₈,i+1,l₈,p₈,r',rfl,hlt,hD',ha' _,?_,hst₃,fun x' v e=>hl₈ x' v (hsup x' v e) (by rintro rfl;refine B0 (bD e) fun e1 Z=>?_;rw [hy] at e1;cases e1),hI.trans hI'⟩
      rw [U4 hD',X6] at R₈'
      have ej':∀ zz,C0 (k0 p₈ D (.list zz)) r'=C0 p₈ (k0 r' D (.list zz)):=fun zz=>by rw [M8,U4 hD']
      simp only [ej',List.take_add_one,hx,List.flatMap_append,hys]
      simpa using R₈') s₇ R₇ S₇
   refine DL (inner _ S₆ R₉) ?_
   exact wpAny_pyIter_listiter (F0.iter R₉ (s0 ..)) (inner _ S₆ R₉)
  ·have hin:i=rows.length:=by exact T7 hi hlt
   subst hin
   rw [List.take_length] at hys
   rw [←List.length_map (f:=m)] at hst'
   have:=W.stp r (k0 p D (.list ys)) _ (B3 fr scope L) (notedBy (model C.prog C.w) A (B3 fr scope L).env fun e s'=>compPost (model C.prog C.w) A E use Qw (.ref D) L (.error e) s') l
    (fun l' p'=>l'=l∧∃ r',p'=C0 (k0 p D (.list ys)) r') hst' (W.up _ _ hup (hn p hI)) hap (fun r' Z=>⟨rfl,r',rfl⟩) s' R' S'
   refine wpAny_mono this (fun rr s₁ hZ0=>fg hZ0 fun l₁ r' S₁ R₁ e e1=>?_) fun Z Z e=>e
   subst e;subst e1
   have R₂:=R₁.forget (fun Z Z e=>e) (am (k0 p D (.list ys)) r')
   have hLn:k0 p D (.list ys) L=none:=by
    cases q:k0 p D (.list ys) L with
    | none=>rfl
    | some o=>exact absurd rfl (R₂.at_ L o q).2.1
   subst hys
   refine fin D L p s₁ hI hpD hLn S₁ ?_ R₂.ns
   refine R₃.asleep R₂.keep fun b ao e=>?_
   by_cases hb:b=L
   ·subst hb
    rw [s0] at e;cases e
    refine aq (R₂.ns) fun m o es ep ho r=>?_
    exact ⟨gL,o,ho,s₁.heap,_,m,⟨o,es,ep,ho,r⟩,ho⟩
   ·rw [H0 _ _ hb] at e
    refine P1 (R₂.at_ b ao e) fun a1 Z Z a4=>?_
    exact ⟨a1,a4⟩
 refine codeAny_compStart_list ?_ ?_
 ·refine loop _ ?_ r₀ hst hapD ?_
  ·exact S₃
  ·exact R₄
 ·have sf:=W.self 0 r₀ (k0 p₀ D (.list [])) (H1 s₃.heap (C0 (k0 p₀ D (.list [])) r₀)) (B3 fr scope L) (notedBy (model C.prog C.w) A (B3 fr scope L).env fun x s'=>compPost (model C.prog C.w) A E use Qw (.ref D) L (.error x) s') (J1 scope l₂)
   (fun it' l p=>it'=it∧l=J1 scope l₂∧p=C0 (k0 p₀ D (.list [])) r₀) hst (W.up _ _ (al hDp) hnd) hapD ⟨rfl,rfl,rfl⟩
  refine wpAny_mono (sf {s₃ with heap:=pushCells (s₃.heap.push {cls:=.type "dict",data:=.dict #[]}) scope.names} R₄ S₃) (fun it' s₅ hZ0=>ff hZ0 fun S₅ R₅ e1=>?_) fun Z Z e=>e
  subst e1
  exact loop s₅ S₅ r₀ hst hapD R₅
end
end
section
section
variable {α:Type} {C:Cx} {A:Around} {g:Heap} {fr:Fm} {E:Value→Shared→Prop} {loc:j0} {hp:HP} {sc:Scope} {ow:Str→Bool} {scope:Scope}
theorem Fe {β:Type} {target iter i₂:Expr} {y:Str} {py₁ py₂:Pos} {pos:Pos} (rows:List β) (m:β→List Value) (zs:β→List Value) {Q:Value→j0→HP→Prop} (hh:A.handled=none) (F:P0 fr sc ow) (hs:E2 scope sc=true)
  (hfs:∀ x,foldedSetIterable iter fr.env x=pure x) (hfs₂:∀ fr':Fm,∀ x,foldedSetIterable i₂ fr'.env x=pure x) (hy:scope.names.lookup y=some .local) (hyd:(y == ("__debug__":Str))=false) (hyc:(y == ("__classdict__":Str))=false)
  (hok:(W0 target).all (fun x=>scope.names.lookup x == some .local || scope.names.lookup x == some .cell)=true)
  (h:w0 C A g fr E (eval iter fr.env) loc hp fun x l p=>i3 C A target (W0 target) x l p fun vss need l p=>vss=rows.map m∧rows.length≤1000∧(∀ x∈rows,(zs x).length≤10)∧(∀ p',m0 p p'→need p')∧
   (∀ x∈rows,∀ g' fr' E' p',P0 fr' (I5 scope sc) (W5 scope)→m0 p p'→w0 C A g' fr' E' (eval i₂ fr'.env) (K0 (W0 target) (m x) (J1 scope l)) p' fun v l' p''=>l'=K0 (W0 target) (m x) (J1 scope l)∧∃ T,v=.ref T∧m0 p' p''∧p'' T=some (.list (zs x)))∧
   (∀ D p',m0 p p'→p' D=none→Q (.ref D) l (k0 p' D (.list (rows.flatMap zs))))) :
  w0 C A g fr E (eval (Q4 (.Name y py₁) target iter (.Name y py₂) i₂ scope pos) fr.env) loc hp Q:=fun s R S=>by
 rw [eval_ListComp]
 refine DF rows m zs (use:=none) hh F hs hfs hfs₂ hy hyd hyc hok s R S (k7 h fun x l p hx=>bC hx fun vss need l p hZ0=>w5 hZ0 fun h1 h2 h3 h4 h5 h6=>⟨h1,h2,h3,h4,h5,fun D L p' s' hI hD hL S' R' hn=>?_⟩)
 refine o0 hn fun mm n=>?_;try clear hn
 refine ⟨mm,n,fun h' hsb=>⟨S',l,k0 p' D (.list (rows.flatMap zs)),?_,h6 D p' hI hD⟩⟩
 exact R'.drop1 (s0 ..) hsb.extBut fun b o e=>⟨(by rintro rfl;rw [hL] at e;exact J0 e),E1 hL e⟩
end
end
section
noncomputable def fF (o₀:Obj):Obj→Prop:=fun o=>∃ sl,o={o₀ with slots:=sl}
theorem zJ {o₀:Obj} {es:Array DictEntry} {ep:Nat} (h:o₀.data=.dict es ep):S8 (fF o₀):=by
 intro o hZ0;refine o0 hZ0 fun sl hR0=>?_;clear hZ0;subst hR0
 refine ⟨fun sl'=>⟨sl',rfl⟩,fun vs q=>?_⟩
 have q':o₀.data=.fields vs:=q
 rw [h] at q';cases q'
section
variable {α:Type} {C:Cx} {A:Around} {g:Heap} {fr:Fm} {E:Value→Shared→Prop} {loc:j0} {hp:HP} {sc:Scope} {ow:Str→Bool}
theorem EQ {f:Addr} {fd:FuncData} {body:List Stmt} {vals:List Value} {kw:List (Str × Value)} {binds:List (Str × Value)} {Q:Value→j0→HP→Prop}
  (F:j4 C f fd) (hbody:fd.body=.stmts body) (hclo:fd.closure=[]) (hlim:C.H₀.NoLimit) (hroom:A.depth < recursionLimit)
  (hbind:∀ s:Shared,(∀ b o,C.H₀.get? b=some o→s.heap.get? b=some o)→BindsTo s fd ⟨vals,kw⟩ binds)
  (hkb:(binds.all fun x=>fd.scope.names.lookup x.1 == some .local || fd.scope.names.lookup x.1 == some .cell)=true)
  (hg:fd.globals=mainGlobals) (hb:fd.builtins=builtinsNs) (hf:fd.scope.names.all (fun x=>x.2 != .free)=true)
  (h:∀ P g' L E',hp fr.env.locals=none→S8 P→P0 (K3 fd L f) fd.scope K7→I0 C (A.deeper (callEnvC fd L f)) g' (K3 fd L f) E' (execs body (K3 fd L f).env) (X1 binds fun Z=>none) (k0 hp fr.env.locals (.sat P))
   fun fl Z p=>∃ p',p' fr.env.locals=none∧m0 p' p∧p fr.env.locals=some (.sat P)∧Q (aN fl) loc p') :
  w0 C A g fr E (call (.ref f) vals kw) loc hp Q:=fun s R S=>by
 refine z0 (F.at_) fun o ho hd=>?_
 have hkind:∀ x∈binds,fd.scope.names.lookup x.1=some .local∨fd.scope.names.lookup x.1=some .cell:=fun x hx=>by
  have:=List.all_eq_true.mp hkb x hx
  rcases Bool.or_eq_true_iff.mp this with q | q
  ·exact .inl (by simpa using q)
  ·exact .inr (by simpa using q)
 have hk:∀ b o,C.H₀.get? b=some o→s.heap.get? b=some o:=fun b o e=>R.keep b o (R.base b o e)
 refine wpAny_call (codeAny_call_function hroom (hk _ _ ho) hd F.co F.gen hbody (F.code.keeps hk) (hbind s hk _ _ _ _ ?_))
 rw [hclo]
 refine wpAny_newFunctionEnv_cells F.kind (fun x hx=>(hkind x hx).imp id fun e=>⟨e,cellsFrom_some _ _ _ (.inl e)⟩) fun env he s' x=>?_
 subst he
 refine ⟨(hlim.keeps hk).keeps x.toInCall.keep,codeAny_func ?_⟩
 have hpL:hp fr.env.locals=none:=by
  cases q:hp fr.env.locals with
  | none=>rfl
  | some ao=>exact absurd rfl (R.at_ _ _ q).2.1
 refine an (R.ns) fun m oL es ep hoL hdL hrest=>?_
 have hbaseL:C.H₀.get? fr.env.locals=none:=by
  cases q:C.H₀.get? fr.env.locals with
  | none=>rfl
  | some o'=>have:=R.base _ _ q;rw [R.nsn] at this;exact J0 this
 obtain ⟨hp1,hhp1⟩:∃ hp1,hp1=k0 hp fr.env.locals (.sat (fF oL)):=⟨_,rfl⟩
 have hat:∀ b ao,hp1 b=some ao→C.H₀.get? b=none∧g.get? b=none∧∃ o,s.heap.get? b=some o∧ao.is o:=fun b ao e=>by
  rw [hhp1] at e
  by_cases w:b=fr.env.locals
  ·subst w
   rw [s0] at e;cases e
   exact ⟨hbaseL,R.nsn,oL,hoL,oL.slots,rfl⟩
  ·rw [H0 _ _ w] at e
   refine P1 (R.at_ b ao e) fun a1 Z Z a4=>?_
   refine ⟨?_,a1,a4⟩
   cases q:C.H₀.get? b with
   | none=>rfl
   | some o'=>have:=R.base _ _ q;rw [a1] at this;exact J0 this
 have hcall:F0 C.H₀ (H1 s.heap hp1) (K3 fd s.heap.objs.size f) (X1 binds fun Z=>none) hp1 s'.heap:=by
  have R0:F0 C.H₀ g fr loc (fun Z=>none) s.heap:=R.forget (fun Z Z e=>e) fun Z Z e=>nomatch e
  have R1:=Z8 (h:=s.heap) R0 (fd:=fd) (f:=f) (binds:=binds) hkind x
  have habove:∀ y c,(callEnvC fd s.heap.objs.size f).cells.lookup y=some c→s.heap.objs.size < c:=fun y c l=>x.above y c (mem_of_lookup l)
  have sub:∀ b o,(H1 s.heap hp1).get? b=some o→(H1 s.heap fun Z=>none).get? b=some o:=fun b o e=>by
   rw [t4 rfl];exact (z6 e).1
  refine ⟨fun b o e=>R1.keep b o (sub b o e),fun b o e=>?_,R1.loc,R1.ns,?_,fun y c ho l=>?_,R1.cne,R1.apart,fun b ao e=>?_⟩
  ·have n:hp1 b=none:=by
    cases q:hp1 b with
    | none=>rfl
    | some ao=>rw [(hat b ao q).1] at e;exact J0 e
   rw [t4 n];exact hk b o e
  ·cases q:(H1 s.heap hp1).get? (K3 fd s.heap.objs.size f).env.locals with
   | none=>rfl
   | some o'=>have:=sub _ _ q;rw [R1.nsn] at this;exact J0 this
  ·cases q:(H1 s.heap hp1).get? c with
   | none=>rfl
   | some o'=>have:=sub _ _ q;rw [R1.cell y c ho l] at this;exact J0 this
  ·refine De (hat b ao e) fun Z Z o ho hi=>?_
   have hb:=Heap.lt_size ho
   exact ⟨P7 e,Nat.ne_of_lt hb,fun y c l=>Nat.ne_of_lt (Nat.lt_trans hb (habove y c l)),o,x.toInCall.keep b o ho,hi⟩
 refine wpAny_mono (h (fF oL) _ _ _ hpL (zJ hdL) (N8 fd _ f F.kind hg hb hf) s' (by simp only [←hhp1];exact hcall) (r8 S x)) (fun fl s'' hq=>?_) fun Z Z e=>e
 refine Db hq fun S'' l' p R'' p' hpn hsub zr0=>B0 zr0 fun hpL' q=>?_;try clear hq
 have hkeep:∀ b o,hp1 b=none→s.heap.get? b=some o→s''.heap.get? b=some o:=fun b o n e=>R''.keep b o (by rw [t4 n];exact e)
 have hLn:∀ b,b≠fr.env.locals→hp b=none→hp1 b=none:=fun b hb e=>by rw [hhp1,H0 _ _ hb];exact e
 refine Dg (R''.at_ _ _ hpL') fun sl Z Z Z hoL'=>?_
 have nsK:∀ m,s.heap.Ns fr.env.locals m→s''.heap.Ns fr.env.locals m:=fun m hZ0=>cf hZ0 fun o es ep e r=>by
  rw [hoL] at e;cases e
  exact ⟨_,es,ep,hoL',r⟩
 have Cv:∀ x c,fr.env.cells.lookup x=some c→hp1 c=none:=fun x c l=>hLn c (R.cne x c l).1 (by
  cases q:hp c with
  | none=>rfl
  | some a=>exact absurd rfl ((R.at_ _ a q).2.2.1 x c l))
 have cK:∀ x c v,fr.env.cells.lookup x=some c→s.heap.IsCell c v→s''.heap.IsCell c v:=fun x c v l hZ0=>z0 hZ0 fun o e r=>⟨o,hkeep _ _ (Cv x c l) e,r⟩
 refine ⟨S'',loc,p',⟨fun b o e=>?_,R.base,fun y v e=>?_,⟨m,nsK m ⟨oL,es,ep,hoL,hdL,hrest⟩⟩,R.nsn,R.cell,fun y c l=>?_,R.apart,fun b ao e=>?_⟩,?_⟩
 ·refine hkeep b o ?_ (R.keep b o e)
  cases q:hp1 b with
  | none=>rfl
  | some ao=>rw [(hat b ao q).2.1] at e;exact J0 e
 ·rcases R.loc y v e with ⟨k,m,v',n,q⟩ | ⟨k,c,v',l,n,q⟩
  ·exact .inl ⟨k,m,v',nsK m n,q⟩
  ·exact .inr ⟨k,c,v',l,cK y c _ l n,q⟩
 ·refine P5 (R.cne y c l) fun a v n=>?_;exact ⟨a,v,cK y c v l n⟩
 ·refine P1 (R''.at_ b ao (hsub _ _ e)) fun a1 a2 a3 a4=>?_
  refine ⟨?_,(by rintro rfl;rw [hpn] at e;exact J0 e),fun y c l=>?_,a4⟩
  ·cases q:g.get? b with
   | none=>rfl
   | some o'=>
    have hn:hp1 b=none:=by
     cases q':hp1 b with
     | none=>rfl
     | some ao=>rw [(hat b ao q').2.1] at q;exact J0 q
    have:=R.keep _ _ q
    rw [←t4 hn,a1] at this;exact J0 this
  ·rintro rfl
   refine Q3 (R.cne y b l) fun Z v o' e' Z=>?_
   rw [←t4 (Cv y b l),a1] at e';exact J0 e'
 ·cases fl <;> exact q
end
end
section
noncomputable def X2 (x:Int):List Int:=[x / 4096,x / 64 % 64,x % 64]
noncomputable def i7 (k:Nat) (ds:List Int):Nat:=if k % 2≠0∨0 < ds.getD 0 0 then 0 else if 0 < ds.getD 1 0 then 1 else 2
noncomputable def A6 (r:List Int):List Int:=r.dropLast.map (·+64)++[r.getLastD 0+128]
theorem Dp (k:Nat) (x:Int) (h0:0≤x) (h1:x < 262144):∃ (ds:List Nat) (last:Nat),(∀ d∈ds,d < 64)∧last < 64∧ds.length≤2∧(X2 x).drop (i7 k (X2 x))=ds.map Int.ofNat++[(last:Int)]∧((Z4 (ds++[last]) 0:Nat):Int)=x:=by
 obtain ⟨a,ha⟩:∃ a:Nat,x / 4096=a:=⟨(x / 4096).toNat,aL (Int.ediv_nonneg h0 (by decide))⟩
 obtain ⟨b,hb⟩:∃ b:Nat,x / 64 % 64=b:=⟨(x / 64 % 64).toNat,aL (Int.emod_nonneg _ (by decide))⟩
 obtain ⟨c,hc⟩:∃ c:Nat,x % 64=c:=⟨(x % 64).toNat,aL (Int.emod_nonneg _ (by decide))⟩
 have hd:X2 x=[(a:Int),(b:Int),(c:Int)]:=by unfold X2;simp only [ha,hb,hc]
 rw [hd]
 unfold i7
 by_cases q:k % 2≠0∨0 < ([(a:Int),(b:Int),(c:Int)]:List Int).getD 0 0
 ·rw [if_pos q]
  refine ⟨[a,b],c,?_,by exact dA hc,by exact Nat.le_refl _,rfl,?_⟩
  ·intro d hd';simp at hd';exact wx h1 ha hd' hb
  ·simp [Z4];exact ww hc ha hb
 ·rw [if_neg q]
  have q1:¬(0 < (a:Int)):=fun w=>q (.inr (by simpa using w))
  by_cases q2:0 < ([(a:Int),(b:Int),(c:Int)]:List Int).getD 1 0
  ·rw [if_pos q2]
   refine ⟨[b],c,?_,by exact dA hc,by simp,rfl,?_⟩
   ·intro d hd';simp at hd';exact wv hd' hb
   ·simp [Z4];exact gE hc hb ha q1
  ·rw [if_neg q2]
   have q3:¬(0 < (b:Int)):=fun w=>q2 (by simpa using w)
   refine ⟨[],c,?_,by exact dA hc,by simp,rfl,?_⟩
   ·intro d hd';cases hd'
   ·simp [Z4];exact wu hc ha q1 hb q3
theorem jJ (ds:List Nat) (last:Nat):A6 (ds.map Int.ofNat++[(last:Int)])=ds.map (fun d:Nat=>(d:Int)+64)++[(last:Int)+128]:=by
 unfold A6
 simp only [List.dropLast_concat,List.map_map]
 congr 1
 simp [List.getLastD_eq_getLast?]
theorem zH (ds:List Nat) (last j:Nat) (h:j≤ds.length):(ds.map (fun d:Nat=>(d:Int)+64)++[(last:Int)+128])[j]?=some (Q6 ds last j):=by
 unfold Q6
 by_cases q:j < ds.length
 ·rw [if_pos q,List.getElem?_append_left (by simpa using q),List.getElem?_map,List.getD_eq_getElem?_getD,List.getElem?_eq_getElem q];rfl
 ·have:j=ds.length:=by exact T7 h q
  subst this
  rw [if_neg q,List.getElem?_append_right (by simp)];simp
theorem lj {α β:Type} (f:α→List β):∀ (rows:List α) (k:Nat) (r:α) (j:Nat),rows[k]?=some r→j < (f r).length→(rows.flatMap f)[((rows.take k).flatMap f).length+j]?=(f r)[j]?
 | [],k,r,j,h,_=>by exact J0 h
 | r₀::rows,0,r,j,h,hj=>by
  simp at h;subst h
  simp [List.flatMap_cons,List.getElem?_append_left hj]
 | r₀::rows,k+1,r,j,h,hj=>by
  have ih:=lj f rows k r j (by simpa using h) hj
  rw [List.take_succ_cons,List.flatMap_cons,List.flatMap_cons,List.length_append,Nat.add_assoc,List.getElem?_append_right (by exact wt),Nat.add_sub_cancel_left]
  exact ih
theorem pd (xs:List Value):W2 xs none (some (-1))=xs.dropLast:=by
 unfold W2
 have e:clipAt xs.length (-1)=xs.length - 1:=by unfold clipAt;exact u0 _
 simp only [Option.elim,List.drop_zero,Nat.sub_zero]
 simp only [e,List.dropLast_eq_take]
theorem Az {r:List Int} (h:r≠[]):(r.map iv)[(((r.map iv).length:Int)+(-1)).toNat]?=some (iv (r.getLastD 0)):=by
 have e:(((r.map iv).length:Int)+(-1)).toNat=r.length - 1:=by rw [List.length_map];exact wq
 simp only [e,List.getElem?_map,List.getLastD_eq_getLast?,←List.getLast?_eq_getElem?]
 cases q:r.getLast? with
 | none=>exact absurd (List.getLast?_eq_none_iff.mp q) h
 | some x=>rfl
theorem CK {ts:List Addr} {rows:List (List Int)} (h:rows.length=ts.length):(ts.zip rows).flatMap (fun z=>(A6 z.2).map iv)=(rows.flatMap A6).map iv:=by
 rw [List.map_flatMap]
 have e:(ts.zip rows).map Prod.snd=rows:=List.map_snd_zip (by exact gB h)
 conv=>rhs;rw [←e]
 rw [List.flatMap_map]
theorem Ah {C:Cx} (W:G1 C) (hstop:Q1 C "StopIteration" (.type "StopIteration")) {A:Around} {g:Heap} {fr:Fm} {E:Value→Shared→Prop} {loc:j0} {hp:HP} {Q:Value→j0→HP→Prop} {sn:Addr} {ns:List Int}
  (hroom:A.depth+1 < recursionLimit) (hh:A.handled=none) (hfrm:A.frames=some [fr.env]) (hlf:fr.env.frame=some fr.env.locals) (hlk:fr.env.scope.kind=.function) (hn:hp sn=some (.list (ns.map iv))) (hsz:ns.length=10) (hb:∀ x∈ns,0≤x∧x < 262144)
  (h:∀ D p',m0 hp p'→p' D=some (.list (ns.map iv))→Q (.ref D) loc p') :
  M0 C A g fr E (.ref 160) [.ref sn] [] loc hp Q:=I3 fun v hv=>by
 refine o0 (W.fRead) fun pm F=>?_
 have henum:=W.enumerate
 have hiter:=W.iter
 have hvar:=W.gVarint
 refine o0 (W.fVarint) fun pmV FV=>?_
 refine EQ F rfl rfl W.lim (by exact S7 hroom) (binds:=[("numbers",v)]) (fun s hk=>kp_binds E5 fun S=>by rfl) (by rfl) rfl rfl (by rfl) fun P g' L E' hpl sf hF=>?_
 dsimp only [X1]
 simp only [hv]
 clear F
 have hn1:k0 hp fr.env.locals (.sat P) sn=some (.list (ns.map iv)):=E1 hpl hn
 have hh':(A.deeper (callEnvC (U0 (G0 14) "_law_read" .none .none (.ref 159) pm [] .none) L 160)).handled=none:=hh
 refine Y1 ?_
 repeat' walk_at "kl"
 refine Q8 ns (fun x=>[iv x]) (fun x=>.list ((X2 x).map iv)) (V6 hh' hn1 ⟨rfl,by exact q4 hsz,fun p' hs=>hs _ _ hn1,?elt,?done⟩)
 case elt=>
  intro x hx g₃ fr₃ E₃ p₃ hF₃ hs₃
  dsimp only [W0,K0]
  repeat' walk_at "kl"
  refine ⟨by simp,fun T hT=>⟨rfl,T,rfl,hT,m0.set hT,?_⟩⟩
  rw [s0];rfl
 case done=>
  intro D₁ ts₁ p₁ hl₁ hnd₁ ht₁ hn₁ hs₁ hD₁
  have hR1:Y0 (k0 p₁ D₁ (.list (ts₁.map .ref))) D₁ ts₁ (ns.map X2):=⟨s0 ..,by simp only [hl₁,List.length_map],hnd₁,fun k T r a b=>by
   rw [List.getElem?_map] at b
   refine z0 (Option.map_eq_some_iff.mp b) fun x hx hR0=>?_;subst hR0
   exact E1 hD₁ (ht₁ k T x a hx)⟩
  have hs1:m0 (k0 hp fr.env.locals (.sat P)) (k0 p₁ D₁ (.list (ts₁.map .ref))):=hs₁.trans (m0.set hD₁)
  generalize k0 p₁ D₁ (.list (ts₁.map .ref))=q₁ at hR1 hs1 ⊢
  repeat' walk_at "kl"
  refine P1 hR1 fun r1 r2 r3 r4=>?_;try clear hR1
  refine m9 (ah hh' r1 ?en) fun v l p hz=>Q8 (((ns.map X2).zip ts₁).zipIdx) (fun z=>[iv z.2,.ref z.1.2]) (fun z=>.list (W2 (z.1.1.map iv) (some (i7 z.2 z.1.1:Int)) none)) hz
  case en=>
   have hz2:((ns.map X2).zip ts₁).map Prod.snd=ts₁:=List.map_snd_zip (by rw [r2];exact Nat.le_refl _)
   refine ⟨?evs,by simp;exact wp hsz,fun p' hs=>hs _ _ r1,?elt2,?done2⟩
   case evs=>
    conv=>lhs;rw [←hz2]
    simp only [List.map_map,List.zipIdx_map,List.map_map]
    rfl
   case elt2=>
    intro z hz g₃ fr₃ E₃ p₃ hF₃ hs₃
    obtain ⟨⟨ds,T⟩,k⟩:=z
    have hzm:(ds,T)∈(ns.map X2).zip ts₁:=by
     refine o0 (List.mem_iff_getElem?.mp hz) fun j hj=>?_
     rw [List.getElem?_zipIdx] at hj
     refine z0 (Option.map_eq_some_iff.mp hj) fun w hw e=>?_
     cases e
     exact List.mem_of_getElem? hw
    refine o0 (List.mem_iff_getElem?.mp hzm) fun j hj=>?_
    refine B0 (List.getElem?_zip_eq_some.mp hj) fun hj1 hj2=>?_
    have hT:=hs₃ _ _ (r4 j T ds hj2 hj1)
    obtain ⟨x,hx,rfl⟩:∃ x,ns[j]?=some x∧X2 x=ds:=by rw [List.getElem?_map] at hj1;exact Option.map_eq_some_iff.mp hj1
    have hsub:∀ (i:Nat) (d:Int),i < 3→(X2 x)[i]?=some d→((X2 x).map iv)[i]?=some (iv d):=fun i d Z e=>by rw [List.getElem?_map,e];rfl
    dsimp only [W0,K0]
    repeat' walk_at "kl"
    have e0:(X2 x).getD 0 0=x / 4096:=rfl
    have e1:(X2 x).getD 1 0=x / 64 % 64:=rfl
    by_cases hk:((k:Int) % 2)=0
    ·rw [if_neg (by simp [hk])]
     repeat' walk_at "kl"
     refine M5 (by intro _ _;with_unfolding_all rfl) hT (by decide) (by decide) (x:=iv (x / 4096)) rfl ?_
     repeat' walk_at "kl"
     by_cases h0:0 < x / 4096
     ·rw [if_pos (by simpa using h0)]
      repeat' walk_at "kl"
      exact ⟨T,_,rfl,hT,by simp [X2],fun c hc=>⟨rfl,c,rfl,hc,m0.set hc,by rw [s0];unfold i7;rw [if_pos (.inr (by rw [e0];exact h0))];rfl⟩⟩
     ·rw [if_neg (by simpa using h0)]
      repeat' walk_at "kl"
      refine M5 (by intro _ _;with_unfolding_all rfl) hT (by decide) (by decide) (x:=iv (x / 64 % 64)) rfl ?_
      repeat' walk_at "kl"
      have hc1:¬(k % 2≠0∨0 < (X2 x).getD 0 0):=by rw [e0];exact wo h0 hk
      by_cases h1:0 < x / 64 % 64
      ·rw [if_pos (by simpa using h1)]
       repeat' walk_at "kl"
       exact ⟨T,_,rfl,hT,by simp [X2],fun c hc=>⟨rfl,c,rfl,hc,m0.set hc,by rw [s0];unfold i7;rw [if_neg hc1,if_pos (by rw [e1];exact h1)];rfl⟩⟩
      ·rw [if_neg (by simpa using h1)]
       repeat' walk_at "kl"
       exact ⟨T,_,rfl,hT,by simp [X2],fun c hc=>⟨rfl,c,rfl,hc,m0.set hc,by rw [s0];unfold i7;rw [if_neg hc1,if_neg (by rw [e1];exact h1)];rfl⟩⟩
    ·rw [if_pos (by simpa using hk)]
     show ite _ _ _;rw [if_pos rfl]
     repeat' walk_at "kl"
     exact ⟨T,_,rfl,hT,by simp [X2],fun c hc=>⟨rfl,c,rfl,hc,m0.set hc,by rw [s0];unfold i7;rw [if_pos (.inl (by exact wn hk))];rfl⟩⟩
   case done2=>
    intro D₂ ts₂ p₂ hl₂ hnd₂ ht₂ hn₂ hs₂ hD₂
    have hlz:(((ns.map X2).zip ts₁).zipIdx).length=ns.length:=by simp;exact wm hl₁
    obtain ⟨rows,hrows⟩:∃ rows,rows=ns.zipIdx.map fun z=>(X2 z.1).drop (i7 z.2 (X2 z.1)):=⟨_,rfl⟩
    have hR2:Y0 (k0 p₂ D₂ (.list (ts₂.map .ref))) D₂ ts₂ rows:=⟨s0 ..,by simp only [hl₂,hlz,hrows];simp,hnd₂,fun k T r a b=>by
     rw [hrows,List.getElem?_map,List.getElem?_zipIdx] at b
     refine z0 (Option.map_eq_some_iff.mp b) fun z hz hR0=>?_;subst hR0
     refine z0 (Option.map_eq_some_iff.mp hz) fun x hx hR0=>?_;subst hR0
     have hk:k < ts₁.length:=by rw [hl₁];exact (List.getElem?_eq_some_iff.mp hx).1
     have hz':(((ns.map X2).zip ts₁).zipIdx)[k]?=some ((X2 x,ts₁[k]),k):=by
      have e1:((ns.map X2).zip ts₁)[k]?=some (X2 x,ts₁[k]):=List.getElem?_zip_eq_some.mpr ⟨by rw [List.getElem?_map,hx];rfl,List.getElem?_eq_getElem hk⟩
      simp only [List.getElem?_zipIdx,e1];simp
     refine E1 hD₂ ((ht₂ k T _ a hz').trans ?_)
     dsimp only
     have hcut:i7 k (X2 x)≤2:=by unfold i7;split;(exact wl);(split <;> decide)
     rw [cX (by rw [List.length_map];show _≤3;exact wk hcut),List.map_drop];simp⟩
    have hs2:m0 q₁ (k0 p₂ D₂ (.list (ts₂.map .ref))):=hs₂.trans (m0.set hD₂)
    generalize k0 p₂ D₂ (.list (ts₂.map .ref))=q₂ at hR2 hs2 ⊢
    refine P1 hR2 fun u1 u2 u3 u4=>?_;try clear hR2
    repeat' walk_at "kl"
    have hrow:∀ (k:Nat) (r:List Int),rows[k]?=some r→∃ (x:Int) (ds:List Nat) (last:Nat),ns[k]?=some x∧(∀ d∈ds,d < 64)∧last < 64∧ds.length≤2∧r=ds.map Int.ofNat++[(last:Int)]∧((Z4 (ds++[last]) 0:Nat):Int)=x:=fun k r b=>by
     rw [hrows,List.getElem?_map,List.getElem?_zipIdx] at b
     refine z0 (Option.map_eq_some_iff.mp b) fun z hz hR0=>?_;subst hR0
     refine z0 (Option.map_eq_some_iff.mp hz) fun x hx hR0=>?_;subst hR0
     refine B0 (hb x (List.mem_of_getElem? hx)) fun b1 b2=>?_
     refine lE (Dp (0+k) x b1 b2) fun ds last d1 d2 d3 d4 d5=>?_
     exact ⟨x,ds,last,hx,d1,d2,d3,d4,d5⟩
    have hlr:rows.length=ns.length:=by rw [hrows];simp
    clear hrows
    refine Fe (ts₂.zip rows) (fun z=>[.ref z.1]) (fun z=>(A6 z.2).map iv) hh' hF (by rfl) (fun Z=>rfl) (fun Z Z=>rfl) (by rfl) (by decide) (by decide) (by rfl) ?fl
    case fl=>
     repeat' walk_at "kl"
     have hz3:(ts₂.zip rows).map Prod.fst=ts₂:=List.map_fst_zip (by rw [u2];exact Nat.le_refl _)
     refine bT hh' u1 ⟨?evs3,?len3,?zl3,fun p' hs=>hs _ _ u1,?elt3,?done3⟩
     case evs3=>
      conv=>lhs;rw [←hz3]
      rw [List.map_map,List.map_map]
      rfl
     case len3=>
      have:(ts₂.zip rows).length≤rows.length:=by simp;exact wj
      exact wi hsz hlz hl₂ this u2
     case zl3=>
      intro z hz
      refine o0 (List.mem_iff_getElem?.mp (List.of_mem_zip hz).2) fun k hk=>?_
      refine au (hrow k _ hk) fun x ds last Z Z Z d3 zr0=>B0 zr0 fun d4 Z=>?_
      rw [d4,jJ]
      simp;exact wh d3
     case elt3=>
      intro z hz g₃ fr₃ E₃ p₃ hF₃ hs₃
      obtain ⟨T,r⟩:=z
      refine o0 (List.mem_iff_getElem?.mp hz) fun k hk=>?_
      refine B0 (List.getElem?_zip_eq_some.mp hk) fun hk1 hk2=>?_
      have hT:=hs₃ _ _ (u4 k T r hk1 hk2)
      refine au (hrow k _ hk2) fun x ds last hx d1 d2 d3 zr0=>B0 zr0 fun d4 d5=>?_
      have hrl:r.length=ds.length+1:=by rw [show r=_ from d4];simp
      dsimp only [W0,K0]
      repeat' walk_at "kl"
      refine ⟨T,_,rfl,hT,by rw [List.length_map];exact iZ d3 hrl,fun c hc=>?_⟩
      have hc1:k0 p₃ c (.list (W2 (r.map iv) none (some (-1)))) c=some (.list (r.dropLast.map iv)):=by rw [s0,pd,List.map_dropLast]
      have hTc:k0 p₃ c (.list (W2 (r.map iv) none (some (-1)))) T=some (.list (r.map iv)):=E1 hc hT
      refine W4 r.dropLast (fun d=>[iv d]) (fun d=>iv (d+64)) (V6 hh' hc1 ⟨rfl,by rw [List.length_dropLast];exact wg d3 hrl,?e4,?d4⟩)
      case e4=>
       intro d hd g₄ fr₄ E₄ hF₄
       dsimp only [W0,K0]
       repeat' walk_at "kl"
       exact ⟨rfl,m0.rfl,rfl⟩
      case d4=>
       intro c2 hc2
       repeat' walk_at "kl"
       have hrne:r≠[]:=by rintro rfl;cases hrl
       refine oK (by intro _ _;with_unfolding_all rfl) (l:=T) (xs:=r.map iv) (x:=iv (r.getLastD 0)) (E1 hc2 hTc) (by decide) (by rw [List.length_map];exact wf hrl) (by simp only [sizeLine_eq,List.length_map];exact we d3 hrl) (Az hrne) ?_
       repeat' walk_at "kl"
       refine ⟨by simp,fun c3 hc3=>?_⟩
       refine ae (E1 hc3 (s0 ..)) (s0 ..) (by simp;exact iZ d3 hrl) fun c4 hc4=>?_
       refine ⟨rfl,c4,rfl,(m0.set hc).trans ((m0.set hc2).trans ((m0.set hc3).trans (m0.set hc4))),?_⟩
       rw [s0]
       show _=some (AO.list ((A6 r).map iv))
       unfold A6
       simp only [List.map_append,List.map_map];rfl
     case done3=>
      intro D₃ p₃ hs₃ hD₃
      simp only [CK (by exact aW u2)]
      obtain ⟨os,hos⟩:∃ os,os=rows.flatMap A6:=⟨_,rfl⟩
      simp only [←hos]
      obtain ⟨p₄,hp₄⟩:∃ p₄,p₄=k0 p₃ D₃ (.list (os.map iv)):=⟨_,rfl⟩
      simp only [←hp₄]
      have hD₄:p₄ D₃=some (.list (os.map iv)):=by simp only [hp₄,s0]
      have hs₄:m0 q₂ p₄:=by rw [hp₄];exact hs₃.trans (m0.set hD₃)
      repeat' walk_at "kl"
      refine Eh hD₄ fun I hI=>?_
      repeat' walk_at "kl"
      have hDI:D₃≠I:=by rintro rfl;rw [hI] at hD₄;exact J0 hD₄
      obtain ⟨pos,hpos⟩:∃ pos:Nat→Nat,pos=fun i=>((rows.take i).flatMap A6).length:=⟨_,rfl⟩
      have hI0:k0 p₄ I (X0 D₃ 0)=k0 p₄ I (X0 D₃ (pos 0)):=by rw [hpos];rfl
      have hne:∀ i,k0 p₄ I (X0 D₃ i) D₂=some (.list (ts₂.map .ref)):=fun i=>by
       rw [H0 _ _ (by rintro rfl;rw [hs₄ _ _ u1] at hI;cases hI)];exact hs₄ _ _ u1
      have hoct:∀ (i:Nat) (r:List Int) (x:Int) (ds:List Nat) (last:Nat),rows[i]?=some r→r=ds.map Int.ofNat++[(last:Int)]→pos (i+1)=pos i+ds.length+1∧∀ k,k≤ds.length→os[pos i+k]?=some (Q6 ds last k):=fun i r x ds last hr er=>by
       have eo:A6 r=ds.map (fun d:Nat=>(d:Int)+64)++[(last:Int)+128]:=by simp only [er,jJ]
       refine ⟨?_,fun k hk=>?_⟩
       ·rw [hpos]
        dsimp only
        simp only [List.take_add_one,hr,List.flatMap_append,List.length_append]
        simp [eo];exact wd
       ·rw [hpos,hos]
        dsimp only
        rw [lj A6 rows i r k hr (by rw [eo];simp;exact dB hk),eo]
        exact zH ds last k hk
      refine bT hh' (hne 0) ⟨by rw [List.length_map,List.length_map];exact wc hsz hlz hl₂,fun i ys p=>i≤10∧p=k0 p₄ I (X0 D₃ (pos i))∧ys=(ns.take i).map iv,⟨Nat.zero_le _,hI0,rfl⟩,fun i ys p e=>e.2.1▸hne _,?turn5,?end5⟩
      case turn5=>
       intro i vs ys p g₅ fr₅ E₅ hv hZ0 hF₅;refine V1 hZ0 fun hi hR0 hR1=>?_;clear hZ0;subst hR0;subst hR1
       have hi2:i < ts₂.length:=by
        have:=(List.getElem?_eq_some_iff.mp hv).1
        simpa using this
       obtain ⟨r,hr⟩:∃ r,rows[i]?=some r:=⟨_,List.getElem?_eq_getElem (by exact q1 u2 hi2)⟩
       refine au (hrow i r hr) fun x ds last hx d1 d2 d3 zr0=>B0 zr0 fun d4 d5=>?_
       refine B0 (hoct i r x ds last hr d4) fun o1 o2=>?_
       rw [List.getElem?_map,List.getElem?_map,List.getElem?_eq_getElem hi2] at hv
       cases hv
       dsimp only [W0,K0,I9]
       intro g₆ E₆
       rw [if_pos rfl]
       repeat' walk_at "kl"
       refine nK W (by show A.depth+1 < recursionLimit;exact bk hroom) (s0 ..) (by rw [H0 _ _ hDI];exact hD₄) d1 d2 d3 o2 ?_
       refine ⟨rfl,by exact wb hsz hlz hl₂ hi2,by simp only [X6,o1],?_⟩
       simp only [List.take_add_one,hx,d5];simp
      case end5=>
       intro D ys p hZ0 hD;refine V1 hZ0 fun hi hR0 hR1=>?_;clear hZ0;subst hR0;subst hR1
       have hln:((ts₂.map Value.ref).map fun v=>[v]).length=10:=by rw [List.length_map,List.length_map];exact wa hsz hlz hl₂
       rw [hln] at hD ⊢
       have hpe:pos 10=os.length:=by rw [hpos,hos];dsimp only;rw [List.take_of_length_le (by exact vZ hsz u2 hlz hl₂)]
       have hall:(ns.take 10).map iv=ns.map iv:=by rw [List.take_of_length_le (by exact vY hsz)]
       simp only [hall]
       have hsP:m0 (k0 hp fr.env.locals (.sat P)) p₄:=hs1.trans (hs2.trans hs₄)
       have hsI:m0 p₄ (k0 p₄ I (X0 D₃ (pos 10))):=m0.set hI
       have hsD:m0 (k0 p₄ I (X0 D₃ (pos 10))) (k0 (k0 p₄ I (X0 D₃ (pos 10))) D (.list (ns.map iv))):=m0.set hD
       have hDt:=s0 (k0 p₄ I (X0 D₃ (pos 10))) D (.list (ns.map iv))
       have hPt:=hsD _ _ (hsI _ _ (hsP _ _ (s0 hp fr.env.locals (.sat P))))
       have hIt:=hsD _ _ (s0 p₄ I (X0 D₃ (pos 10)))
       have hD3t:=hsD _ _ (hsI _ _ hD₄)
       have hsub:m0 hp (k0 (k0 p₄ I (X0 D₃ (pos 10))) D (.list (ns.map iv))):=(m0.set hpl).trans (hsP.trans (hsI.trans hsD))
       have hIn:hp I=none:=(m0.set hpl (o:=.sat P)).none (hsP.none hI)
       generalize k0 (k0 p₄ I (X0 D₃ (pos 10))) D (.list (ns.map iv))=p₅ at hDt hPt hIt hD3t hsub ⊢
       repeat' walk_at "kl"
       refine EU (I:=I) (fL:=fr.env.locals) (loc₁:=N0 (N0 (N0 (N0 (N0 (fun Z=>none) "numbers" (.ref sn)) "rows" (.ref D₁)) "rows" (.ref D₂)) "hand" (.ref I)) "told" (.ref D)) hF hstop (by rfl) (Around.frames_deeper hfrm) rfl hlk hlf hPt sf (fun E₁ hE₁=>?tb) (fun A' E'' hd' hu'=>?tq)
       case tb=>
        refine Y1 ?_
        repeat' walk_at "kl"
        refine ⟨_,B6 F.slot_list_append F.type_list_append hDt,?_⟩
        repeat' walk_at "kl"
        exact nJ W (by show A.depth+1 < recursionLimit;exact bk hroom) hh' (Around.frames_deeper hfrm) rfl (by exact hF.kind) hlk hlf hPt sf hIt hD3t (by rw [List.getElem?_map,hpe,List.getElem?_eq_none (Nat.le_refl _)];rfl) hE₁
       case tq=>
        refine Y1 ?_
        repeat' walk_at "kl"
        have hLI:fr.env.locals≠I:=fun q=>by have w:=hsP _ _ (s0 hp fr.env.locals (.sat P));rw [q,hI] at w;exact J0 w
        refine ⟨fun b=>if b=fr.env.locals then none else L8 p₅ I b,if_pos rfl,fun b o e=>?_,?_,?_⟩
        ·by_cases q:b=fr.env.locals
         ·dsimp only at e;rw [if_pos q] at e;exact J0 e
         ·dsimp only at e;rw [if_neg q] at e;exact e
        ·unfold L8;rw [if_neg hLI];exact hPt
        ·have hDL:D≠fr.env.locals:=by rintro rfl;rw [hPt] at hDt;exact R3 hDt
         have hDI':D≠I:=by rintro rfl;rw [s0] at hD;exact B5 hD
         refine h D _ (fun b o e=>?_) ?_
         ·have q1:b≠fr.env.locals:=by rintro rfl;rw [hpl] at e;exact J0 e
          have q2:b≠I:=by rintro rfl;rw [hIn] at e;exact J0 e
          rw [if_neg q1];unfold L8;rw [if_neg q2];exact hsub _ _ e
         ·rw [if_neg hDL];unfold L8;rw [if_neg hDI'];exact hDt
end
section
noncomputable def C5 {α:Type} (lt:Nat→Nat→Bool) (n:Nat):KasT α→(α→Prop)→Prop
 | .ret a,Q=>Q a
 | .ask i j k,Q=>i < n∧j < n∧C5 lt n (k (lt i j)) Q
theorem r9 {α β:Type} {lt:Nat→Nat→Bool} {n:Nat} {f:α→KasT β} {Q:β→Prop}:∀ (t:KasT α),C5 lt n t (fun a=>C5 lt n (f a) Q)→C5 lt n (t.bind f) Q
 | .ret a,h=>h
 | .ask i j k,⟨h1,h2,h3⟩=>⟨h1,h2,r9 (k (lt i j)) h3⟩
theorem V7 {α:Type} {lt:Nat→Nat→Bool} {n:Nat} {Q Q':α→Prop} (hq:∀ a,Q a→Q' a):∀ (t:KasT α),C5 lt n t Q→C5 lt n t Q'
 | .ret a,h=>hq a h
 | .ask i j k,⟨h1,h2,h3⟩=>⟨h1,h2,V7 hq (k (lt i j)) h3⟩
theorem dZ {α:Type} {lt:Nat→Nat→Bool} {n:Nat} {Q:α→Prop} {P:α→Shared→Prop} {cmp:Nat→Nat→(Bool→Shared→Prop)→Shared→Prop} {I:Shared→Prop}
  (hc:∀ i j C s,i < n→j < n→I s→(∀ s',I s'→C (lt i j) s')→cmp i j C s) (hq:∀ a s,I s→Q a→P a s):∀ (t:KasT α) (s:Shared),I s→C5 lt n t Q→t.kasWp cmp P s
 | .ret a,s,hI,h=>hq a s hI h
 | .ask i j k,s,hI,⟨h1,h2,h3⟩=>hc i j _ s h1 h2 hI fun s' hI'=>dZ hc hq (k (lt i j)) s' hI' h3
section
variable {K:Nat→Int} {n:Nat}
noncomputable def Z3 (K:Nat→Int) (i j:Nat):Bool:=decide (K i < K j)
noncomputable def RK (K:Nat→Int) (a b:Nat):Prop:=K a < K b∨(K a=K b∧a < b)
theorem RK.trans {a b c:Nat} (h:RK K a b) (h':RK K b c):RK K a c:=by unfold RK at *;exact vX h' h
structure C3 (n:Nat) (p:Array Nat) (k:Nat):Prop where
 size:p.size=n
 perm:p.Perm (List.range n).toArray
 tail:∀ j,k≤j→j < n→p.getD j 0=j
 pre:∀ j,j < k→p.getD j 0 < k
 le:k≤n
noncomputable def m7 (K:Nat→Int) (p:Array Nat) (k:Nat):Prop:=∀ a b,a < b→b < k→RK K (p.getD a 0) (p.getD b 0)
noncomputable def aJ (K:Nat→Int) (p:Array Nat) (k:Nat):Prop:=∀ a b,a < b→b < k→RK K (p.getD b 0) (p.getD a 0)
theorem B9 {p:Array Nat} {k:Nat}:p.getD k 0=(p[k]?).getD 0:=by simp
theorem S9 {p:Array Nat} {i j:Nat} (hj:j≤p.size) (k:Nat):(kas_rev p i j).getD k 0=if i≤k∧k < j then p.getD (i+j - 1 - k) 0 else p.getD k 0:=by
 unfold kas_rev
 rw [B9,getElem?_mirror_all hj]
 split <;> simp only [B9]
theorem mA {p:Array Nat} {src d:Nat} (hs:src < p.size) (hd:d≤src) (k:Nat):(bubble p src d).getD k 0=if k=src - d then p.getD src 0 else if src - d < k∧k≤src then p.getD (k - 1) 0 else p.getD k 0:=by
 rw [B9,getElem?_bubble hs d hd]
 by_cases q:k=src - d
 ·rw [if_pos q,if_pos q,B9]
 ·simp only [if_neg q,if_neg q]
  by_cases w:src - d < k∧k≤src
  ·rw [if_pos w,if_pos w,B9]
  ·rw [if_neg w,if_neg w,B9]
theorem C3.rev {p:Array Nat} {k i j:Nat} (h:C3 n p k) (hj:j≤k):C3 n (kas_rev p i j) k where
 size:=by unfold kas_rev;rw [mirror_size];exact h.size
 perm:=(mirror_perm _ _ _ _).trans h.perm
 tail:=fun l h1 h2=>by rw [S9 (by have:=h.size;have:=h.le;exact iY hj (by assumption) this),if_neg (by exact vW h1 hj)];exact h.tail l h1 h2
 pre:=fun l h1=>by
  rw [S9 (by have:=h.size;have:=h.le;exact iY hj (by assumption) this)]
  split
  ·exact h.pre _ (by exact vV (by assumption) hj)
  ·exact h.pre _ h1
 le:=h.le
theorem C3.up {p:Array Nat} {k:Nat} (h:C3 n p k) (hk:k < n):C3 n p (k+1) where
 size:=h.size
 perm:=h.perm
 tail:=fun j h1 h2=>h.tail j (by exact D8 h1) h2
 pre:=fun j h1=>by
  rcases Nat.lt_or_ge j k with q | q
  ·have:=h.pre j q;exact dD this
  ·rw [show j=k by exact q2 h1 q,h.tail k (Nat.le_refl _) hk];exact bj
 le:=hk
theorem C3.bub {p:Array Nat} {k l:Nat} (h:C3 n p k) (hk:k < n) (hl:l≤k):C3 n (bubble p k (k - l)) (k+1):=by
 have hg:=mA (p:=p) (src:=k) (d:=k - l) (by rw [h.size];exact hk) (by exact iX)
 refine ⟨by rw [bubble_size];exact h.size,(bubble_perm _ _ _).trans h.perm,fun j h1 h2=>?_,fun j h1=>?_,hk⟩
 ·rw [hg,if_neg (by exact vU h1),if_neg (by exact vT h1)];exact h.tail j (by exact D8 h1) h2
 ·have hu:=h.up hk
  rw [hg]
  split
  ·exact hu.pre _ (by exact bj)
  ·split
   ·exact hu.pre _ (by exact vS (by assumption))
   ·exact hu.pre _ h1
theorem dS {p:Array Nat} {k:Nat} (h:C3 n p k) (hk:k < n) (hs:m7 K p k):∀ (f l r:Nat),r - l≤f→l≤r→r≤k→(∀ a,a < l→RK K (p.getD a 0) k)→(∀ a,r≤a→a < k→RK K k (p.getD a 0))→
  C5 (Z3 K) n (kas_place p k f l r) fun l=>l≤k∧(∀ a,a < l→RK K (p.getD a 0) k)∧∀ a,l≤a→a < k→RK K k (p.getD a 0)
 | 0,l,r,hf,hlr,hr,h1,h2=>⟨by exact A8 hr hlr,h1,fun a ha hak=>h2 a (by exact vR ha hf) hak⟩
 | f+1,l,r,hf,hlr,hr,h1,h2=>by
  dsimp only [kas_place]
  by_cases q:l≥r
  ·rw [if_pos q];exact ⟨by exact A8 hr hlr,h1,fun a ha hak=>h2 a (by exact A8 ha q) hak⟩
  ·rw [if_neg q]
   have hm:=h.pre ((l+r) / 2) (by exact iW hr q)
   simp only [h.tail k (Nat.le_refl _) hk]
   refine ⟨hk,by exact z8 hk hm,?_⟩
   by_cases c:K k < K (p.getD ((l+r) / 2) 0)
   ·rw [show Z3 K k (p.getD ((l+r) / 2) 0)=true from decide_eq_true c];dsimp only;rw [if_pos rfl]
    refine dS h hk hs f l ((l+r) / 2) (by exact vQ hf) (by exact vP q) (by exact vO hr q) h1 fun a ha hak=>?_
    rcases Nat.lt_or_ge ((l+r) / 2) a with w | w
    ·exact RK.trans (.inl c) (hs _ _ w hak)
    ·rw [show a=(l+r) / 2 by exact vN ha w];exact .inl c
   ·rw [show Z3 K k (p.getD ((l+r) / 2) 0)=false from decide_eq_false c];dsimp only;rw [if_neg Bool.false_ne_true]
    have hR:RK K (p.getD ((l+r) / 2) 0) k:=by unfold RK;exact vM hm c
    refine dS h hk hs f ((l+r) / 2+1) r (by exact vL hf) (by exact vK q) hr (fun a ha=>?_) h2
    rcases Nat.lt_or_ge a ((l+r) / 2) with w | w
    ·exact RK.trans (hs _ _ w (by exact iW hr q)) hR
    ·rw [show a=(l+r) / 2 by exact vJ w ha];exact hR
theorem mI:∀ (f:Nat) (p:Array Nat) (k:Nat),k+f=n→C3 n p k→m7 K p k→C5 (Z3 K) n (kas_bin f p k) fun p'=>C3 n p' n∧m7 K p' n
 | 0,p,k,e,h,hs=>by
  have:k=n:=by exact vI e
  subst this
  exact ⟨h,hs⟩
 | f+1,p,k,e,h,hs=>by
  have hk:k < n:=by exact dz e
  dsimp only [kas_bin]
  refine r9 _ (V7 (fun l hZ0=>V1 hZ0 fun h1 h2 h3=>?_) _ (dS h hk hs k 0 k (by exact vH) (by exact vG) (Nat.le_refl _) (fun a ha=>by exact (vF ha).elim) fun a ha hak=>by exact (vE hak ha).elim))
  refine mI f _ (k+1) (by exact X9 e) (h.bub hk h1) fun a b hab hb=>?_
  have hg:=mA (p:=p) (src:=k) (d:=k - l) (by rw [h.size];exact hk) (by exact iX)
  have hkk:=h.tail k (Nat.le_refl _) hk
  rw [hg a,hg b,hkk]
  rcases Nat.lt_or_ge b l with w | w
  ·rw [if_neg (u8 h1 (Nat.lt_trans hab w)),if_neg (by exact vD w hab),if_neg (u8 h1 w),if_neg (by exact iV w)];exact hs a b hab (Nat.lt_of_lt_of_le w h1)
  ·rcases Nat.eq_or_lt_of_le w with w' | w'
   ·rw [if_neg (by exact vC hb hab w'),if_neg (by exact vB w' hab),if_pos (by exact vA hb w')];exact h2 a (by exact q8 hab w')
   ·rw [if_neg (show ¬b=k - (k - l) by exact iU w'),if_pos (show k - (k - l) < b∧b≤k by exact vz w' hb)]
    rcases Nat.lt_or_ge a l with u | u
    ·rw [if_neg (u8 h1 u),if_neg (by exact iV u)];exact hs a (b - 1) (by exact vy w' u) (by exact dy hb hab)
    ·rcases Nat.eq_or_lt_of_le u with u' | u'
     ·rw [if_pos (u'.symm.trans (Nat.sub_sub_self h1).symm)];exact h3 (b - 1) (by exact gA w') (by exact dy hb w')
     ·rw [if_neg (by exact iU u'),if_pos (by exact vw u' hb hab)];exact hs (a - 1) (b - 1) (by exact vv hab u') (by exact dy hb hab)
theorem fD:∀ (f:Nat) (p:Array Nat) (k:Nat),k+f=n→1≤k→C3 n p k→m7 K p k→C5 (Z3 K) n (kas_asc p f k) fun m=>k≤m∧C3 n p m∧m7 K p m∧(m < n→K (p.getD m 0) < K (p.getD (m - 1) 0))
 | 0,p,k,e,h1,h,hs=>⟨Nat.le_refl _,h,hs,fun w=>by exact vt e w⟩
 | f+1,p,k,e,h1,h,hs=>by
  have hk:k < n:=by exact dz e
  dsimp only [kas_asc]
  have hkk:=h.tail k (Nat.le_refl _) hk
  have hp:=h.pre (k - 1) (by exact dx h1)
  refine ⟨by exact vr hk hkk,by exact z8 hk hp,?_⟩
  by_cases c:K (p.getD k 0) < K (p.getD (k - 1) 0)
  ·rw [show Z3 K (p.getD k 0) (p.getD (k - 1) 0)=true from decide_eq_true c];dsimp only;rw [if_pos rfl]
   exact ⟨Nat.le_refl _,h,hs,fun Z=>c⟩
  ·rw [show Z3 K (p.getD k 0) (p.getD (k - 1) 0)=false from decide_eq_false c];dsimp only;rw [if_neg Bool.false_ne_true]
   have hR:RK K (p.getD (k - 1) 0) (p.getD k 0):=by unfold RK;exact vq c hp hkk
   refine V7 (fun m ⟨a1,a2⟩=>⟨Nat.le_of_succ_le a1,a2⟩) _ (fD f p (k+1) (by exact X9 e) (by exact jk) (h.up hk) fun a b hab hb=>?_)
   rcases Nat.lt_or_ge b k with w | w
   ·exact hs a b hab w
   ·rw [show b=k by exact q2 hb w]
    rcases Nat.lt_or_ge a (k - 1) with u | u
    ·exact RK.trans (hs a (k - 1) u (by exact dx h1)) hR
    ·rw [show a=k - 1 by exact vp u hb hab];exact hR
structure J6 (K:Nat→Int) (n:Nat) (p:Array Nat) (k q:Nat):Prop where
 ins:C3 n p k
 qk:q+1≤k
 dsc:∀ a b,a < b→b < k - q - 1→RK K (p.getD b 0) (p.getD a 0)
 low:∀ a b,a < k - q - 1→k - q - 1≤b→b < k→K (p.getD b 0) < K (p.getD a 0)
 eqs:∀ b,k - q - 1≤b→b < k→p.getD b 0=b∧K b=K (k - 1)
theorem J6.turn {p:Array Nat} {k q:Nat} (h:J6 K n p k q):C3 n (kas_rev p (k - (q+1)) k) k∧aJ K (kas_rev p (k - (q+1)) k) k∧K ((kas_rev p (k - (q+1)) k).getD (k - 1) 0)=K (k - 1):=by
 have hsz:=h.ins.size
 have hle:=h.ins.le
 have hqk:=h.qk
 have hg:=S9 (p:=p) (i:=k - (q+1)) (j:=k) (by exact bl hle hsz)
 refine ⟨h.ins.rev (Nat.le_refl _),fun a b hab hb=>?_,?_⟩
 ·simp only [hg a,hg b]
  rcases Nat.lt_or_ge b (k - q - 1) with w | w
  ·rw [if_neg (by exact iT w),if_neg (by exact vo w hab)];exact h.dsc a b hab w
  ·rw [if_pos (show k - (q+1)≤b∧b < k by exact vn w hb)]
   rcases Nat.lt_or_ge a (k - q - 1) with u | u
   ·rw [if_neg (by exact iT u)];exact .inl (h.low a _ u (by exact bz hb) (by exact vm w u))
   ·rw [if_pos (by exact vj u hb hab)]
    refine B0 (h.eqs (k - (q+1)+k - 1 - a) (by exact vi hb hab) (by exact vg u hb)) fun a1 a2=>?_
    refine B0 (h.eqs (k - (q+1)+k - 1 - b) (by exact bz hb) (by exact vf hb hab u)) fun b1 b2=>?_
    simp only [a1,b1];unfold RK;exact ve hb hab b2 a2
 ·rw [hg,if_pos (by exact vd hqk)]
  refine B0 (h.eqs (k - (q+1)+k - 1 - (k - 1)) (by exact vc) (by exact uZ hqk)) fun a1 a2=>?_
  rw [a1,a2]
theorem J6.one {p:Array Nat} {k:Nat} (h:J6 K n p k 0):aJ K p k:=fun a b hab hb=>by
 rcases Nat.lt_or_ge b (k - 0 - 1) with w | w
 ·exact h.dsc a b hab w
 ·exact .inl (h.low a b (by exact uY hb hab) w hb)
theorem J6.start {p:Array Nat} {k:Nat} (h:C3 n p k) (hk:k < n) (h1:1≤k) (hd:aJ K p k) (hlt:K k < K (p.getD (k - 1) 0)):J6 K n p (k+1) 0 where
 ins:=h.up hk
 qk:=by exact uX
 dsc:=fun a b hab hb=>hd a b hab (by exact uW hb)
 low:=fun a b ha hb hb'=>by
  rw [show b=k by exact iS hb' hb,h.tail k (Nat.le_refl _) hk]
  rcases Nat.lt_or_ge a (k - 1) with u | u
  ·have:=hd a (k - 1) u (by exact dx h1)
   unfold RK at this;exact uV hlt this
  ·rw [show a=k - 1 by exact uU ha u];exact hlt
 eqs:=fun b hb hb'=>by rw [show b=k by exact iS hb' hb,h.tail k (Nat.le_refl _) hk];exact ⟨rfl,by simp⟩
theorem cu:∀ (f:Nat) (p:Array Nat) (k q:Nat),k+f=n→J6 K n p k q→C5 (Z3 K) n (kas_desc f p k q) fun r=>J6 K n r.1 r.2.1 r.2.2
 | 0,p,k,q,e,h=>h
 | f+1,p,k,q,e,h=>by
  have hk:k < n:=by exact dz e
  have hqk:=h.qk
  dsimp only [kas_desc]
  have hkk:=h.ins.tail k (Nat.le_refl _) hk
  refine B0 (h.eqs (k - 1) (by exact iR) (by exact iQ hqk)) fun e1 e2=>?_
  rw [hkk,e1]
  refine ⟨hk,by exact iP hk,?_⟩
  by_cases c:K k < K (k - 1)
  ·rw [show Z3 K k (k - 1)=true from decide_eq_true c];dsimp only;rw [if_pos rfl]
   by_cases hq:q > 0
   ·rw [if_pos hq]
    refine V1 (h.turn) fun t1 t2 t3=>?_
    exact cu f _ (k+1) 0 (by exact X9 e) (J6.start t1 hk (by exact dw hqk) t2 (by rw [t3];exact c))
   ·rw [if_neg hq]
    have:q=0:=by exact iO hq
    subst this
    exact cu f _ (k+1) 0 (by exact X9 e) (J6.start h.ins hk (by exact uT hqk) h.one (by rw [e1];exact c))
  ·rw [show Z3 K k (k - 1)=false from decide_eq_false c];dsimp only;rw [if_neg Bool.false_ne_true]
   refine ⟨by exact iP hk,hk,?_⟩
   by_cases d:K (k - 1) < K k
   ·rw [show Z3 K (k - 1) k=true from decide_eq_true d];dsimp only;rw [if_pos rfl]
    exact h
   ·rw [show Z3 K (k - 1) k=false from decide_eq_false d];dsimp only;rw [if_neg Bool.false_ne_true]
    refine cu f p (k+1) (q+1) (by exact X9 e) ⟨h.ins.up hk,by exact iN hqk,fun a b hab hb=>h.dsc a b hab (by exact dv hb),fun a b ha hb hb'=>?_,fun b hb hb'=>?_⟩
    ·rcases Nat.lt_or_ge b k with w | w
     ·exact h.low a b (by exact dv ha) (by exact iM hb) w
     ·rw [show b=k by exact q2 hb' w,hkk]
      have:=h.low a (k - 1) (by exact dv ha) (by exact iR) (by exact iQ hqk)
      rw [e1] at this;exact uS this d
    ·rcases Nat.lt_or_ge b k with w | w
     ·refine B0 (h.eqs b (by exact iM hb) w) fun x1 x2=>?_
      refine ⟨x1,?_⟩
      rw [show k+1 - 1=k by exact jl];exact uR x2 c d
     ·rw [show b=k by exact q2 hb' w,hkk];exact ⟨rfl,by simp⟩
theorem fV {p:Array Nat} {k:Nat} (h:C3 n p k) (h1:1≤k) (hd:aJ K p k):C5 (Z3 K) n (kas_tail3 k n p) fun r=>1≤r.1∧C3 n r.2 r.1∧m7 K r.2 r.1:=by
 unfold kas_tail3
 have hsz:=h.size
 have hle:=h.le
 have hg:=S9 (p:=p) (i:=0) (j:=k) (by exact bl hle hsz)
 have hs:m7 K (kas_rev p 0 k) k:=fun a b hab hb=>by
  rw [hg a,hg b,if_pos (by exact iL hb hab),if_pos (by exact iK hb)]
  exact hd _ _ (by exact iJ hb hab) (by exact iI hb)
 exact r9 _ (V7 (fun m ⟨a1,a2,a3,_⟩=>⟨Nat.le_trans h1 a1,a2,a3⟩) _ (fD (n - k) _ k (by exact uQ hle) h1 (h.rev (Nat.le_refl _)) hs))
theorem lO {p:Array Nat} {k:Nat} (h:C3 n p k) (hk:k < n) (h1:1≤k) (hd:aJ K p k) (hlt:K k < K (p.getD (k - 1) 0)):C5 (Z3 K) n (kas_descPart k n p) fun r=>1≤r.1∧C3 n r.2 r.1∧m7 K r.2 r.1:=by
 unfold kas_descPart
 refine r9 _ (V7 (fun r hr=>?_) _ (cu (n - (k+1)) p (k+1) 0 (by exact uP hk) (J6.start h hk h1 hd hlt)))
 have hqk:=hr.qk
 by_cases hq:r.2.2 > 0
 ·rw [if_pos hq]
  refine V1 (hr.turn) fun t1 t2 t3=>?_
  exact fV t1 (by exact dw hqk) t2
 ·rw [if_neg hq]
  have e:r.2.2=0:=by exact iO hq
  rw [e] at hr
  exact fV hr.ins (by exact dw hqk) hr.one
theorem Du {p:Array Nat} (hn:1≤n) (h:C3 n p 1):C5 (Z3 K) n (kas_count n p) fun r=>1≤r.1∧C3 n r.2 r.1∧m7 K r.2 r.1:=by
 unfold kas_count
 refine r9 _ (V7 (fun m ⟨a1,a2,a3,a4⟩=>?_) _ (fD (n - 1) p 1 (by exact uO hn) (Nat.le_refl _) h fun a b hab hb=>by exact (uN hb hab).elim))
 have hle:=a2.le
 have hsz:=a2.size
 by_cases hm:m=n
 ·rw [if_pos (by exact decide_eq_true (by assumption))];exact ⟨a1,a2,a3⟩
 ·rw [if_neg (by simp [hm])]
  have hmn:m < n:=by exact uM hm hle
  have a4':=a4 hmn
  rw [a2.tail m (Nat.le_refl _) hmn] at a4'
  by_cases h1:m > 1
  ·rw [if_pos h1]
   have p0:=a2.pre 0 (by exact uL h1)
   have p1:=a2.pre (m - 1) (by exact iH h1)
   refine ⟨by exact z8 hmn p0,by exact z8 hmn p1,?_⟩
   by_cases c:K (p.getD 0 0) < K (p.getD (m - 1) 0)
   ·rw [show Z3 K (p.getD 0 0) (p.getD (m - 1) 0)=true from decide_eq_true c];dsimp only;rw [if_pos rfl];exact ⟨a1,a2,a3⟩
   ·rw [show Z3 K (p.getD 0 0) (p.getD (m - 1) 0)=false from decide_eq_false c];dsimp only;rw [if_neg Bool.false_ne_true]
    have hg:=S9 (p:=p) (i:=0) (j:=m) (by exact uK hmn hsz)
    refine lO (a2.rev (Nat.le_refl _)) hmn a1 (fun a b hab hb=>?_) ?_
    ·rw [hg a,hg b,if_pos (by exact iK hb),if_pos (by exact iL hb hab)]
     have u1:=a3 (0+m - 1 - b) (0+m - 1 - a) (by exact iJ hb hab) (by exact iI hb)
     exact u1
    ·rw [hg,if_pos (by exact uJ h1),show 0+m - 1 - (m - 1)=0 by exact uI]
     have:=a3 0 (m - 1) (by exact uH h1) (by exact iH h1)
     unfold RK at this;exact uG a4' c
  ·rw [if_neg h1]
   exact lO a2 hmn a1 (fun a b hab hb=>by exact (uF h1 hb hab).elim) a4'
theorem kd (hn:1≤n):C5 (Z3 K) n (kas_sort n) fun p=>p.size=n∧p.toList.Perm (List.range n)∧p.toList.Pairwise (RK K):=by
 unfold kas_sort
 have h0:C3 n (List.range n).toArray 1:=⟨by simp,Array.Perm.refl _,fun j Z h2=>by simp [h2],fun j h1=>by
  rw [show j=0 by exact uE h1]
  simp [show 0 < n by exact uD hn],hn⟩
 have fin:∀ p:Array Nat,C3 n p n∧m7 K p n→p.size=n∧p.toList.Perm (List.range n)∧p.toList.Pairwise (RK K):=fun p hZ0=>B0 hZ0 fun h hs=>by
  refine ⟨h.size,by simpa using Array.perm_iff_toList_perm.mp h.perm,List.pairwise_iff_getElem.mpr fun i j hi hj hij=>?_⟩
  have:=hs i j hij (by rw [Array.length_toList,h.size] at hj;exact hj)
  rw [Array.length_toList] at hi hj
  simpa [hi,hj] using this
 refine r9 _ (V7 (fun r hZ0=>V1 hZ0 fun h1 h2 h3=>?_) _ (Du (K:=K) hn h0))
 have hle:=h2.le
 by_cases q:r.1 < n
 ·rw [if_pos q]
  have hmx:max r.1 1=r.1:=Nat.max_eq_left h1
  rw [hmx]
  exact V7 fin _ (mI (n - r.1) r.2 r.1 (by exact uC q) h2 h3)
 ·rw [if_neg q]
  have e:r.1=n:=by exact T7 hle q
  rw [e] at h2 h3
  exact fin _ ⟨h2,h3⟩
end
end
section
section
variable {C:Cx} {A:Around} {g:Heap} {fr:Fm} {E:Value→Shared→Prop} {loc:j0} {hp:HP}
noncomputable def L9 (v:Value):Prop:=(∃ i,v=iv i)∨∃ x,v=.str x 0
noncomputable def aG (p:HP) (v w:Value):Prop:=(L9 v∧v=w)∨∃ a b xs,v=.ref a∧w=.ref b∧p a=some (.tuple xs)∧p b=some (.tuple xs)∧∀ x∈xs,L9 x
open PySem.SeqAt in
theorem lz {A:Around} {s:Shared} {v w:Value} (hf:L9 (nm v)) (e:nm v=nm w):EqAt A s v w true:=by
 rcases hf with ⟨i,h⟩ | ⟨x,h⟩
 ·refine o0 (S0 h) fun t hR0=>?_;subst hR0
  refine o0 (S0 (e.symm.trans h)) fun u hR0=>?_;subst hR0
  have:=EqAt.int_int (A:=A) (s:=s) i t i u
  rwa [beq_self_eq_true] at this
 ·refine o0 (w4 h) fun t hR0=>?_;subst hR0
  refine o0 (w4 (e.symm.trans h)) fun u hR0=>?_;subst hR0
  have:=EqAt.str_str (A:=A) (s:=s) x t x u
  rwa [beq_self_eq_true] at this
open PySem.SeqAt in
theorem ly {A:Around} {s:Shared} {vs ws:Array Value} {xs:List Value} (q:vs.toList.map nm=xs) (q':ws.toList.map nm=xs) (hf:∀ x∈xs,L9 x):∀ j (h1:j < vs.size) (h2:j < ws.size),EqAt A s vs[j] ws[j] ((fun Z=>true) j):=fun j h1 h2=>by
 have a1:xs[j]?=some (nm vs[j]):=by simp only [←q,List.getElem?_map,Array.getElem?_toList,Array.getElem?_eq_getElem h1];rfl
 have a2:xs[j]?=some (nm ws[j]):=by simp only [←q',List.getElem?_map,Array.getElem?_toList,Array.getElem?_eq_getElem h2];rfl
 refine lz (hf _ (List.mem_of_getElem? a1)) ?_
 rw [a1] at a2;injection a2
theorem fE (n:Nat):((List.range n).all fun Z=>true)=true:=by simp
open PySem.SeqAt in
theorem aG.eqAt {s:Shared} (R:F0 C.H₀ g fr loc hp s.heap) {A:Around} (hu:A.units < cLine) {v w:Value} (h:aG hp (nm v) (nm w)):EqAt A s v w true:=by
 rcases h with ⟨hf,e⟩ | ⟨a,b,xs,e1,e2,ha,hb,hf⟩
 ·exact lz hf e
 ·have:=Q0 e1;subst this
  have:=Q0 e2;subst this
  by_cases hab:a=b
  ·subst hab;exact EqAt.same _
  ·refine V0 (R.tuple ha) fun vs n e q=>?_
   refine V0 (R.tuple hb) fun ws n' e' q'=>?_
   refine EqAt.of_refs hab ?_
   have:=RcAt.tuples (A:=A) (s:=s) ⟨_,e,rfl,n,rfl⟩ ⟨_,e',rfl,n',rfl⟩ hu (e:=fun Z=>true) (ly q q' hf)
   have hsz:(vs.size == ws.size)=true:=by rw [M2 q,M2 q'];exact if_pos rfl
   rwa [fE,hsz] at this
theorem ay {a b:Addr} {xs ys:List Value} {Q:Value→j0→HP→Prop} (ha:hp a=some (.list xs)) (hb:hp b=some (.list ys)) (hl:xs.length=ys.length) (hs:∀ (i:Nat) v w,xs[i]?=some v→ys[i]?=some w→aG hp v w) (hu:A.units+10 < cLine)
  (h:Q (.bool false) loc hp):I1 C A g fr E (compareOp .NotEq) (.ref a) (.ref b) loc hp Q:=by
 intro x y hx hy
 rw [Q0 hx,Q0 hy]
 intro s R S
 refine V0 (R.list ha) fun vs n e q=>?_
 refine V0 (R.list hb) fun ws n' e' q'=>?_
 have hsz:vs.size=ws.size:=by simp only [M2 q,M2 q',hl]
 refine PySem.SeqAt.RcNeAt.lists (A:=A) (s:=s) ⟨_,e,rfl,n,rfl⟩ ⟨_,e',rfl,n',rfl⟩ hsz (by exact iG hu) (e:=fun Z=>true) (fun j h1 h2=>?_) C.prog C.w E _ ?_
 ·have a1:xs[j]?=some (nm vs[j]):=by simp only [←q,List.getElem?_map,Array.getElem?_toList,Array.getElem?_eq_getElem h1];rfl
  have a2:ys[j]?=some (nm ws[j]):=by simp only [←q',List.getElem?_map,Array.getElem?_toList,Array.getElem?_eq_getElem h2];rfl
  exact (hs j _ _ a1 a2).eqAt R (by show A.units+1 < cLine;exact uB hu)
 ·rw [fE]
  exact ⟨S,loc,hp,R,h⟩
theorem Dx {a b:Addr} {xs:List Value} {Q:Value→j0→HP→Prop} (ha:hp a=some (.tuple xs)) (hb:hp b=some (.tuple xs)) (hs:∀ v∈xs,L9 v) (hu:A.units+10 < cLine)
  (h:Q (.bool false) loc hp):I1 C A g fr E (compareOp .NotEq) (.ref a) (.ref b) loc hp Q:=by
 intro x y hx hy
 rw [Q0 hx,Q0 hy]
 intro s R S
 refine V0 (R.tuple ha) fun vs n e q=>?_
 refine V0 (R.tuple hb) fun ws n' e' q'=>?_
 have hsz:(vs.size == ws.size)=true:=by rw [M2 q,M2 q'];exact if_pos rfl
 refine PySem.SeqAt.RcNeAt.tuples (A:=A) (s:=s) ⟨_,e,rfl,n,rfl⟩ ⟨_,e',rfl,n',rfl⟩ (by exact iG hu) (e:=fun Z=>true) (ly q q' hs) C.prog C.w E _ ?_
 rw [fE,hsz]
 exact ⟨S,loc,hp,R,h⟩
noncomputable def K8 (i:Int):Value→Bool | .int j _=>j == i | _=>false
noncomputable def J8 (z:Str):Value→Bool | .str x _=>x == z | _=>false
theorem lX {a:Addr} {xs:List Int} {i:Int} {Q:Value→j0→HP→Prop} (ha:hp a=some (.list (xs.map iv))) (h:Q (.bool (decide (i∈xs))) loc hp):I1 C A g fr E (compareOp .In) (.int i 0) (.ref a) loc hp Q:=by
 intro x y hx hy
 refine o0 (S0 hx) fun t hR0=>?_;subst hR0
 rw [Q0 hy]
 intro s R S
 refine V0 (R.list ha) fun vs n e q=>?_
 refine PySem.SeqAt.in_listAt (fun v=>K8 i v) ⟨_,e,rfl,n,rfl⟩ (fun v hv=>?_) ?_
 ·have hm:nm v∈xs.map iv:=by rw [←q];exact List.mem_map.mpr ⟨v,by simpa using hv,rfl⟩
  refine z0 (List.mem_map.mp hm) fun j hj e=>?_
  refine o0 (S0 e.symm) fun u hR0=>?_;subst hR0
  have:=PySem.SeqAt.EqAt.int_int (A:=A.in1) (s:=s) j u i t
  have e2:K8 i (.int j u)=(j == i):=rfl
  simp only [e2];exact this
 ·have e3:(vs.any fun v=>K8 i v)=decide (i∈xs):=by
   rw [←Array.any_toList]
   have:(vs.toList.any fun v=>K8 i v)=(vs.toList.map nm).any fun v=>K8 i v:=by
    simp only [List.any_map]
    exact congrArg (fun f=>vs.toList.any f) (funext fun v=>by cases v <;> rfl)
   simp only [this,q,List.any_map]
   clear this q e ha h
   induction xs with
   | nil=>rfl
   | cons z zs ih=>
    simp only [List.any_cons,ih]
    show ((z == i) || _)=_
    by_cases w:z=i
    ·subst w;simp
    ·simp [w,Ne.symm w]
  rw [e3]
  exact ⟨S,loc,hp,R,h⟩
theorem Dv {a:Addr} {xs:List Str} {z:Str} {Q:Value→j0→HP→Prop} (ha:hp a=some (.list (xs.map fun x=>.str x 0))) (h:Q (.bool (decide (z∉xs))) loc hp):I1 C A g fr E (compareOp .NotIn) (.str z 0) (.ref a) loc hp Q:=by
 intro x y hx hy
 refine o0 (w4 hx) fun t hR0=>?_;subst hR0
 rw [Q0 hy]
 intro s R S
 refine V0 (R.list ha) fun vs n e q=>?_
 refine PySem.SeqAt.notIn_listAt (fun v=>J8 z v) ⟨_,e,rfl,n,rfl⟩ (fun v hv=>?_) ?_
 ·have hm:nm v∈xs.map fun x=>Value.str x 0:=by rw [←q];exact List.mem_map.mpr ⟨v,by simpa using hv,rfl⟩
  refine z0 (List.mem_map.mp hm) fun j hj e=>?_
  refine o0 (w4 e.symm) fun u hR0=>?_;subst hR0
  have:=PySem.SeqAt.EqAt.str_str (A:=A.in1) (s:=s) j u z t
  have e2:J8 z (.str j u)=(j == z):=rfl
  simp only [e2];exact this
 ·have e3:(!(vs.any fun v=>J8 z v))=decide (z∉xs):=by
   rw [←Array.any_toList]
   have:(vs.toList.any fun v=>J8 z v)=(vs.toList.map nm).any fun v=>J8 z v:=by
    simp only [List.any_map]
    exact congrArg (fun f=>vs.toList.any f) (funext fun v=>by cases v <;> rfl)
   simp only [this,q,List.any_map]
   clear this q e ha h
   induction xs with
   | nil=>rfl
   | cons y ys ih=>
    simp only [List.any_cons,Bool.not_or,ih]
    show (!(y == z) && _)=_
    by_cases w:y=z
    ·subst w;simp
    ·simp [w,Ne.symm w]
  rw [e3]
  exact ⟨S,loc,hp,R,h⟩
theorem DB {x y:Str} {Q:Value→j0→HP→Prop} (h:Q (.bool (x == y)) loc hp):I1 C A g fr E (compareOp .Eq) (.str x 0) (.str y 0) loc hp Q:=by
 intro a b ha hb
 refine o0 (w4 ha) fun t hR0=>?_;subst hR0
 refine o0 (w4 hb) fun u hR0=>?_;subst hR0
 exact fun s R S=>PyProof.Rows.eq_str ⟨S,loc,hp,R,h⟩
theorem fk {a:Addr} {ns:List Int} {Q:Value→j0→HP→Prop} (hh:A.handled=none) (ha:hp a=some (.list (ns.map iv))) (h:Q (iv ns.sum) loc hp):M0 C A g fr E (.builtin "sum") [.ref a] [] loc hp Q:=I3 fun v hv=>by
 have:=Q0 hv;subst this
 intro s R S
 refine V0 (R.list ha) fun vs n e q=>?_
 refine z0 (kK q) fun xs hR0 e2=>?_;subst hR0
 refine sum_intListG hh ⟨_,e,rfl,n,rfl⟩ fun h' tk t' hk=>⟨S,loc,hp,R.keeps hk,?_⟩
 have e3:preSum (numAt xs) xs.size=ns.sum:=by
  rw [preSum_eq,List.take_of_length_le (by simp),e2]
 show Q (.int (preSum (numAt xs) xs.size) 0) loc hp
 rw [e3];exact h
theorem zV {a:Addr} {ns:List Int} {k:Int} {Q:Value→j0→HP→Prop} (ha:hp a=some (.list (ns.map iv))) (hsz:ns.length≤1000) (hk:k∈ns) (h:Q (iv (ns.idxOf k:Nat)) loc hp):M0 C A g fr E (.builtin "list.index") [.ref a,.int k 0] [] loc hp Q:=N5 fun v u hv hu=>by
 have:=Q0 hv;subst this
 refine o0 (S0 hu) fun t hR0=>?_;subst hR0
 intro s R S
 refine V0 (R.list ha) fun vs n e q=>?_
 have hlen:=M2 q
 rw [List.length_map] at hlen
 have hj:ns.idxOf k < ns.length:=List.idxOf_lt_length_iff.mpr hk
 have at_:∀ j (hj:j < vs.size),∃ (i:Int) (u:Tok),vs[j]=.int i u∧ns[j]?=some i:=fun j hj=>by
  have a1:(ns.map iv)[j]?=some (nm vs[j]):=by simp only [←q,List.getElem?_map,Array.getElem?_toList,Array.getElem?_eq_getElem hj];rfl
  rw [List.getElem?_map] at a1
  refine z0 (Option.map_eq_some_iff.mp a1) fun i hi e=>?_
  refine o0 (S0 e.symm) fun u hu=>?_
  exact ⟨i,u,hu,hi⟩
 have eqi:∀ (i:Int) (u:Tok),K8 k (.int i u)=(i == k):=fun Z Z=>rfl
 refine call_meets PySem.F.slot_list_index ⟨_,e,rfl⟩ PySem.F.entry_list_index (PySem.F.args_list_index_2 _ _)
  (PySem.SeqAt.list_indexAt a vs n none _ (.int k t) (K8 k) (ns.idxOf k) (by exact q8 hj hlen) (u9 hj hsz) ?_ ?_) ⟨e,fun y hy=>?_,?_⟩
 ·refine V0 (at_ (ns.idxOf k) (by exact q8 hj hlen)) fun i u e1 e2=>?_
  rw [e1,eqi]
  rw [List.getElem?_eq_getElem hj,List.getElem_idxOf hj] at e2
  injection e2 with e2;simp [e2]
 ·intro m hm hlt
  refine V0 (at_ m hm) fun i u e1 e2=>?_
  rw [e1,eqi]
  have:=List.not_of_lt_findIdx (show m < ns.findIdx (· == k) from hlt)
  rw [List.getElem?_eq_getElem (by exact q1 hlen hm)] at e2
  injection e2 with e2
  rw [e2] at this
  exact this
 ·obtain ⟨j,hj,rfl⟩:=Array.mem_iff_getElem.mp hy
  refine V0 (at_ j hj) fun i u e1 e2=>?_
  rw [e1,eqi]
  exact PySem.SeqAt.EqAt.int_int _ _ _ _
 ·exact ⟨S,loc,hp,R,h⟩
theorem zU {x y:Str} {Q:Value→j0→HP→Prop} (hy:(y.length == 0)=false) (hx:x.length≤100000) (h:∀ D,hp D=none→Q (.ref D) loc (k0 hp D (.list ((Txt.split x y).map fun z=>.str z 0)))) :
  M0 C A g fr E (.builtin "str.split") [.str x 0,.str y 0] [] loc hp Q:=N5 fun v u hv hu=>by
 refine o0 (w4 hv) fun t hR0=>?_;subst hR0
 refine o0 (w4 hu) fun u' hR0=>?_;subst hR0
 intro s R S
 have fin:∀ (l:List (Str × Tok)) (tk:Nat),l.map (·.1)=Txt.split x y→(fun v s'=>H2 C s'∧∃ loc' hp',F0 C.H₀ g fr loc' hp' s'.heap∧Q (nm v) loc' hp') (.ref s.heap.objs.size) {s with toks:=tk,heap:=s.heap.push {cls:=.type "list",data:=.seq (strValues l).toArray}}:=fun l tk hl=>
  ⟨S,loc,_,R.alloc (ao:=.list ((Txt.split x y).map fun z=>.str z 0)) rfl ⟨_,_,rfl,by rw [←hl,List.map_map];simp only [strValues,List.map_map];rfl⟩,h _ R.none_at⟩
 have hx':x.length≤sizeLine:=by rw [sizeLine_eq];exact bx hx
 cases h1:(decide (x.length < y.length) || decide (Builtin.Str.strKind x < Builtin.Str.strKind y))
 ·cases hf:(Builtin.Str.occurrences x y 0 x.length (x.length+1)).isEmpty
  ·have hn:(Builtin.Str.partsBetween x (Builtin.Str.occurrences x y 0 x.length (x.length+1)) y.length).length≤sizeLine:=by
    have:=split_le x y
    have e:Txt.split x y=Builtin.Str.partsBetween x (Builtin.Str.occurrences x y 0 x.length (x.length+1)) y.length:=by
     unfold Txt.split;rw [h1,hf];rfl
    rw [e] at this;simp only [sizeLine_eq];exact uA hx this
   refine call_meets F.slot_str_split (typeIs_str _ _ _) F.entry_str_split (F.args_str_split_2 _ _) (meets_str_split_sep x y t u' h1 hy hf hx' hn) ?_
   show wants _ E _ {s with toks:=_,heap:=s.heap.push {cls:=.type "list",data:=.seq (strsFrom s.toks (Builtin.Str.partsBetween x (Builtin.Str.occurrences x y 0 x.length (x.length+1)) y.length)).toArray}}
   rw [strsFrom_eq]
   exact fin (numbered s.toks _) _ ((numbered_texts _ _).trans ((if_neg (ne_true_of_eq_false h1)).trans (if_neg (ne_true_of_eq_false hf))).symm)
  ·exact call_meets F.slot_str_split (typeIs_str _ _ _) F.entry_str_split (F.args_str_split_2 _ _) (meets_str_split_not_found x y t u' h1 hy hf)
    (fin [(x,t)] _ ((if_neg (ne_true_of_eq_false h1)).trans (if_pos hf)).symm)
 ·exact call_meets F.slot_str_split (typeIs_str _ _ _) F.entry_str_split (F.args_str_split_2 _ _) (meets_str_split_cannot_occur x y t u' h1)
   (fin [(x,t)] _ (if_pos h1).symm)
end
end
section
noncomputable def E7:Heap:={}
theorem bU (b:Addr):E7.get? b=none:=rfl
noncomputable def J9 (h:Heap) (L:Addr):List (Addr × Obj):=(List.range h.objs.size).filterMap fun b=>if b=L then none else (h.get? b).map fun o=>(b,o)
theorem S6 {h:Heap} {L b:Addr} {o:Obj}:(b,o)∈J9 h L↔b≠L∧h.get? b=some o:=by
 unfold J9
 rw [List.mem_filterMap]
 constructor
 ·intro hZ0;refine z0 hZ0 fun c Z e=>?_;clear hZ0
  by_cases q:c=L
  ·rw [if_pos q] at e;exact J0 e
  ·rw [if_neg q] at e
   refine z0 (Option.map_eq_some_iff.mp e) fun o' ho e'=>?_
   cases e'
   exact ⟨q,ho⟩
 ·intro hZ0;refine B0 hZ0 fun q e=>?_;clear hZ0
  exact ⟨b,List.mem_range.mpr (Heap.lt_size e),by rw [if_neg q,e];rfl⟩
section
variable {C:Cx} {A:Around} {g:Heap} {fr:Fm} {E:Value→Shared→Prop} {loc:j0} {hp:HP} {h h':Heap} {m:Str→Option Value}
theorem aO (R:F0 C.H₀ g fr loc hp h) (hn:h.Ns fr.env.locals m) (n':h'.Ns fr.env.locals m) (hk:∀ b o,b≠fr.env.locals→h.get? b=some o→h'.get? b=some o):F0 C.H₀ g fr loc hp h' where
 keep b o e:=hk b o (by rintro rfl;rw [R.nsn] at e;exact J0 e) (R.keep b o e)
 base:=R.base
 loc x v e:=by
  rcases R.loc x v e with ⟨k,m',v',n,e,q⟩ | ⟨k,c,v',l,n,q⟩
  ·refine .inl ⟨k,m',v',?_,e,q⟩
   simp only [n.eq_nsMap,←hn.eq_nsMap];exact n'
  ·refine z0 n fun o ho hd=>?_;try clear n
   exact .inr ⟨k,c,v',l,⟨o,hk c o (R.cne x c l).1 ho,hd⟩,q⟩
 ns:=⟨m,n'⟩
 nsn:=R.nsn
 cell:=R.cell
 cne x c l:=by
  refine Q3 (R.cne x c l) fun a v o ho hd=>?_
  exact ⟨a,v,o,hk c o a ho,hd⟩
 apart:=R.apart
 at_ b ao e:=by
  refine Q2 (R.at_ b ao e) fun a1 a2 a3 o ho hi=>?_
  exact ⟨a1,a2,a3,o,hk b o a2 ho,hi⟩
theorem db {D:Addr} {o:Obj} {ao:AO} (R:F0 C.H₀ g fr loc hp h) (R':F0 C.H₀ g fr loc hp h') (hD:h.get? D=none) (ho:h'.get? D=some o) (hi:ao.is o):hp D=none∧F0 C.H₀ g fr loc (k0 hp D ao) h':=by
 have hpD:hp D=none:=by
  cases q:hp D with
  | none=>rfl
  | some a=>refine Q2 (R.at_ _ _ q) fun Z Z Z o' e Z=>?_;rw [hD] at e;exact J0 e
 refine ⟨hpD,R'.keep,R'.base,R'.loc,R'.ns,R'.nsn,R'.cell,R'.cne,R'.apart,fun b ao' e=>?_⟩
 by_cases w:b=D
 ·subst w
  rw [s0] at e;cases e
  refine ⟨?_,?_,fun x c l=>?_,o,ho,hi⟩
  ·cases q:g.get? b with
   | none=>rfl
   | some o'=>have:=R.keep _ _ q;rw [hD] at this;exact J0 this
  ·rintro rfl
   refine aq (R.ns) fun Z o' Z Z e Z=>?_
   rw [hD] at e;exact J0 e
  ·rintro rfl
   refine Q3 (R.cne x b l) fun Z v o' e Z=>?_
   rw [hD] at e;exact J0 e
 ·rw [H0 _ _ w] at e
  exact R'.at_ b ao' e
theorem Ee {a:Addr} {ns:List Int} {Q:Value→j0→HP→Prop} (ha:hp a=some (.list (ns.map iv))) (hsz:ns.length < 64)
  (h:∀ D (ns':List Int),ns'.Perm ns→ns'.Pairwise (·≤·)→hp D=none→Q (.ref D) loc (k0 hp D (.list (ns'.map iv)))):M0 C A g fr E (.builtin "sorted") [.ref a] [] loc hp Q:=I3 fun v hv=>by
 have:=Q0 hv;subst this
 intro s R S
 refine V0 (R.list ha) fun vs n e q=>?_
 have hI:IntsAre vs.toList ns:=by
  have:∀ (vl:List Value) (ns:List Int),vl.map nm=ns.map iv→IntsAre vl ns:=by
   intro vl
   induction vl with
   | nil=>intro ns q;cases ns with
    | nil=>exact .nil
    | cons=>cases q
   | cons v vl ih=>intro ns q;cases ns with
    | nil=>cases q
    | cons i ns=>
     rw [List.map_cons,List.map_cons] at q
     injection q with q1 q2
     refine o0 (S0 q1) fun t hR0=>?_;subst hR0
     exact .cons i t (ih ns q2)
  exact this _ _ q
 refine sorted_ints (vs:=vs.toList) ⟨_,e,rfl,n,rfl⟩ hI (by have:=M2 q;rw [List.length_map] at this;simpa [this] using hsz) fun out ns' hI' hp' hs'=>?_
 refine o0 (sortedAll_at s.heap vs.toList out) fun e2 he2=>?_
 have hD:s.heap.get? (s.heap.objs.size+1)=none:=Heap.get?_none_of_le (Nat.le_succ _)
 have hnm:∀ {vl:List Value} {ns:List Int},IntsAre vl ns→vl.map nm=ns.map iv:=fun hi=>by
  induction hi with
  | nil=>rfl
  | cons i t _ ih=>simp only [List.map_cons,List.map_cons,ih];rfl
 refine B0 (db (ao:=.list (ns'.map iv)) R (R.keeps fun b o e=>sortedAll_old e) hD he2 ⟨out,e2,rfl,hnm hI'⟩) fun a1 a2=>?_
 exact ⟨S,loc,_,a2,h _ ns' hp' hs' a1⟩
end
section
variable {C:Cx} {A:Around} {g:Heap} {fr:Fm} {E:Value→Shared→Prop} {loc:j0} {hp:HP}
theorem Aa {a a' b b':Int} (h1:0≤b) (h2:b < 1000) (h1':0≤b') (h2':b' < 1000):(a*1000+b < a'*1000+b')↔(a < a'∨(a=a'∧b < b')):=by exact uz h1 h1' h2 h2'
theorem kc {h:Heap}:∀ (ts:List Addr) (fs:List Value),ts.length=fs.length→(∀ (k:Nat) T f,ts[k]?=some T→fs[k]?=some f→∃ xs n,h.get? T=some {cls:=.type "tuple",data:=.seq xs n}∧xs[0]?=some f)→KatTups h (ts.map .ref) fs
 | [],[],_,_=>.nil
 | [],_::_,h,_=>by cases h
 | _::_,[],h,_=>by cases h
 | T::ts,f::fs,hl,hx=>by
  refine V0 (hx 0 T f rfl rfl) fun xs n e1 e2=>?_
  exact .cons e1 rfl rfl e2 (kc ts fs (by simpa using hl) fun k T f a b=>hx (k+1) T f a b)
theorem Ec {l:Addr} {ts:List Addr} {ps:List (Int × Int)} {Q:Value→j0→HP→Prop} (hl:hp l=some (.list (ts.map .ref))) (hln:ts.length=ps.length) (h2:2≤ps.length) (h64:ps.length < 64)
  (hT:∀ (k:Nat) T x,ts[k]?=some T→ps[k]?=some x→hp T=some (.tuple [iv x.1,iv x.2])) (hb:∀ x∈ps,0≤x.2∧x.2 < 1000)
  (h:∀ D (p:List Nat),p.Perm (List.range ps.length)→p.Pairwise (RK fun i=>(ps.getD i (0,0)).1*1000+(ps.getD i (0,0)).2)→hp D=none→Q (.ref D) loc (k0 hp D (.list (p.map fun i=>.ref (ts.getD i 0))))) :
  M0 C A g fr E (.builtin "sorted") [.ref l] [] loc hp Q:=I3 fun v hv=>by
 have:=Q0 hv;subst this
 intro s R S
 refine V0 (R.list hl) fun vs n e q=>?_
 have hvs:vs.toList=ts.map .ref:=by
  have:∀ (vl:List Value) (ts:List Addr),vl.map nm=ts.map .ref→vl=ts.map .ref:=by
   intro vl
   induction vl with
   | nil=>intro ts q;cases ts with
    | nil=>rfl
    | cons=>cases q
   | cons v vl ih=>intro ts q;cases ts with
    | nil=>cases q
    | cons t ts=>
     rw [List.map_cons,List.map_cons] at q
     injection q with q1 q2
     simp only [Q0 q1,List.map_cons,ih ts q2]
  exact this _ _ q
 refine o0 (R.ns) fun m hn=>?_
 have hlen:vs.toList.length=ps.length:=by simp only [hvs,List.length_map,hln]
 refine kat_sorted (vs:=vs.toList) (news:=J9 s.heap fr.env.locals) (h₀:=E7) (L:=fr.env.locals) (m:=m) ⟨hn,fun b o e=>(by simp only [bU] at e;exact J0 e),Nat.zero_le _⟩ (fun p hp=>⟨(S6.mp hp).2,(S6.mp hp).1,bU _⟩) ⟨_,e,rfl,n,rfl⟩ (by exact du h2 hlen) (by exact iF h64 hlen) fun D e1 h' F' N' hlt=>?_
 have hk':∀ b o,b≠fr.env.locals→s.heap.get? b=some o→h'.get? b=some o:=fun b o hb e=>(N' (b,o) (.tail _ (S6.mpr ⟨hb,e⟩))).1
 have R':=aO R hn F'.ns hk'
 -- the pairs
 have hpair:∀ (k:Nat),k < ps.length→∃ (T:Addr) (xs:Array Value) (n:Nat) (t u:Tok),ts[k]?=some T∧h'.get? T=some {cls:=.type "tuple",data:=.seq xs n}∧xs.toList=[.int (ps.getD k (0,0)).1 t,.int (ps.getD k (0,0)).2 u]:=fun k hk=>by
  have hkt:k < ts.length:=by exact q8 hk hln
  have:=hT k ts[k] ps[k] (List.getElem?_eq_getElem hkt) (List.getElem?_eq_getElem hk)
  refine V0 (R'.tuple this) fun xs n e q=>?_
  have h1:xs.toList.length=2:=by simpa using congrArg List.length q
  match hv:xs.toList,h1 with
  | [u,v],_=>
   rw [hv] at q
   injection q with q1 q2
   injection q2 with q2 _
   refine o0 (S0 q1) fun t hR0=>?_;subst hR0
   refine o0 (S0 q2) fun t' hR0=>?_;subst hR0
   refine ⟨ts[k],xs,n,t,t',List.getElem?_eq_getElem hkt,e,?_⟩
   simp only [hv,List.getD_eq_getElem?_getD,List.getElem?_eq_getElem hk];rfl
 have hkK:∀ k,k < ps.length→0≤(ps.getD k (0,0)).2∧(ps.getD k (0,0)).2 < 1000:=fun k hk=>hb _ (by rw [List.getD_eq_getElem?_getD,List.getElem?_eq_getElem hk];exact List.getElem_mem hk)
 obtain ⟨fs,hfs,hfl⟩:∃ fs:List Value,(∀ (k:Nat) T f,ts[k]?=some T→fs[k]?=some f→(∃ xs n,h'.get? T=some {cls:=.type "tuple",data:=.seq xs n}∧xs[0]?=some f)∧∃ i t,f=.int i t)∧fs.length=ts.length:=by
  refine ⟨ts.map fun T=>(((h'.get? T).map fun o=>match o.data with | .seq xs _=>xs.getD 0 .none | _=>.none).getD .none),fun k T f a b=>?_,by exact List.length_map ..⟩
  have hk:k < ps.length:=by have:=(List.getElem?_eq_some_iff.mp a).1;exact q1 hln this
  refine e8 (hpair k hk) fun T' xs n t u e1 e2 e3=>?_
  rw [a] at e1;cases e1
  rw [List.getElem?_map,a] at b
  injection b with b
  dsimp only at b
  rw [e2] at b
  have e4:xs[0]?=some (.int (ps.getD k (0,0)).1 t):=by rw [←Array.getElem?_toList,e3];rfl
  have b':f=.int (ps.getD k (0,0)).1 t:=by
   rw [←b]
   show xs.getD 0 .none=_
   rw [Array.getD_eq_getD_getElem?,e4];rfl
  subst b'
  exact ⟨⟨xs,n,e2,e4⟩,_,_,rfl⟩
 have hkt:KatTups h' vs.toList fs:=by rw [hvs];exact kc ts fs hfl.symm fun k T f a b=>(hfs k T f a b).1
 refine kat_kind (T:=.type "int") hkt (by exact uy h2 hln hfl) (fun f hf=>?_) (by rfl) ?_
 ·refine o0 (List.mem_iff_getElem?.mp hf) fun k hk=>?_
  have hk':k < ts.length:=by have:=(List.getElem?_eq_some_iff.mp hk).1;exact q1 hfl this
  refine cj (hfs k _ f (List.getElem?_eq_getElem hk') hk) fun Z i t hR0=>?_;subst hR0
  exact Looks.of_pure rfl
 rw [hlen]
 refine dZ (I:=fun s'=>s'={s with heap:=h'}) (lt:=Z3 fun i=>(ps.getD i (0,0)).1*1000+(ps.getD i (0,0)).2) (n:=ps.length) (fun i j Cc s₂ hi hj hs₂ hC=>?_) (fun p s₂ hs₂ hp₂=>?_) _ _ rfl (kd (by exact iE h2))
 ·subst hs₂
  refine e8 (hpair i hi) fun Ti xi ni ti ui a1 a2 a3=>?_
  refine e8 (hpair j hj) fun Tj xj nj tj uj b1 b2 b3=>?_
  refine B0 (hkK i hi) fun c1 c2=>?_
  refine B0 (hkK j hj) fun d1 d2=>?_
  have gi:vs.toList.getD i .none=.ref Ti:=by simp only [hvs,List.getD_eq_getElem?_getD,List.getElem?_map,a1];rfl
  have gj:vs.toList.getD j .none=.ref Tj:=by simp only [hvs,List.getD_eq_getElem?_getD,List.getElem?_map,b1];rfl
  unfold kas_ask
  simp only [gi,gj]
  refine kat_lt a2 rfl b2 rfl ?_
  simp only [a3,b3]
  have hC':=hC _ rfl
  unfold Z3 at hC'
  rw [show decide ((ps.getD i (0,0)).1*1000+(ps.getD i (0,0)).2 < (ps.getD j (0,0)).1*1000+(ps.getD j (0,0)).2)=decide ((ps.getD i (0,0)).1 < (ps.getD j (0,0)).1∨((ps.getD i (0,0)).1=(ps.getD j (0,0)).1∧(ps.getD i (0,0)).2 < (ps.getD j (0,0)).2)) from decide_eq_decide.mpr (Aa c1 c2 d1 d2)] at hC'
  generalize (ps.getD i (0,0)).1=x1 at *
  generalize (ps.getD i (0,0)).2=x2 at *
  generalize (ps.getD j (0,0)).1=y1 at *
  generalize (ps.getD j (0,0)).2=y2 at *
  refine kat_cons (wpAny_eqBool_int ?_)
  by_cases w:x1=y1
  ·subst w
   simp only [show (x1 == x1)=true from beq_self_eq_true x1]
   refine kat_yes (kat_cons (wpAny_eqBool_int ?_))
   by_cases w2:x2=y2
   ·subst w2
    simp only [show (x2 == x2)=true from beq_self_eq_true x2]
    refine kat_yes (kat_nil ?_)
    have z:xi.size=xj.size:=by simp only [←Array.length_toList,←Array.length_toList,a3,b3];rfl
    rw [show decide (xi.size < xj.size)=false by rw [z];simp]
    rw [show decide (x1 < x1∨x1=x1∧x2 < x2)=false by simp] at hC'
    exact hC'
   ·simp only [show (x2 == y2)=false by simpa using w2]
    refine kat_no (kat_one _ _ ?_)
    refine lt_int ?_
    dsimp only [W.BoolBack]
    rw [show decide (x1 < x1∨x1=x1∧x2 < y2)=decide (x2 < y2) by simp] at hC'
    exact hC'
  ·simp only [show (x1 == y1)=false by simpa using w]
   refine kat_no ?_
   refine oneLt_int ?_
   rw [show decide (x1 < y1∨x1=y1∧x2 < y2)=decide (x1 < y1) by simp [w]] at hC'
   exact hC'
 ·subst hs₂
  refine V1 hp₂ fun p1 p2 p3=>?_;try clear hp₂
  refine KasFin.intro F' N' (UpdF.head fun r hr=>Nat.ne_of_lt (hlt r hr)) fun h₂ c F₂ N₂=>?_
  have R₂:=aO (h':=h₂) R hn F₂.ns fun b o hb e=>(N₂ (b,o) (.tail _ (S6.mpr ⟨hb,e⟩))).1
  have hD:s.heap.get? D=none:=by
   cases w:s.heap.get? D with
   | none=>rfl
   | some o=>
    have:=hlt (D,o) (S6.mpr ⟨(N₂ _ (.head _)).2.1,w⟩)
    exact absurd this (Nat.lt_irrefl _)
  refine B0 (db (ao:=.list (p.toList.map fun i=>.ref (ts.getD i 0))) R R₂ hD (N₂ _ (.head _)).1 ⟨_,_,rfl,by
   simp only [List.toList_toArray,List.map_map]
   refine List.map_congr_left fun i hi=>?_
   have hi':i < ts.length:=by have:=List.mem_range.mp (p2.mem_iff.mp hi);exact q8 this hln
   show nm (vs.toList.getD i .none)=_
   simp only [hvs,List.getD_eq_getElem?_getD,List.getElem?_map,List.getD_eq_getElem?_getD,List.getElem?_eq_getElem hi'];rfl⟩) fun z1 z2=>?_
  exact ⟨S,loc,_,z2,h D p.toList p2 p3 z1⟩
end
end
section
section
variable {C:Cx} {A:Around} {g:Heap} {fr:Fm} {E:Value→Shared→Prop} {loc:j0} {hp:HP} {s:Shared}
theorem AA {f c':Addr} {oc:Obj} {cvs:Array Value} {ct:Tok} {name q:Str} {params:Arguments} {body:Expr} {scope:Scope} {pm ctv:Value} {vals:List Value} {binds:List (Str × Value)} {P:Value→Prop} (R:F0 C.H₀ g fr loc (fun Z=>none) s.heap) (S:H2 C s)
  (ho:s.heap.get? f=some (kla_obj name q params body scope [] pm c' ctv)) (hoc:s.heap.get? c'=some oc) (hd:oc.data=.fields cvs) (hv:cvs[1]?=some (.str q ct)) (hlim:C.H₀.NoLimit)
  (hroom:A.depth < recursionLimit) (hco:scope.isCoroutine=false) (hgen:scope.isGenerator=false) (hk:scope.kind=.function)
  (hbind:bindArgs (kla_fn name q params body scope [] pm (.ref c') ctv) ⟨vals,[]⟩=pure binds)
  (hkb:(binds.all fun x=>scope.names.lookup x.1 == some .local || scope.names.lookup x.1 == some .cell)=true) (hfr:scope.names.all (fun x=>x.2 != .free)=true)
  (h:∀ A' g' fr' E',A'.depth=A.depth+1→A'.handled=A.handled→P0 fr' scope K7→(∀ b o,s.heap.get? b=some o→g'.get? b=some o)→w0 C A' g' fr' E' (eval body fr'.env) (X1 binds fun Z=>none) (fun Z=>none) fun v Z Z=>P v) :
  wpAny (model C.prog C.w) A (call (.ref f) vals []) (fun v s'=>H2 C s'∧(∀ b o,s.heap.get? b=some o→s'.heap.get? b=some o)∧P (nm v)) E s:=by
 obtain ⟨fd,hfd⟩:∃ fd,fd=kla_fn name q params body scope [] pm (.ref c') ctv:=⟨_,rfl⟩
 have hkind:∀ x∈binds,fd.scope.names.lookup x.1=some .local∨fd.scope.names.lookup x.1=some .cell:=fun x hx=>by
  rw [hfd]
  have:=List.all_eq_true.mp hkb x hx
  rcases Bool.or_eq_true_iff.mp this with q | q
  ·exact .inl (by simpa using q)
  ·exact .inr (by simpa using q)
 have hk':∀ b o,C.H₀.get? b=some o→s.heap.get? b=some o:=fun b o e=>R.keep b o (R.base b o e)
 refine wpAny_call (kla_callFunE hroom ho rfl hco hgen rfl ⟨c',oc,cvs,ct,rfl,hoc,hd,hv⟩ ?_)
 rw [hbind]
 refine wpAny_pure ?_
 rw [hfd] at hkind
 refine wpAny_newFunctionEnv_cells (scope:=scope) hk (fun x hx=>(hkind x hx).imp id fun e=>⟨e,cellsFrom_some _ _ _ (.inl e)⟩) fun env he s' x=>?_
 subst he
 refine ⟨(hlim.keeps hk').keeps x.toInCall.keep,kla_codeExpr ?_⟩
 have R':=Z8 (h:=s.heap) (fd:=kla_fn name q params body scope [] pm (.ref c') ctv) (f:=f) R hkind x
 refine wpAny_mono (h (A.deeper (callEnvC (kla_fn name q params body scope [] pm (.ref c') ctv) s.heap.objs.size f)) _ (K3 (kla_fn name q params body scope [] pm (.ref c') ctv) s.heap.objs.size f) _ rfl rfl (N8 (kla_fn name q params body scope [] pm (.ref c') ctv) _ f hk rfl rfl hfr) (fun b o e=>by rw [t4 rfl];exact e) s' R' (r8 S x)) (fun v s'' hq=>?_) fun Z Z e=>e
 refine Q3 hq fun S'' l' p' R'' q=>?_;try clear hq
 exact ⟨S'',fun b o e=>R''.keep b o (by rw [t4 rfl];exact e),q⟩
theorem oI {value slice:Expr} {l:Addr} {i:Int} {vs:Array Value} {n:Nat} {v:Value} {Q:Value→j0→HP→Prop} (hs:∀ o j,subscripted slice false o j=operate [o,j] (getItem o j)) (hl:g.get? l=some {cls:=.type "tuple",data:=.seq vs n}) (h0:0≤i) (hi:i < 2 ^ 63) (hv:vs[i.toNat]?=some v) (h:Q (nm v) loc hp) :
  I1 C A g fr E (subscriptTail value slice) (.ref l) (.int i 0) loc hp Q:=by
 intro a b ha hb;refine o0 (S0 hb) fun t hR0=>?_;subst hR0;have:=Q0 ha;subst this
 intro s R S
 have e:=R.keep _ _ hl
 have hk:seqIndex? i vs.size=some i.toNat:=by
  unfold seqIndex?
  have:=(Array.getElem?_eq_some_iff.mp hv).1
  simp only
  split <;> first | exact (jc h0 (by assumption)).elim | skip
  all_goals (simp;exact jb h0 this)
 exact tail_any (T:="tuple") ⟨_,e,rfl⟩ F.slot_tuple_getitem.lookup (P.getItem_tuple (n:=n) e (by exact ja h0 hi) hi hk hv ⟨S,loc,hp,R,h⟩) (hs _ _)
end
section
variable {C:Cx} {A:Around} {g:Heap} {fr:Fm} {E:Value→Shared→Prop} {loc:j0} {hp:HP}
theorem zF {Q:Value→j0→HP→Prop} {f x:Value} {k:Str} {z:Value} (h:∀ v w,nm v=x→nm w=z→w0 C A g fr E (call f [v] [(k,w)]) loc hp Q):M0 C A g fr E f [x] [(k,z)] loc hp Q:=fun vs kw hv hk=>mc vs hv fun v0 vs h0 hv=>mn vs hv (ee kw hk fun w hw=>h v0 w h0 hw)
theorem Cr {n:Int} {t:Tok}:∀ {vs:List Value} {ns:List Int},IntsAre vs ns→IntsAre (vs++[.int n t]) (ns++[n]):=fun h=>ksk_snoc h
theorem eK:∀ {vs:List Value} {ns:List Int},IntsAre vs ns→∀ i,i < ns.length→∃ t,vs.getD i .none=.int (ns.getD i 0) t
 | _,_,.nil,i,h=>by cases h
 | _,_,.cons n t r,0,_=>⟨t,rfl⟩
 | _,_,.cons n t r,i+1,h=>by
  refine o0 (eK r i (by simpa using h)) fun u hu=>?_
  exact ⟨u,by simpa using hu⟩
theorem Ed {l f c':Addr} {name q:Str} {params:Arguments} {body:Expr} {scope:Scope} {pm ctv:Value} {b1:Str} {ts:List Addr} {kz:List Int} {xs:Nat→List Value} {Q:Value→j0→HP→Prop} (hl:hp l=some (.list (ts.map .ref))) (hln:ts.length=kz.length) (h2:2≤kz.length) (h64:kz.length < 64)
  (hT:∀ (k:Nat) T,ts[k]?=some T→hp T=some (.tuple (xs k))) (hx:∀ (k:Nat),k < kz.length→(xs k)[0]?=some (iv (kz.getD k 0)))
  (hf:hp f=some (.obj (kla_obj name q params body scope [] pm c' ctv))) (hc:hp c'=some (Q5 q)) (hlim:C.H₀.NoLimit) (hroom:A.depth < recursionLimit)
  (hco:scope.isCoroutine=false) (hgen:scope.isGenerator=false) (hkind:scope.kind=.function)
  (hbind:∀ v,bindArgs (kla_fn name q params body scope [] pm (.ref c') ctv) ⟨[v],[]⟩=pure [(b1,v)])
  (hkb:(scope.names.lookup b1 == some .local || scope.names.lookup b1 == some .cell)=true) (hfr:scope.names.all (fun x=>x.2 != .free)=true)
  (hbody:∀ A' g' fr' E' (T:Addr) (vs:Array Value) (n:Nat) (k:Int) (t:Tok),A'.depth=A.depth+1→P0 fr' scope K7→g'.get? T=some {cls:=.type "tuple",data:=.seq vs n}→vs[0]?=some (.int k t)→w0 C A' g' fr' E' (eval body fr'.env) (X1 [(b1,.ref T)] fun Z=>none) (fun Z=>none) fun v Z Z=>v=iv k)
  (h:∀ D (p:List Nat),p.Perm (List.range kz.length)→p.Pairwise (RK fun i=>kz.getD i 0)→hp D=none→Q (.ref D) loc (k0 hp D (.list (p.map fun i=>.ref (ts.getD i 0))))) :
  M0 C A g fr E (.builtin "sorted") [.ref l] [("key",.ref f)] loc hp Q:=zF fun v w hv hw=>by
 have:=Q0 hv;subst this
 have:=Q0 hw;subst this
 intro s R S
 refine V0 (R.list hl) fun vs n e q'=>?_
 have hvs:vs.toList=ts.map .ref:=by
  have:∀ (vl:List Value) (ts:List Addr),vl.map nm=ts.map .ref→vl=ts.map .ref:=by
   intro vl
   induction vl with
   | nil=>intro ts q;cases ts with
    | nil=>rfl
    | cons=>cases q
   | cons v vl ih=>intro ts q;cases ts with
    | nil=>cases q
    | cons t ts=>
     rw [List.map_cons,List.map_cons] at q
     injection q with q1 q2
     simp only [Q0 q1,List.map_cons,ih ts q2]
  exact this _ _ q'
 refine o0 (R.ns) fun m hn=>?_
 have hlen:vs.toList.length=kz.length:=by simp only [hvs,List.length_map,hln]
 have R0:F0 C.H₀ g fr loc (fun Z=>none) s.heap:=R.forget (fun Z Z e=>e) fun Z Z e=>nomatch e
 refine Q2 (R.at_ _ _ hf) fun Z Z Z of hof hif=>?_
 cases hif
 refine lM (R.at_ _ _ hc) fun Z fL Z oc hoc cvs ct zr0=>B0 zr0 fun hcd hcv=>?_
 have fL':=(R.at_ _ _ hf).2.1
 refine kat_sortedK (vs:=vs.toList) (b:=false) (f:=.ref f) (news:=J9 s.heap fr.env.locals) (h₀:=E7) (L:=fr.env.locals) (m:=m) ⟨hn,fun b o e=>(by simp only [bU] at e;exact J0 e),Nat.zero_le _⟩ (fun p hp=>⟨(S6.mp hp).2,(S6.mp hp).1,bU _⟩) ⟨_,e,rfl,n,rfl⟩ (by exact du h2 hlen) (by exact iF h64 hlen)
  (ksk_s1 _ _) (fun Z=>ksk_l1 _ _) (fun Z=>ksk_t1 _ _) fun D kS e1 h' F' N' hDk hlt=>?_
 have hDL:D≠fr.env.locals:=(N' _ (.tail _ (.head _))).2.1
 have hkSL:kS≠fr.env.locals:=(N' _ (.head _)).2.1
 have hD:s.heap.get? D=none:=by
  cases w:s.heap.get? D with
  | none=>rfl
  | some o=>exact absurd (hlt (D,o) (S6.mpr ⟨hDL,w⟩)) (Nat.lt_irrefl _)
 have hhead:∀ p∈(D,seqObj "list" #[] e1)::J9 s.heap fr.env.locals,p.1≠kS:=fun p hp=>by
  rcases List.mem_cons.mp hp with rfl | hp
  ·exact Nat.ne_of_lt hDk
  ·exact Nat.ne_of_lt (Nat.lt_trans (hlt p hp) hDk)
 have key:∀ (r:List Value) (k:Nat) (ks:List Value) (e:Nat) (s₁:Shared),r=vs.toList.drop k→k≤kz.length→IntsAre ks (kz.take k)→H2 C s₁→Fr E7 fr.env.locals s₁.heap m→News E7 fr.env.locals s₁.heap ((kS,seqObj "list" (List.toArray ks) e)::(D,seqObj "list" #[] e1)::J9 s.heap fr.env.locals)→
   KatKeys C.prog C.w A.in1.in1 E7 fr.env.locals m kS (.ref f) (fun ks e s'=>wpAny (model C.prog C.w) A.in1.in1 (keyKind' (List.toArray ks)) (fun κ s''=>(kas_sort vs.toList.length).kasWp (kas_ask C.prog C.w A.in1.in1 κ (katRev false ks)) (fun p s3=>KatFin E7 fr.env.locals m kS D ks e e1 (katRev false (p.toList.map fun i=>(katRev false vs.toList).getD i Value.none)) (fun s4=>(fun v s'=>H2 C s'∧∃ loc' hp',F0 C.H₀ g fr loc' hp' s'.heap∧Q (nm v) loc' hp') (.ref D) s4) s3) s'') (fun Z Z=>False) s') r ks e s₁:=by
  intro r
  induction r with
  | nil=>
   intro k ks e s₁ hr hk hI S₁ F₁ N₁
   have hkk:k=kz.length:=by
    have:=congrArg List.length hr
    rw [List.length_drop,hlen] at this
    simp at this;exact ux this hk
   subst hkk
   rw [List.take_length] at hI
   refine KatKeys.nil ?_
   have hkl:=hI.length
   rw [ksk_kind (kz:=kz) (by simpa using hI) (by simp;exact du h2 hkl)]
   refine wpAny_pure ?_
   rw [hlen]
   refine dZ (I:=fun s'=>s'=s₁) (lt:=Z3 fun i=>kz.getD i 0) (n:=kz.length) (fun i j Cc s₂ hi hj hs₂ hC=>?_) (fun p s₂ hs₂ hp₂=>?_) _ _ rfl (kd (by exact iE h2))
   ·subst hs₂
    refine o0 (eK hI i hi) fun t ht=>?_
    refine o0 (eK hI j hj) fun u hu=>?_
    unfold kas_ask
    rw [show katRev false ks=ks from rfl,ht,hu]
    exact kat_lt_int (hC _ rfl)
   ·subst hs₂
    refine V1 hp₂ fun p1 p2 p3=>?_;try clear hp₂
    refine KatFin.intro F₁ N₁ (UpdF.head hhead) fun h₂ c F₂ N₂=>KasFin.intro F₂ N₂ (UpdF.tail (Nat.ne_of_gt hDk) (UpdF.head fun r hr=>Nat.ne_of_lt (hlt r hr))) fun h₃ c₃ F₃ N₃=>?_
    have R₃:=aO (h':=h₃) R hn F₃.ns fun b o hb e=>(N₃ (b,o) (.tail _ (.tail _ (S6.mpr ⟨hb,e⟩)))).1
    refine B0 (db (ao:=.list (p.toList.map fun i=>.ref (ts.getD i 0))) R R₃ hD (N₃ _ (.tail _ (.head _))).1 ⟨_,_,rfl,by
     simp only [show katRev false (p.toList.map fun i=>(katRev false vs.toList).getD i Value.none)=p.toList.map fun i=>vs.toList.getD i Value.none from rfl,List.toList_toArray,List.map_map]
     refine List.map_congr_left fun i hi=>?_
     have hi':i < ts.length:=by have:=List.mem_range.mp (p2.mem_iff.mp hi);exact q8 this hln
     show nm (vs.toList.getD i .none)=_
     simp only [hvs,List.getD_eq_getElem?_getD,List.getElem?_map,List.getD_eq_getElem?_getD,List.getElem?_eq_getElem hi'];rfl⟩) fun z1 z2=>?_
    exact ⟨S₁,loc,_,z2,h D p.toList p2 p3 z1⟩
  | cons v r ih=>
   intro k ks e s₁ hr hk hI S₁ F₁ N₁
   have hkt:k < ts.length:=by
    have:=congrArg List.length hr
    rw [List.length_drop,hlen] at this
    simp at this;exact uw hln this
   have hv:v=.ref ts[k]∧r=vs.toList.drop (k+1):=by
    have hk':k < vs.toList.length:=by rw [hlen];exact q1 hln hkt
    rw [List.drop_eq_getElem_cons hk'] at hr
    injection hr with a b
    refine ⟨?_,b⟩
    rw [a]
    have:vs.toList[k]?=some (.ref ts[k]):=by simp only [hvs,List.getElem?_map,List.getElem?_eq_getElem hkt];rfl
    rw [List.getElem?_eq_getElem hk'] at this
    injection this
   refine B0 hv fun hR0 hr'=>?_;try clear hv;subst hR0
   have hk₁:∀ b o,b≠fr.env.locals→s.heap.get? b=some o→s₁.heap.get? b=some o:=fun b o hb e=>(N₁ (b,o) (.tail _ (.tail _ (S6.mpr ⟨hb,e⟩)))).1
   have R₁:=aO R0 hn F₁.ns hk₁
   have hTk:=hT k ts[k] (List.getElem?_eq_getElem hkt)
   refine V0 (R.tuple hTk) fun tv n' eT qT=>?_
   refine z0 (X5 qT (hx k (by exact q1 hln hkt))) fun v0 hv0 hnm=>?_
   refine o0 (S0 hnm) fun t0 hR0=>?_;subst hR0
   have hTL:=(R.at_ _ _ hTk).2.1
   refine KatKeys.cons (wpAny_mono (AA (A:=A.in1.in1) (P:=fun v=>v=iv (kz.getD k 0)) R₁ S₁ (hk₁ _ _ fL' hof) (hk₁ _ _ fL hoc) hcd hcv hlim hroom hco hgen hkind (hbind _) (by simpa using hkb) hfr (fun A' g' fr' E' a1 a2 a3 a4=>hbody A' g' fr' E' ts[k] tv n' _ t0 a1 a3 (a4 _ _ (hk₁ _ _ hTL eT)) hv0)) (fun kv s₂ hq=>?_) fun Z Z e=>e)
   refine V1 hq fun S₂ hk₂ hkv=>?_;try clear hq
   refine o0 (S0 hkv) fun t hR0=>?_;subst hR0
   have F₂:Fr E7 fr.env.locals s₂.heap m:=F₁.kept hk₂
   have N₂:News E7 fr.env.locals s₂.heap _:=fun p hp=>⟨hk₂ _ _ (N₁ p hp).1,(N₁ p hp).2⟩
   refine KatBack.intro F₂ N₂ (UpdF.head hhead) fun h₃ c F₃ N₃=>?_
   refine ih (k+1) _ c {s₂ with heap:=h₃} hr' (by exact q1 hln hkt) ?_ S₂ F₃ N₃
   have e4:kz.take (k+1)=kz.take k++[kz.getD k 0]:=by
    simp only [List.take_add_one,List.getElem?_eq_getElem (by exact q1 hln hkt),List.getD_eq_getElem?_getD,List.getElem?_eq_getElem (by exact q1 hln hkt)];rfl
   simp only [e4]
   exact Cr hI
 exact key vs.toList 0 [] 0 {s with heap:=h'} rfl (Nat.zero_le _) .nil S F' N'
end
end
section
section
variable {C:Cx} {A:Around} {g:Heap} {fr:Fm} {E:Value→Shared→Prop} {loc:j0} {hp:HP}
theorem EW {value:Expr} {step₀:Expr} {lower upper:Option Expr} {p₁ pos:Pos} {Q:Value→j0→HP→Prop} (ht:∀ o r,letTemporaryGo value o r=pure ())
  (h:w0 C A g fr E (eval value fr.env) loc hp fun x l p=>t5 C A g fr E lower l p fun lo l p=>t5 C A g fr E upper l p fun hi l p=>t5 C A g fr E (some step₀) l p fun st l p=>∃ (a:Addr) (ns:List Int),x=.ref a∧p a=some (.list (ns.map iv))∧ns.length≤100000∧st≠some 0∧
   ∀ (c:Addr),p c=none→Q (.ref c) l (k0 p c (.list ((pickNums ns lo hi st).map iv)))) :
  w0 C A g fr E (eval (.Subscript value (.Slice lower upper (some step₀) p₁) pos) fr.env) loc hp Q:=fun s R S=>by
 refine wpAny_Subscript_Slice_step (T:="list") list_getitem_lookup (wpAny_mono (h s R S) (fun x s₁ hZ0=>Q3 hZ0 fun S₁ l₁ p₁ R₁ h₁=>wpAny_Slice (wpAny_mono (I7 h₁ s₁ R₁ S₁) (fun vl s₂ hZ0=>G7 hZ0 fun S₂ l₂ p₂ R₂ lo hlo h₂=>
  wpAny_mono (I7 h₂ s₂ R₂ S₂) (fun vu s₃ hZ0=>G7 hZ0 fun S₃ l₃ p₃ R₃ hi hhi h₃=>wpAny_mono (I7 h₃ s₃ R₃ S₃) (fun vs₀ s₄ hZ0=>ch hZ0 fun S₄ l₄ p₄ R₄ st hst a zr0=>fb zr0 fun ns e ha hsz hne hQ=>?_) fun Z Z e=>e) fun Z Z e=>e) fun Z Z e=>e)) fun Z Z e=>e) ht
 have:=Q0 e;subst this
 refine V0 (R₄.list ha) fun vs n e q=>?_
 have hz:=M2 q
 rw [List.length_map] at hz
 have hl:s₄.heap.IsList a vs:=⟨_,e,rfl,n,rfl⟩
 have hI:IntsAre vs.toList ns:=by
  have:∀ (vl:List Value) (ns:List Int),vl.map nm=ns.map iv→IntsAre vl ns:=by
   intro vl
   induction vl with
   | nil=>intro ns q;cases ns with
    | nil=>exact .nil
    | cons=>cases q
   | cons v vl ih=>intro ns q;cases ns with
    | nil=>cases q
    | cons i ns=>
     rw [List.map_cons,List.map_cons] at q
     injection q with q1 q2
     refine o0 (S0 q1) fun t hR0=>?_;subst hR0
     exact .cons i t (ih ns q2)
  exact this _ _ q
 have hP:=hI.pick lo hi st
 have hnm:∀ {vl:List Value} {ns:List Int},IntsAre vl ns→vl.map nm=ns.map iv:=fun hi=>by
  induction hi with
  | nil=>rfl
  | cons i t _ ih=>simp only [List.map_cons,List.map_cons,ih];rfl
 refine ⟨(hl.push _).typeIs,wpAny_getItem_list_slice (hl.push _) (Heap.IsSliceOf.new ..) hlo hhi hst hne ?_ (by rw [sizeLine_eq];exact B8 hsz hz)⟩
 rw [Heap.size_push]
 refine ⟨S₄,l₄,k0 p₄ (s₄.heap.objs.size+1) (.list ((pickNums ns lo hi st).map iv)),?_,hQ _ ?_⟩
 ·have R₅:=R₄.alloc (ao:=.sat fun Z=>True) (o:={cls:=.type "slice",data:=.fields #[vl,vu,vs₀]}) rfl trivial
  have R₆:=R₅.alloc (ao:=.list ((pickNums ns lo hi st).map iv)) (o:={cls:=.type "list",data:=.seq (slicePick vs lo hi st)}) rfl ⟨_,_,rfl,hnm hP⟩
  simp only [Heap.size_push] at R₆
  refine R₆.forget (fun Z Z e=>e) fun b o eb=>?_
  unfold k0 at eb ⊢
  by_cases hb:b=s₄.heap.objs.size+1
  ·rwa [if_pos hb] at eb ⊢
  ·rw [if_neg hb] at eb ⊢
   rw [if_neg (by rintro rfl;rw [R₄.none_at] at eb;cases eb)]
   exact eb
 ·cases q:p₄ (s₄.heap.objs.size+1) with
  | none=>rfl
  | some o=>exact absurd (R₄.lt_of_hp q) (Nat.not_lt.mpr (Nat.le_succ _))
theorem AL {value:Expr} {step₀:Expr} {lower upper:Option Expr} {p₁ pos:Pos} {Q:Value→j0→HP→Prop} (h:w0 C A g fr E (eval value fr.env) loc hp fun x l p=>t5 C A g fr E lower l p fun lo l p=>t5 C A g fr E upper l p fun hi l p=>t5 C A g fr E (some step₀) l p fun st l p=>∃ (a:Addr) (ns:List Int),x=.ref a∧p a=some (.list (ns.map iv))∧ns.length≤100000∧st≠some 0∧
   ∀ (c:Addr),p c=none→Q (.ref c) l (k0 p c (.list ((pickNums ns lo hi st).map iv)))) (ht:∀ o r,letTemporaryGo value o r=pure ():=by with_unfolding_all (intros;rfl)):w0 C A g fr E (eval (.Subscript value (.Slice lower upper (some step₀) p₁) pos) fr.env) loc hp Q:=EW ht h
theorem EX {value:Expr} {lower upper:Option Expr} {p₁ pos:Pos} {Q:Value→j0→HP→Prop} (ht:∀ o r,letTemporaryGo value o r=pure ())
  (h:w0 C A g fr E (eval value fr.env) loc hp fun x l p=>t5 C A g fr E lower l p fun lo l p=>t5 C A g fr E upper l p fun hi l p=>∃ (a:Addr) (vs:Array Value) (n:Nat) (xs:List Value),x=.ref a∧g.get? a=some {cls:=.type "list",data:=.seq vs n}∧vs.toList.map nm=xs∧xs.length≤100000∧
   ∀ c,p c=none→Q (.ref c) l (k0 p c (.list (W2 xs lo hi)))) :
  w0 C A g fr E (eval (.Subscript value (.Slice lower upper none p₁) pos) fr.env) loc hp Q:=fun s R S=>by
 refine wpAny_Subscript_list_slice (wpAny_mono (h s R S) (fun x s₁ hZ0=>Q3 hZ0 fun S₁ l₁ p₁ R₁ h₁=>wpAny_mono (I7 h₁ s₁ R₁ S₁) (fun vl s₂ hZ0=>G7 hZ0 fun S₂ l₂ p₂ R₂ lo hlo h₂=>
  wpAny_mono (I7 h₂ s₂ R₂ S₂) (fun vu s₃ hZ0=>ch hZ0 fun S₃ l₃ p₃ R₃ hi hhi a zr0=>au zr0 fun vs n xs e ha q hsz hQ=>?_) fun Z Z e=>e) fun Z Z e=>e) fun Z Z e=>e) ht
 have:=Q0 e;subst this
 have e:=R₃.keep _ _ ha
 have hz:=M2 q
 refine ⟨a,vs,lo,hi,rfl,⟨_,e,rfl,n,rfl⟩,by rw [sizeLine_eq];exact B8 hsz hz,hlo,hhi,S₃,l₃,k0 p₃ (s₃.heap.objs.size+1) (.list (W2 xs lo hi)),?_,hQ _ ?_⟩
 ·have R₄:=R₃.alloc (ao:=.sat fun Z=>True) (o:={cls:=.type "slice",data:=.fields #[vl,vu,.none]}) rfl trivial
  have R₅:=R₄.alloc (ao:=.list (W2 xs lo hi)) (o:={cls:=.type "list",data:=.seq (slicePick vs lo hi none)}) rfl ⟨_,_,rfl,by
   rw [slicePick_plain,hz,List.map_take,List.map_drop,q];rfl⟩
  simp only [Heap.size_push] at R₅
  refine R₅.forget (fun Z Z e=>e) fun b o eb=>?_
  unfold k0 at eb ⊢
  by_cases hb:b=s₃.heap.objs.size+1
  ·rwa [if_pos hb] at eb ⊢
  ·rw [if_neg hb] at eb ⊢
   rw [if_neg (by rintro rfl;rw [R₃.none_at] at eb;cases eb)]
   exact eb
 ·cases q:p₃ (s₃.heap.objs.size+1) with
  | none=>rfl
  | some o=>exact absurd (R₃.lt_of_hp q) (Nat.not_lt.mpr (Nat.le_succ _))
theorem zt {Q:Value→j0→HP→Prop} (h:Q (iv 262144) loc hp):I1 C A g fr E (binaryOp .Pow) (.int 64 0) (.int 3 0) loc hp Q:=by
 intro x y hx hy
 refine o0 (S0 hx) fun t hR0=>?_;subst hR0
 refine o0 (S0 hy) fun u hR0=>?_;subst hR0
 exact fun s R S=>pow_int (by decide) (by decide) ⟨S,loc,hp,R,h⟩
end
end
section
structure G5 (A:Around) (fr:Fm):Prop where
 F:P0 fr (Z6 (G0 21)) K7
 room:A.depth+20 < recursionLimit
 hh:A.handled=none
 frames:A.frames=some [fr.env]
 lf:fr.env.frame=some fr.env.locals
 units:A.units+100 < cLine
 code:fr.env.code=.ref 194
 qual:fr.env.qual++"<lambda>" = "law.<locals>.<lambda>"
theorem pc {xs:List Value} {k:Nat}:W2 xs none (some (k:Int))=xs.take k:=by
 delta W2 clipAt
 simp only [Option.elim,List.drop_zero,Nat.sub_zero]
 rw [if_neg (by exact iD)]
 have e:(max 0 (min (k:Int) (xs.length:Int))).toNat=min k xs.length:=by exact uv
 rw [e]
 rcases Nat.le_total k xs.length with q | q
 ·rw [Nat.min_eq_left q]
 ·rw [Nat.min_eq_right q,List.take_of_length_le (Nat.le_refl _),List.take_of_length_le q]
noncomputable def C9:List Int:=[160,42,37,18,83,2607,30,104,24,28753]
theorem Ay {C:Cx} (W:G1 C) {A:Around} {g:Heap} {fr:Fm} {E:Value→Shared→Prop} {hp:HP} {Q:Flow→j0→HP→Prop} {sa:Addr} {xs:List Int} (LA:G5 A fr) {vs:Array Value} {n:Nat} (ha:g.get? sa=some {cls:=.type "list",data:=.seq vs n}) (hvs:vs.toList.map nm=xs.map iv) (hsz:xs.length≤63)
  (h:∀ loc' p Dc Dn (cells ns:List Int),loc' "cells" = some (.ref Dc)→p Dc=some (.list (cells.map iv))→loc' "numbers" = some (.ref Dn)→p Dn=some (.list (ns.map iv))→cells.length=10→ns.length=10→(∀ z∈ns,0≤z∧z < 262144)→m0 hp p→I0 C A g fr E (execs ((M3 (G0 21)).drop 4) fr.env) loc' p Q) :
  I0 C A g fr E (execs (M3 (G0 21)) fr.env) (X1 [("script",.ref sa)] fun Z=>none) hp Q:=by
 obtain ⟨F,hroom,hh,hfrm,hlf,hun,hcode,hqual⟩:=LA
 have henum:=W.enumerate
 have hsum:=W.sum
 dsimp only [X1]
 refine Y1 ?_
 walk_at "kl"
 refine EX (fun Z Z=>rfl) ?_
 repeat' walk_at "kl"
 refine ⟨sa,vs,n,_,rfl,ha,hvs,by rw [List.length_map];exact uu hsz,fun c hc=>?_⟩
 have hc1:k0 hp c (.list (W2 (xs.map iv) none (some ((60:Nat):Int)))) c=some (.list ((xs.take 60).map iv)):=by rw [s0,pc,List.map_take]
 refine W4 (xs.take 60) (fun x=>[iv x]) (fun x=>iv (x % 1000000)) (V6 hh hc1 ⟨rfl,by rw [List.length_take];exact ut,?elt,?done⟩)
 case elt=>
  intro x hx g₃ fr₃ E₃ hF₃
  dsimp only [W0,K0]
  repeat' walk_at "kl"
  exact ⟨rfl,m0.rfl,rfl⟩
 case done=>
  intro T hT
  obtain ⟨told,htold⟩:∃ told:List Int,told=(xs.take 60).map (· % 1000000):=⟨_,rfl⟩
  have hT1:k0 (k0 hp c (.list (W2 (xs.map iv) none (some ((60:Nat):Int))))) T (.list ((xs.take 60).map fun x=>iv (x % 1000000))) T=some (.list (told.map iv)):=by simp only [s0,htold,List.map_map];rfl
  have hs1:m0 hp (k0 (k0 hp c (.list (W2 (xs.map iv) none (some ((60:Nat):Int))))) T (.list ((xs.take 60).map fun x=>iv (x % 1000000)))):=(m0.set hc).trans (m0.set hT)
  have htl:told.length≤60:=by simp only [htold,List.length_map,List.length_take];exact ur
  have htb:∀ z∈told,0≤z∧z < 1000000:=fun z hz=>by
   rw [htold] at hz
   refine z0 (List.mem_map.mp hz) fun y Z hR0=>?_;subst hR0
   exact uq
  show I0 _ _ _ _ _ _ _ (k0 (k0 hp c (.list (W2 (xs.map iv) none (some ((60:Nat):Int))))) T _) _
  generalize k0 (k0 hp c (.list (W2 (xs.map iv) none (some ((60:Nat):Int))))) T (.list ((xs.take 60).map fun x=>iv (x % 1000000)))=p₁ at hT1 hs1 ⊢
  repeat' walk_at "kl"
  refine ⟨by decide,fun D hD=>?_⟩
  have hD1:k0 p₁ D (.list [iv 160,iv 42,iv 37,iv 18,iv 83,iv 2607,iv 30,iv 104,iv 24,iv 28753]) D=some (.list (C9.map iv)):=s0 ..
  repeat' walk_at "kl"
  refine m9 (ah hh hD1 ?en) fun v l p hz=>W4 C9.zipIdx (fun z=>[iv z.2,iv z.1]) (fun z=>iv (z.1+(pickNums told (some (z.2:Int)) none (some 10)).sum)) hz
  case en=>
   refine ⟨by rw [List.zipIdx_map,List.map_map];rfl,by decide,?elt2,?done2⟩
   case elt2=>
    intro z hz g₃ fr₃ E₃ hF₃
    obtain ⟨cell,k⟩:=z
    dsimp only [W0,K0]
    repeat' walk_at "kl"
    refine ⟨T,told,rfl,E1 hD hT1,by exact uo htl,by decide,fun c₂ hc₂=>?_⟩
    repeat' walk_at "kl"
    refine fk hh (s0 ..) ?_
    repeat' walk_at "kl"
    exact ⟨rfl,m0.set hc₂,rfl⟩
   case done2=>
    intro D₂ hD₂
    obtain ⟨cells,hcells⟩:∃ cells:List Int,cells=C9.zipIdx.map fun z=>z.1+(pickNums told (some (z.2:Int)) none (some 10)).sum:=⟨_,rfl⟩
    have hC1:k0 (k0 p₁ D (.list [iv 160,iv 42,iv 37,iv 18,iv 83,iv 2607,iv 30,iv 104,iv 24,iv 28753])) D₂ (.list (C9.zipIdx.map fun z=>iv (z.1+(pickNums told (some (z.2:Int)) none (some 10)).sum))) D₂=some (.list (cells.map iv)):=by simp only [s0,hcells,List.map_map];rfl
    have hs2:m0 p₁ (k0 (k0 p₁ D (.list [iv 160,iv 42,iv 37,iv 18,iv 83,iv 2607,iv 30,iv 104,iv 24,iv 28753])) D₂ (.list (C9.zipIdx.map fun z=>iv (z.1+(pickNums told (some (z.2:Int)) none (some 10)).sum)))):=(m0.set hD).trans (m0.set hD₂)
    have hcl:cells.length=10:=by rw [hcells,List.length_map];rfl
    show I0 _ _ _ _ _ _ _ (k0 (k0 p₁ D _) D₂ _) _
    generalize k0 (k0 p₁ D (.list [iv 160,iv 42,iv 37,iv 18,iv 83,iv 2607,iv 30,iv 104,iv 24,iv 28753])) D₂ (.list (C9.zipIdx.map fun z=>iv (z.1+(pickNums told (some (z.2:Int)) none (some 10)).sum)))=p₂ at hC1 hs2 ⊢
    clear hcells
    repeat' walk_at "kl"
    refine W4 cells (fun x=>[iv x]) (fun x=>iv (x % 262144)) (V6 hh hC1 ⟨rfl,by exact q4 hcl,?elt3,?done3⟩)
    case elt3=>
     intro x hx g₃ fr₃ E₃ hF₃
     dsimp only [W0,K0]
     repeat' walk_at "kl"
     exact ⟨rfl,m0.rfl,rfl⟩
    case done3=>
     intro D₃ hD₃
     obtain ⟨ns,hns⟩:∃ ns:List Int,ns=cells.map (· % 262144):=⟨_,rfl⟩
     have hN1:k0 p₂ D₃ (.list (cells.map fun x=>iv (x % 262144))) D₃=some (.list (ns.map iv)):=by simp only [s0,hns,List.map_map];rfl
     have hs3:m0 p₂ (k0 p₂ D₃ (.list (cells.map fun x=>iv (x % 262144)))):=m0.set hD₃
     generalize k0 p₂ D₃ (.list (cells.map fun x=>iv (x % 262144)))=p₃ at hN1 hs3 ⊢
     have hnl:ns.length=10:=by simp only [hns,List.length_map,hcl]
     have hnb:∀ z∈ns,0≤z∧z < 262144:=fun z hz=>by
      rw [hns] at hz
      refine z0 (List.mem_map.mp hz) fun y Z hR0=>?_;subst hR0
      exact un
     have hC3:=hs3 _ _ hC1
     refine (?_:I0 C A g fr E (execs ((M3 (G0 21)).drop 4) fr.env) _ _ _)
     refine h _ p₃ D₂ D₃ cells ns ?_ hC3 ?_ hN1 hcl hnl hnb (hs1.trans (hs2.trans hs3))
     ·walk_at "loc"
     ·walk_at "loc"
end
section
noncomputable def o8 (x:Int):Nat × Nat:=((x % 16).toNat,(x % 16+1+x / 16 % 8).toNat)
theorem oZ (x:Int):(o8 x).1 < (o8 x).2∧(o8 x).1≤15∧(o8 x).2≤23:=by unfold o8;dsimp only;exact um
noncomputable def B4 (ps:List (Nat × Nat)) (a:Nat):Nat:=ps.countP fun v=>decide (v.1≤a∧a < v.2)
theorem ml {ps:List (Nat × Nat)} {a:Nat}:(ps.filterMap fun v=>if ((v.1:Int)≤a∧(a:Int) < v.2) then some (iv 1) else none).length=B4 ps a:=by
 unfold B4
 induction ps with
 | nil=>rfl
 | cons v r ih=>
  simp only [List.filterMap_cons,List.countP_cons]
  by_cases q:(v.1:Int)≤a∧(a:Int) < v.2
  ·rw [if_pos q,show decide (v.1≤a∧a < v.2)=true from decide_eq_true (by exact ul q),if_pos rfl]
   dsimp only
   simp only [List.length_cons,ih]
  ·rw [if_neg q,show decide (v.1≤a∧a < v.2)=false from decide_eq_false (by exact uk q),if_neg (by decide)]
   dsimp only
   simp only [ih];rfl
theorem gl {p:HP} {xs:List Int}:∀ (i:Nat) v w,(xs.map iv)[i]?=some v→(xs.map iv)[i]?=some w→aG p v w:=fun i v w a b=>by
 rw [a] at b;injection b with b;subst b
 rw [List.getElem?_map] at a
 refine z0 (Option.map_eq_some_iff.mp a) fun x Z hR0=>?_;subst hR0
 exact .inl ⟨.inl ⟨x,rfl⟩,rfl⟩
theorem zS {base:Nat} (hb:base < 30):W2 ((List.range 32).map fun k=>Value.str (K1 k) 0) (some (base:Int)) (some ((base:Int)+3))=[base,base+1,base+2].map fun k=>Value.str (K1 k) 0:=by
 unfold W2
 simp only [Option.elim,List.length_map,List.length_range]
 have e1:clipAt 32 (base:Int)=base:=by unfold clipAt;rw [if_neg (by exact iD)];exact uh hb
 have e2:clipAt 32 ((base:Int)+3)=base+3:=by unfold clipAt;rw [if_neg (by exact ug)];exact uf hb
 rw [e1,e2,←List.map_drop,←List.map_take]
 congr 1
 have:∀ b < 30,((List.range 32).drop b).take (b+3 - b)=[b,b+1,b+2]:=by decide +kernel
 exact this base hb
theorem Ax {C:Cx} (W:G1 C) (hstop:Q1 C "StopIteration" (.type "StopIteration")) {A:Around} {g:Heap} {fr:Fm} {E:Value→Shared→Prop} {loc:j0} {hp:HP} {Q:Flow→j0→HP→Prop} {Dc Dn:Addr} {cells ns:List Int} (LA:G5 A fr)
  (l1:loc "cells" = some (.ref Dc)) (l2:loc "numbers" = some (.ref Dn)) (hc:hp Dc=some (.list (cells.map iv))) (hn:hp Dn=some (.list (ns.map iv))) (hcl:cells.length=10) (hnl:ns.length=10) (hnb:∀ z∈ns,0≤z∧z < 262144)
  (h:∀ loc' p (S₁:Addr) (sts:List Addr) (ps:List (Nat × Nat)) (full base:Nat) (head:Int) (Dw Dm:Addr),loc' "spans" = some (.ref S₁)→loc' "fullest" = some (iv full)→loc' "base" = some (iv base)→loc' "head" = some (iv head)→loc' "names" = some (.ref Dw)→loc' "marks" = some (.ref Dm)→
   X3 p S₁ sts ps→ps.length=10→(∀ v∈ps,v.1 < v.2∧v.1≤15∧v.2≤23)→(∃ v∈ps,B4 ps v.1=full)→(∀ v∈ps,B4 ps v.1≤full)→base < 30→1≤head∧head≤3→p Dw=some (.list ((List.range 32).map fun k=>.str (K1 k) 0))→p Dm=some (.list ([base,base+1,base+2].map fun k=>.str (K1 k) 0))→m0 hp p→
   I0 C A g fr E (execs ((M3 (G0 21)).drop 11) fr.env) loc' p Q) :
  I0 C A g fr E (execs ((M3 (G0 21)).drop 4) fr.env) loc hp Q:=by
 obtain ⟨F,hroom,hh,hfrm,hlf,hun,hcode,hqual⟩:=LA
 have hmax:=W.max
 have hlen:=W.len
 have hread:=W.gRead
 refine o0 (W.fRead) fun pmR FR=>?_
 refine Y1 ?_
 repeat' walk_at "kl"
 refine Ah W hstop (by exact aV hroom) hh hfrm hlf F.k hn hnl hnb fun D p₁ hs1 hD=>?_
 have hn1:=hs1 _ _ hn
 have hc1:=hs1 _ _ hc
 repeat' walk_at "kl"
 refine ay hD hn1 rfl gl (by exact w8 hun) ⟨_,rfl,?_⟩
 show ite _ _ _;rw [if_neg Bool.false_ne_true]
 repeat' walk_at "kl"
 refine Q8 ns (fun x=>[iv x]) (fun x=>.tuple [iv (x % 16),iv (x % 16+1+x / 16 % 8)]) (V6 hh hD ⟨rfl,by exact q4 hnl,fun p' hs=>hs _ _ hD,?elt,?done⟩)
 case elt=>
  intro x hx g₃ fr₃ E₃ p₃ hF₃ hs₃
  dsimp only [W0,K0]
  repeat' walk_at "kl"
  exact ⟨by simp,fun T hT=>⟨rfl,T,rfl,hT,m0.set hT,s0 ..⟩⟩
 case done=>
  intro S₁ sts p₂ hl₂ hnd₂ ht₂ hn₂ hs₂ hS₂
  obtain ⟨ps,hps⟩:∃ ps,ps=ns.map o8:=⟨_,rfl⟩
  have hP:X3 (k0 p₂ S₁ (.list (sts.map .ref))) S₁ sts ps:=⟨s0 ..,by simp only [hl₂,hps,List.length_map],fun k T v a b=>by
   rw [hps,List.getElem?_map] at b
   refine z0 (Option.map_eq_some_iff.mp b) fun x hx hR0=>?_;subst hR0
   rw [E1 hS₂ (ht₂ k T x a hx)]
   unfold o8
   rw [show (((x % 16).toNat:Nat):Int)=x % 16 from Int.toNat_of_nonneg (Int.emod_nonneg x (by decide)),show (((x % 16+1+x / 16 % 8).toNat:Nat):Int)=x % 16+1+x / 16 % 8 from Int.toNat_of_nonneg (Int.add_nonneg (Int.add_nonneg (Int.emod_nonneg x (by decide)) (by decide)) (Int.emod_nonneg _ (by decide)))]⟩
  have hs2:m0 p₁ (k0 p₂ S₁ (.list (sts.map .ref))):=hs₂.trans (m0.set hS₂)
  generalize k0 p₂ S₁ (.list (sts.map .ref))=p₃ at hP hs2 ⊢
  have hpl:ps.length=10:=by simp only [hps,List.length_map,hnl]
  have hpo:∀ v∈ps,v.1 < v.2∧v.1≤15∧v.2≤23:=fun v hv=>by
   rw [hps] at hv
   refine z0 (List.mem_map.mp hv) fun x Z hR0=>?_;subst hR0
   exact oZ x
  have hC3:=hs2 _ _ hc1
  repeat' walk_at "kl"
  refine W4 ps (fun v=>[iv v.1,iv v.2]) (fun v=>iv (B4 ps v.1)) (kI hh hP fun need hneed=>⟨rfl,by exact q4 hpl,?elt2,?done2⟩)
  case elt2=>
   intro x hx g₃ fr₃ E₃ hF₃
   dsimp only [W0,K0]
   repeat' walk_at "kl"
   refine j7 ps (fun v=>[iv v.1,iv v.2]) (fun v=>if ((v.1:Int)≤x.1∧(x.1:Int) < v.2) then some (iv 1) else none) (kI hh hP fun need' hneed'=>⟨rfl,by exact q4 hpl,?elt3,?done3⟩)
   case elt3=>
    intro y hy g₄ fr₄ E₄ hF₄
    dsimp only [W0,K0]
    repeat' walk_at "kl"
    by_cases h1:(y.1:Int)≤x.1
    ·rw [if_pos (by simpa using h1)]
     repeat' walk_at "kl"
     refine ⟨rfl,m0.rfl,?_⟩
     by_cases h2:(x.1:Int) < y.2
     ·rw [if_pos (by simpa using h2)]
      intro g₅ E₅
      repeat' walk_at "kl"
      exact ⟨rfl,m0.rfl,if_pos ⟨h1,h2⟩⟩
     ·rw [if_neg (by simpa using h2)]
      exact if_neg fun h=>h2 h.2
    ·rw [if_neg (by simpa using h1)]
     refine ⟨rfl,m0.rfl,?_⟩
     rw [if_neg (by decide)]
     exact if_neg fun h=>h1 h.1
   case done3=>
    intro D₃ hD₃
    repeat' walk_at "kl"
    have hcle:B4 ps x.1≤10:=by rw [←hpl];exact List.countP_le_length
    refine E6 (s0 _ _ _) (by simp only [ml,sizeLine_eq];exact ue hcle) ⟨rfl,m0.set hD₃,?_⟩
    rw [ml]
  case done2=>
   intro D₂ hD₂
   repeat' walk_at "kl"
   refine cB (ns:=ps.map fun v=>(B4 ps v.1:Int)) hh (by simp only [s0,List.map_map];rfl) ?_ fun M hM hMx=>?_
   ·intro e
    have:=List.map_eq_nil_iff.mp e
    rw [this] at hpl;cases hpl
   refine z0 (List.mem_map.mp hM) fun v₀ hv₀ hR0=>?_;subst hR0
   have hs3:m0 p₃ (k0 p₃ D₂ (.list (ps.map fun v=>iv (B4 ps v.1)))):=m0.set hD₂
   generalize k0 p₃ D₂ (.list (ps.map fun v=>iv (B4 ps v.1)))=p₄ at hs3 ⊢
   have hC4:=hs3 _ _ hC3
   have hP4:=hP.mono hs3
   repeat' walk_at "kl"
   refine sub_int (by intro _ _;with_unfolding_all rfl) hC4 (by decide) (by exact iC hcl) (by exact q4 hcl) ?_
   repeat' walk_at "kl"
   refine sub_int (by intro _ _;with_unfolding_all rfl) hC4 (by decide) (by exact iC hcl) (by exact q4 hcl) ?_
   repeat' walk_at "kl"
   refine ⟨by simp,fun T hT=>⟨T,_,_,rfl,s0 ..,?_⟩⟩
   have hs4:=m0.set (o:=.tuple [iv (cells.getD (9:Int).toNat 0 / 4096 % 30),iv (1+cells.getD (9:Int).toNat 0 / 122880 % 3)]) hT
   show I0 _ _ _ _ _ _ _ (k0 p₄ T (.tuple [iv (cells.getD (9:Int).toNat 0 / 4096 % 30),iv (1+cells.getD (9:Int).toNat 0 / 122880 % 3)])) _
   generalize k0 p₄ T (.tuple [iv (cells.getD (9:Int).toNat 0 / 4096 % 30),iv (1+cells.getD (9:Int).toNat 0 / 122880 % 3)])=p₅ at hs4 ⊢
   obtain ⟨base,hbase,hb30⟩:∃ base:Nat,cells.getD (9:Int).toNat 0 / 4096 % 30=base∧base < 30:=⟨(cells.getD (9:Int).toNat 0 / 4096 % 30).toNat,aL (Int.emod_nonneg _ (by decide)),by exact ud⟩
   obtain ⟨head,hhead,hh3⟩:∃ head:Int,1+cells.getD (9:Int).toNat 0 / 122880 % 3=head∧1≤head∧head≤3:=⟨_,rfl,by exact uc,by exact ub⟩
   simp only [hbase,hhead]
   have hP5:=hP4.mono hs4
   have hnam:=W.gNames
   refine o0 (W.fNames) fun pmN FN=>?_
   repeat' walk_at "kl"
   refine Aj W (by exact q7 hroom) hh fun Dw p₆ hs6 hDw hDwp=>?_
   have hP6:=hP5.mono hs6
   repeat' walk_at "kl"
   refine ⟨Dw,_,rfl,hDwp,by decide,fun Dm hDm=>?_⟩
   simp only [zS hb30]
   refine h _ _ S₁ sts ps (B4 ps v₀.1) base head Dw Dm ?_ ?_ ?_ ?_ ?_ ?_ (hP6.mono (m0.set hDm)) hpl hpo ⟨v₀,hv₀,rfl⟩ (fun v hv=>by have:=hMx _ (List.mem_map.mpr ⟨v,hv,rfl⟩);exact dG this) hb30 hh3 (E1 hDm hDwp) (s0 ..)
    (hs1.trans (hs2.trans (hs3.trans (hs4.trans (hs6.trans (m0.set hDm))))))
   all_goals walk_at "loc"
end
section
section
variable {C:Cx} {A:Around} {g:Heap} {fr:Fm} {E:Value→Shared→Prop} {loc:j0} {hp:HP} {sc:Scope} {scope:Scope}
theorem DD {β:Type} {target elt:Expr} {names:List Str} {x:Value} {Q:Value→j0→HP→Prop} (xs:List β) (m:β→List Value) (P:HP→Addr→Prop) (hmono:∀ p p' T,P p T→m0 p p'→P p' T) (hne:∀ p T,P p T→p T≠none)
  (h:i3 C A target names x loc hp fun vss need l p=>vss=xs.map m∧xs.length≤100000∧(∀ p',m0 p p'→need p')∧
   (∀ x∈xs,∀ g' fr' E' p',P0 fr' (I5 scope sc) (W5 scope)→m0 p p'→w0 C A g' fr' E' (eval elt fr'.env) (K0 names (m x) (J1 scope l)) p' fun y l'' p''=>l''=K0 names (m x) (J1 scope l)∧∃ T,y=.ref T∧p' T=none∧m0 p' p''∧P p'' T)∧
   ∀ D (ts:List Addr) p',ts.length=xs.length→ts.Nodup→(∀ T∈ts,P p' T)→(∀ T∈ts,p T=none)→m0 p p'→p' D=none→Q (.ref D) l (k0 p' D (.list (ts.map .ref)))) :
  r6 C A fr sc scope target elt [] names x loc hp Q:=by
 refine bZ h fun need r₁ p₀ a hnd c d zr0=>P1 zr0 fun h1 h0 h2 h3=>?_;try clear h
 refine ⟨_,need,r₁,p₀,a,hnd,c,d,by rwa [List.length_map],fun i ys p=>m0 p₀ p∧i≤xs.length∧∃ ts:List Addr,ys=ts.map .ref∧ts.length=i∧ts.Nodup∧(∀ T∈ts,p₀ T=none)∧∀ T∈ts,P p T,
  ⟨m0.rfl,Nat.zero_le _,[],rfl,rfl,List.nodup_nil,(fun T h=>by cases h),fun T h=>by cases h⟩,fun i ys p e=>h0 p e.1,?_,?_⟩
 ·intro i vs ys p g' fr' E' hv hZ0 hF g'' E'';refine E9 hZ0 fun hs hi ts hR0 hl hnod I2 hts=>?_;clear hZ0;subst hR0
  rw [List.getElem?_map] at hv
  refine z0 (Option.map_eq_some_iff.mp hv) fun x hx hR0=>?_;subst hR0
  rw [if_pos rfl]
  refine Z0 (h2 x (List.mem_of_getElem? hx) g'' fr' E'' p hF hs) fun y l'' p'' hZ0=>av hZ0 fun e1 T e2 e3 e4 e5=>⟨e1,hs.trans e4,(List.getElem?_eq_some_iff.mp hx).1,ts++[T],?_,by simp [hl],?_,?_,?_⟩
  ·rw [e2];simp
  ·refine List.nodup_append.mpr ⟨hnod,by simp,fun u hu v hv'=>?_⟩
   rcases List.mem_cons.mp hv' with rfl | h
   ·rintro rfl;exact hne _ _ (hts u hu) e3
   ·cases h
  ·intro U hU
   rcases List.mem_append.mp hU with h | h
   ·exact I2 U h
   ·rcases List.mem_cons.mp h with rfl | h
    ·exact hs.none e3
    ·cases h
  ·intro U hU
   rcases List.mem_append.mp hU with h | h
   ·exact hmono _ _ _ (hts U h) e4
   ·rcases List.mem_cons.mp h with rfl | h
    ·exact e5
    ·cases h
 ·intro D ys p hZ0 hD;refine E9 hZ0 fun hs hi ts hR0 hl hnod I2 hts=>?_;clear hZ0;subst hR0
  rw [List.length_map] at hl
  exact h3 D ts p hl hnod hts I2 hs hD
theorem pk {p:HP} {D:Addr} {ts:List Addr} {n:Nat} (hl:ts.length=n) (hnd:ts.Nodup) (hD:p D=some (.list (ts.map .ref))) (ht:∀ T∈ts,p T=some (.list [])):Y0 p D ts (List.replicate n []):=
 ⟨hD,by simp [hl],hnd,fun k T r a b=>by
  rw [List.getElem?_replicate] at b
  split at b
  ·cases b;exact ht T (List.mem_of_getElem? a)
  ·exact J0 b⟩
theorem bY (hh:A.handled=none) {n:Nat} {x:Str} {px pl:Pos} {Q:Value→j0→HP→Prop} (hn:n≤1000) (h:∀ D ts p',Y0 p' D ts (List.replicate n [])→m0 hp p'→(∀ T∈ts,hp T=none)→hp D=none→Q (.ref D) loc p') :
  M0 C A g fr E (.type "range") [iv n] [] loc hp fun y l p=>r6 C A fr sc scope (.Name x px) (.List [] pl) [] [x] y l p Q:=
 k6 fun r hr=>Q8 (O0 0 n) (fun v=>[iv v]) (fun Z=>.list []) (j5 hh hr (by decide) (by exact ua hn) ⟨rfl,by simp [O0];exact q9 hn,fun Z Z=>trivial,fun y hy g' fr' E' p' hF hs=>mU rfl (by
   show V3 _ _ _ _ _ _ _ _ _
   unfold V3
   exact ⟨by exact Nat.zero_le _,fun T hT=>⟨rfl,T,rfl,hT,m0.set hT,s0 ..⟩⟩),
  fun D ts p' hl hnd hts h0 hs hD=>h D ts _ (pk (by rw [hl];simp [O0]) hnd (s0 ..) fun T hT=>by
   refine o0 (List.mem_iff_getElem?.mp hT) fun k hk=>?_
   have hk':k < (O0 0 n).length:=by rw [←hl];exact (List.getElem?_eq_some_iff.mp hk).1
   exact E1 hD (hts k T _ hk (List.getElem?_eq_getElem hk'))) (hs.trans (m0.set hD)) h0 (hs.none hD)⟩)
theorem ER (hh:A.handled=none) {T:Addr} {a b c d:Value} {x y z u:Str} {px py pz pu pos:Pos} {k} {Q:Unit→j0→HP→Prop} (hT:hp T=some (.tuple [a,b,c,d])) (hx:M1 fr x) (hy:M1 fr y) (hz:M1 fr z) (hu:M1 fr u) (h:Q () (N0 (N0 (N0 (N0 loc x a) y b) z c) u d) hp) :
  aw C A g fr E (assign (.Tuple [.Name x px,.Name y py,.Name z pz,.Name u pu] k pos) fr.env (.ref T)) loc hp Q:=fun s R S=>by
 refine V0 (R.tuple hT) fun vs n e q=>?_
 have h1:vs.toList.length=4:=by simpa using congrArg List.length q
 refine (Ab h1).elim fun v1 h1=>h1.elim fun v2 h1=>h1.elim fun v3 h1=>h1.elim fun v4 hv=>?_
 rw [hv] at q
 injection q with q1 q
 injection q with q2 q
 injection q with q3 q
 injection q with q4 _
 subst q1;subst q2;subst q3;subst q4
 refine wpAny_assign_Tuple hh (items:=vs) ⟨_,e,rfl,n,rfl⟩ (by simp only [←Array.length_toList,hv];rfl) rfl fun h' hx'=>?_
 have R':=R.keeps (h':=h') fun b o e=>hx' b o (Nat.ne_of_lt (Heap.lt_size e)) e
 simp only [hv]
 show wpAny _ A (do holding [v2,v3,v4] (assign (.Name x px) fr.env v1);do holding [v3,v4] (assign (.Name y py) fr.env v2);do holding [v4] (assign (.Name z pz) fr.env v3);do holding [] (assign (.Name u pu) fr.env v4);pure ()) _ _ _
 have:=E0 (C:=C) (A:=A) (g:=g) (fr:=fr) (E:=E) (loc:=loc) (hp:=hp) (Q:=Q) (N2 (vs:=[v2,v3,v4]) (m:=assign (.Name x px) fr.env v1)
  (Q:=fun Z l p=>aw C A g fr E (do holding [v3,v4] (assign (.Name y py) fr.env v2);do holding [v4] (assign (.Name z pz) fr.env v3);do holding [] (assign (.Name u pu) fr.env v4);pure ()) l p Q)
  (F6 hx (E0 (N2 (F6 hy (E0 (N2 (F6 hz (E0 (N2 (F6 hu (N1 h))))))))))))
 exact this _ R' S
theorem Fs (hh:A.handled=none) {ow:Str→Bool} (F:P0 fr sc ow) {x y z u:Str} {px py pz pu tp pos:Pos} {k} {value:Expr} {Q:Flow→j0→HP→Prop}
  (hs:swapsWithSole [.Tuple [.Name x px,.Name y py,.Name z pz,.Name u pu] k tp] value pos.line fr.env=pure false)
  (hw:swappedStores [.Tuple [.Name x px,.Name y py,.Name z pz,.Name u pu] k tp] value (I8 sc)=pure none) (hx:M1 fr x) (hy:M1 fr y) (hz:M1 fr z) (hu:M1 fr u)
  (h:w0 C A g fr E (eval value fr.env) loc hp fun v l p=>∃ T a b c d,v=.ref T∧p T=some (.tuple [a,b,c,d])∧Q .next (N0 (N0 (N0 (N0 l x a) y b) z c) u d) p) :
  I0 C A g fr E (exec (.Assign [.Tuple [.Name x px,.Name y py,.Name z pz,.Name u pu] k tp] value pos) fr.env) loc hp Q:=by
 refine N3 (PySem.exec_Assign_arm ..) (E0 (U2 ?_))
 simp only [hs]
 refine E0 (N1 ?_)
 rw [if_neg (by decide)]
 refine E0 (Z0 h fun v l p hZ0=>e8 hZ0 fun T a b c d e hT hQ=>?_)
 rw [fX F,hw]
 refine E0 (N1 ?_)
 have:=Q0 e;subst this
 show aw C A g fr E (do assignAll (.ref T) [assign (.Tuple [.Name x px,.Name y py,.Name z pz,.Name u pu] k tp) fr.env];pure Flow.next) l p _
 exact E0 (show aw C A g fr E (assign (.Tuple [.Name x px,.Name y py,.Name z pz,.Name u pu] k tp) fr.env (.ref T)) l p _ from ER hh hT hx hy hz hu (N1 (a:=Flow.next) hQ))
end
theorem BM {C:Cx} (A3:O7 C) {A:Around} {g:Heap} {fr:Fm} {E:Value→Shared→Prop} {loc:j0} {hp:HP}:Kp C A g fr E (.ref 151) loc hp:=fun s R S=>by
 refine J2 (A3.K) fun K X Z A2=>?_
 refine aq (A2.obj) fun oc od cd sl e Z=>?_
 have hk:∀ b o,C.H₀.get? b=some o→s.heap.get? b=some o:=fun b o e=>R.keep _ _ (R.base _ _ e)
 have ho:=hk _ _ (X _ _ e)
 unfold keeperOf
 refine wpAny_bind (wpAny_load ho ?_)
 dsimp only
 refine wpAny_bind ((looks_specialIn (X.keeps hk) A2.call).here ?_)
 exact wpAny_pure ⟨S,loc,hp,R,rfl,rfl⟩
noncomputable def Z2 (role:Addr→Nat) (S:List Addr) (c:Nat):Addr→Nat:=fun b=>if b∈S then c else role b
theorem C7 {role:Addr→Nat} {S:List Addr} {c:Nat} {b:Addr} (h:b∈S):Z2 role S c b=c:=if_pos h
theorem E3 {role:Addr→Nat} {S:List Addr} {c:Nat} {b:Addr} (h:b∉S):Z2 role S c b=role b:=if_neg h
theorem J3 {p:HP} {S:List Addr} {b:Addr} (hS:∀ T∈S,p T=none) (h:p b≠none):b∉S:=fun q=>h (hS b q)
structure K9 (role:Addr→Nat) (Fix:HP) (lv ln fi la:Addr) (bts ets tts rts xts:List Addr):Prop where
 lv:role lv=1
 ln:role ln=2
 fi:role fi=3
 la:role la=4
 bts:∀ T∈bts,role T=5
 ets:∀ T∈ets,role T=6
 tts:∀ T∈tts,role T=7
 rts:∀ T∈rts,role T=8
 xts:∀ T∈xts,role T=9
 fix:∀ b o,Fix b=some o→role b=0
 t192:role 192=10
structure ng (Fix:HP) (bg en pl st th:Addr) (bts ets xts rts tts:List Addr) (full:Nat):Prop where
 bg:Fix bg=some (.list (bts.map .ref))
 en:Fix en=some (.list (ets.map .ref))
 pl:Fix pl=some (.list (xts.map .ref))
 st:Fix st=some (.list (rts.map .ref))
 th:Fix th=some (.list (tts.map .ref))
 lb:bts.length=full
 le:ets.length=full
 lx:xts.length=3*full - 2
 lr:rts.length=3*full - 2
 lt:tts.length=24
 nx:xts.Nodup
theorem m0.ne {p q:HP} (h:m0 p q) {b:Addr} (e:p b≠Option.none):q b≠Option.none:=fun w=>e (h.none w)
theorem R6 {p:HP} {S:List Addr} {b:Addr} (hS:∀ T∈S,p T≠none) (h:p b=none):b∉S:=fun q=>hS b q h
theorem Ad {p0 p1 p2 p3 p4 p5 p6 p7 p8 p9:HP} {bts ets xts rts tts:List Addr} {lv ln fi la:Addr} (s1:m0 p0 p1) (s2:m0 p1 p2) (s3:m0 p2 p3) (s4:m0 p3 p4) (s5:m0 p4 p5) (s6:m0 p5 p6) (s7:m0 p6 p7) (s8:m0 p7 p8)
  (f1:∀ T∈bts,p0 T=none) (f2:∀ T∈ets,p1 T=none) (f3:∀ T∈xts,p2 T=none) (f4:∀ T∈rts,p3 T=none) (f5:∀ T∈tts,p4 T=none) (f6:p5 lv=none) (f7:p6 ln=none) (f8:p7 fi=none) (f9:p8 la=none)
  (d1:∀ T∈bts,p1 T≠none) (d2:∀ T∈ets,p2 T≠none) (d3:∀ T∈xts,p3 T≠none) (d4:∀ T∈rts,p4 T≠none) (d5:∀ T∈tts,p5 T≠none) (d6:p6 lv≠none) (d7:p7 ln≠none) (d8:p8 fi≠none) (h192:p0 192≠none) :
  ∃ role Fix,K9 role Fix lv ln fi la bts ets tts rts xts∧m0 Fix p9∧(∀ b,b∉bts→b∉ets→b∉xts→b∉rts→b∉tts→b∉[lv]→b∉[ln]→b∉[fi]→b∉[la]→b≠192→Fix b=p9 b):=by
 have g6:∀ T∈[lv],p5 T=none:=fun T h=>by cases List.mem_singleton.mp h;exact f6
 have g7:∀ T∈[ln],p6 T=none:=fun T h=>by cases List.mem_singleton.mp h;exact f7
 have g8:∀ T∈[fi],p7 T=none:=fun T h=>by cases List.mem_singleton.mp h;exact f8
 have g9:∀ T∈[la],p8 T=none:=fun T h=>by cases List.mem_singleton.mp h;exact f9
 obtain ⟨role,hrole⟩:∃ role,role=Z2 (Z2 (Z2 (Z2 (Z2 (Z2 (Z2 (Z2 (Z2 (fun b=>if b=192 then 10 else 0) bts 5) ets 6) xts 9) rts 8) tts 7) [lv] 1) [ln] 2) [fi] 3) [la] 4:=⟨_,rfl⟩
 have c8:∀ b,p8 b≠none→b∉[la]:=fun b h=>J3 g9 h
 have c7:∀ b,p7 b≠none→b∉[la]∧b∉[fi]:=fun b h=>⟨c8 b (s8.ne h),J3 g8 h⟩
 have c6:∀ b,p6 b≠none→b∉[la]∧b∉[fi]∧b∉[ln]:=fun b h=>⟨(c7 b (s7.ne h)).1,(c7 b (s7.ne h)).2,J3 g7 h⟩
 have c5:∀ b,p5 b≠none→role b=Z2 (Z2 (Z2 (Z2 (Z2 (fun b=>if b=192 then 10 else 0) bts 5) ets 6) xts 9) rts 8) tts 7 b:=fun b h=>by
  refine V1 (c6 b (s6.ne h)) fun z1 z2 z3=>?_
  rw [hrole,E3 z1,E3 z2,E3 z3,E3 (J3 g6 h)]
 have c4:∀ b,p4 b≠none→role b=Z2 (Z2 (Z2 (Z2 (fun b=>if b=192 then 10 else 0) bts 5) ets 6) xts 9) rts 8 b:=fun b h=>by rw [c5 b (s5.ne h),E3 (J3 f5 h)]
 have c3:∀ b,p3 b≠none→role b=Z2 (Z2 (Z2 (fun b=>if b=192 then 10 else 0) bts 5) ets 6) xts 9 b:=fun b h=>by rw [c4 b (s4.ne h),E3 (J3 f4 h)]
 have c2:∀ b,p2 b≠none→role b=Z2 (Z2 (fun b=>if b=192 then 10 else 0) bts 5) ets 6 b:=fun b h=>by rw [c3 b (s3.ne h),E3 (J3 f3 h)]
 have c1:∀ b,p1 b≠none→role b=Z2 (fun b=>if b=192 then 10 else 0) bts 5 b:=fun b h=>by rw [c2 b (s2.ne h),E3 (J3 f2 h)]
 have c0:∀ b,p0 b≠none→role b=if b=192 then 10 else 0:=fun b h=>by rw [c1 b (s1.ne h),E3 (J3 f1 h)]
 refine ⟨role,fun b=>if role b=0 then p9 b else none,⟨?_,?_,?_,?_,fun T hT=>?_,fun T hT=>?_,fun T hT=>?_,fun T hT=>?_,fun T hT=>?_,fun b o e=>?_,?_⟩,fun b o e=>?_,fun b b1 b2 b3 b4 b5 b6 b7 b8 b9 b0=>?_⟩
 ·refine V1 (c6 lv d6) fun z1 z2 z3=>?_
  rw [hrole,E3 z1,E3 z2,E3 z3,C7 (.head _)]
 ·refine B0 (c7 ln d7) fun z1 z2=>?_
  rw [hrole,E3 z1,E3 z2,C7 (.head _)]
 ·rw [hrole,E3 (c8 fi d8),C7 (.head _)]
 ·rw [hrole,C7 (.head _)]
 ·rw [c1 T (d1 T hT),C7 hT]
 ·rw [c2 T (d2 T hT),C7 hT]
 ·rw [c5 T (d5 T hT),C7 hT]
 ·rw [c4 T (d4 T hT),C7 hT]
 ·rw [c3 T (d3 T hT),C7 hT]
 ·by_cases w:role b=0
  ·exact w
  ·rw [if_neg w] at e;exact J0 e
 ·rw [c0 192 h192];rfl
 ·dsimp only at e
  by_cases w:role b=0
  ·rwa [if_pos w] at e
  ·rw [if_neg w] at e;exact J0 e
 ·have:role b=0:=by
   rw [hrole,E3 b9,E3 b8,E3 b7,E3 b6,E3 b5,E3 b4,E3 b3,E3 b2,E3 b1,if_neg b0]
  exact if_pos this
theorem Aw {C:Cx} (W:G1 C) (A3:O7 C) {A:Around} {g:Heap} {fr:Fm} {E:Value→Shared→Prop} {loc:j0} {hp:HP} {Q:Flow→j0→HP→Prop} {full:Nat} {head:Int} (LA:G5 A fr)
  (l1:loc "fullest" = some (iv full)) (l2:loc "head" = some (iv head)) (hf:1≤full∧full≤10) {o192:AO} (h192:hp 192=some o192)
  (h:∀ loc' p role Fix bg en pl st th lv ln fi la bts ets xts rts tts,K9 role Fix lv ln fi la bts ets tts rts xts→m0 Fix p→(∀ b o,b≠192→hp b=some o→Fix b=some o)→p 192=some o192→ng Fix bg en pl st th bts ets xts rts tts full→
   Y0 p bg bts (List.replicate full [])→Y0 p en ets (List.replicate full [])→(∀ T∈xts,Y2 p T head [])→Y0 p st rts (List.replicate (3*full - 2) [])→Y0 p th tts (List.replicate 24 [])→p lv=some (.list [])→p ln=some (.list [])→p fi=some (.list [])→p la=some (.list [])→
   (∀ y v,loc y=some v→y∉(["begins","ends","piles","starts","there","levels","lines","firsts","lasts"]:List Str)→loc' y=some v)→
   loc' "begins" = some (.ref bg)→loc' "ends" = some (.ref en)→loc' "piles" = some (.ref pl)→loc' "starts" = some (.ref st)→loc' "there" = some (.ref th)→loc' "levels" = some (.ref lv)→loc' "lines" = some (.ref ln)→loc' "firsts" = some (.ref fi)→loc' "lasts" = some (.ref la)→
   I0 C A g fr E (execs ((M3 (G0 21)).drop 15) fr.env) loc' p Q) :
  I0 C A g fr E (execs ((M3 (G0 21)).drop 11) fr.env) loc hp Q:=by
 obtain ⟨F,hroom,hh,hfrm,hlf,hun,hcode,hqual⟩:=LA
 have hrange:=W.range
 have hacc:=W.gAcc
 refine Y1 ?_
 repeat' walk_at "kl"
 refine bY hh (by exact iB hf) fun bg bts p₁ hR1 hs1 hn1 hb1=>?_
 repeat' walk_at "kl"
 refine bY hh (by exact iB hf) fun en ets p₂ hR2 hs2 hn2 hb2=>?_
 repeat' walk_at "kl"
 refine ⟨by simp,fun T hT=>⟨T,_,_,rfl,s0 ..,?_⟩⟩
 repeat' walk_at "kl"
 refine dY (.of_left (by decide)) ?_
 repeat' walk_at "kl"
 refine k6 fun r hr=>DD (O0 0 (3*full - 2)) (fun v=>[iv v]) (fun p T=>Y2 p T head []) (fun p p' T h hs=>h.mono hs) (fun p T hZ0 q=>z0 hZ0 fun d e Z=>by rw [q] at e;exact J0 e) (j5 hh hr (by decide) (by exact tZ hf) ⟨rfl,by simp [O0];exact tY hf,fun Z Z=>trivial,?elt,?done⟩)
 case elt=>
  intro y hy g₃ fr₃ E₃ p₃ hF₃ hs₃
  dsimp only [W0,K0]
  repeat' walk_at "kl"
  intro f' ef
  have:=Q0 ef;subst this
  refine ⟨BM A3,Ek W A3 (by exact aV hroom) fun x p₄ hx hA hs=>?_⟩
  exact ⟨rfl,x,rfl,hx,hs,hA⟩
 case done=>
  intro pl xts p₃ hlx hndx hax hnx hs3 hpl
  repeat' walk_at "kl"
  refine dY (.of_left (by decide)) ?_
  repeat' walk_at "kl"
  simp only [show (3:Int)*full - 2=((3*full - 2:Nat):Int) by exact tX hf]
  refine bY hh (by exact tW hf) fun st rts p₄ hR4 hs4 hn4 hb4=>?_
  repeat' walk_at "kl"
  refine ⟨by simp,fun T2 hT2=>⟨T2,_,_,rfl,s0 ..,?_⟩⟩
  repeat' walk_at "kl"
  refine bY (n:=24) hh (by decide) fun th tts p₅ hR5 hs5 hn5 hb5=>?_
  repeat' walk_at "kl"
  refine Fs hh F (by with_unfolding_all rfl) (by with_unfolding_all rfl) ?sx ?sy ?sz ?su ?_
  case sx=>walk_at "sto"
  case sy=>walk_at "sto"
  case sz=>walk_at "sto"
  case su=>walk_at "sto"
  repeat' walk_at "kl"
  refine ⟨by exact Nat.zero_le _,fun lv hlv=>?_⟩
  repeat' walk_at "kl"
  refine ⟨by exact Nat.zero_le _,fun ln hln=>?_⟩
  repeat' walk_at "kl"
  refine ⟨by exact Nat.zero_le _,fun fi hfi=>?_⟩
  repeat' walk_at "kl"
  refine ⟨by exact Nat.zero_le _,fun la hla=>?_⟩
  repeat' walk_at "kl"
  refine ⟨by simp,fun T3 hT3=>⟨T3,_,_,_,_,rfl,s0 ..,?_⟩⟩
  have hrow:∀ {p:HP} {a:Addr} {ts:List Addr} {n:Nat},Y0 p a ts (List.replicate n [])→(∀ T∈ts,p T≠none)∧a∉ts∧p a=some (.list (ts.map .ref))∧ts.length=n:=fun h=>by
   refine ⟨fun T hT=>?_,fun hT=>?_,h.1,by rw [h.2.1,List.length_replicate]⟩
   ·refine o0 (List.mem_iff_getElem?.mp hT) fun k hk=>?_
    have hk':=(List.getElem?_eq_some_iff.mp hk).1
    have:=h.2.2.2 k T _ hk (List.getElem?_eq_getElem (by rw [←h.2.1];exact hk'))
    rw [this];simp
   ·refine o0 (List.mem_iff_getElem?.mp hT) fun k hk=>?_
    exact h.ne hk rfl
  refine P1 (hrow hR1) fun r1a r1b r1c r1d=>?_
  refine P1 (hrow hR2) fun r2a r2b r2c r2d=>?_
  refine P1 (hrow hR4) fun r4a r4b r4c r4d=>?_
  refine P1 (hrow hR5) fun r5a r5b r5c r5d=>?_
  clear hrow
  have hax':∀ U∈xts,k0 p₃ pl (.list (xts.map .ref)) U≠none:=fun U hU=>by
   refine z0 (hax U hU) fun d e Z=>?_
   rw [E1 hpl e];simp
  have sT:=m0.set (o:=.tuple [.ref bg,.ref en]) hT
  have spl:=m0.set (o:=.list (xts.map .ref)) hpl
  have sT2:=m0.set (o:=.tuple [.ref pl,.ref st]) hT2
  have slv:=m0.set (o:=.list []) hlv
  have sln:=m0.set (o:=.list []) hln
  have sfi:=m0.set (o:=.list []) hfi
  have sla:=m0.set (o:=.list []) hla
  have sT3:=m0.set (o:=.tuple [.ref lv,.ref ln,.ref fi,.ref la]) hT3
  have nlv:=s0 p₅ lv (.list [])
  have nln:=s0 (k0 p₅ lv (.list [])) ln (.list [])
  have nfi:=s0 (k0 (k0 p₅ lv (.list [])) ln (.list [])) fi (.list [])
  have nla:=s0 (k0 (k0 (k0 p₅ lv (.list [])) ln (.list [])) fi (.list [])) la (.list [])
  show I0 _ _ _ _ _ _ _ (k0 (k0 (k0 (k0 (k0 p₅ lv (.list [])) ln (.list [])) fi (.list [])) la (.list [])) T3 (.tuple [.ref lv,.ref ln,.ref fi,.ref la])) _
  generalize k0 (k0 (k0 (k0 (k0 p₅ lv (.list [])) ln (.list [])) fi (.list [])) la (.list [])) T3 (.tuple [.ref lv,.ref ln,.ref fi,.ref la])=p₁₀ at sT3 ⊢
  generalize k0 (k0 (k0 (k0 p₅ lv (.list [])) ln (.list [])) fi (.list [])) la (.list [])=p₉ at *
  generalize k0 (k0 (k0 p₅ lv (.list [])) ln (.list [])) fi (.list [])=p₈ at *
  generalize k0 (k0 p₅ lv (.list [])) ln (.list [])=p₇ at *
  generalize k0 p₅ lv (.list [])=p₆ at *
  have epl:=s0 p₃ pl (.list (xts.map .ref))
  have hax2:∀ U∈xts,Y2 (k0 p₃ pl (.list (xts.map .ref))) U head []:=fun U hU=>(hax U hU).mono spl
  have npl:∀ U∈xts,U≠pl:=fun U hU w=>by
   refine z0 (hax U hU) fun d e Z=>?_
   rw [w,hpl] at e;exact J0 e
  generalize k0 p₂ T (.tuple [.ref bg,.ref en])=q2 at *
  generalize k0 p₃ pl (.list (xts.map .ref))=q3 at *
  generalize k0 p₄ T2 (.tuple [.ref pl,.ref st])=q4 at *
  have s12:=hs2.trans sT
  have s23:m0 q2 q3:=hs3.trans spl
  have s34:=hs4.trans sT2
  refine eZ (Ad (p9:=p₁₀) hs1 s12 s23 s34 hs5 slv sln sfi hn1 hn2 hnx hn4 hn5 hlv hln hfi hla r1a (fun U hU=>sT.ne (r2a U hU)) hax' (fun U hU=>sT2.ne (r4a U hU)) r5a (by rw [nlv];decide) (by rw [nln];decide) (by rw [nfi];decide) (by rw [h192];simp)) fun role Fix LY sF hFix=>?_
  have t6:∀ {b:Addr},p₅ b≠none→b∉[lv]∧b∉[ln]∧b∉[fi]∧b∉[la]:=fun {b} hb=>by
   simp only [List.mem_singleton]
   exact ⟨fun w=>hb (w▸hlv),fun w=>slv.ne hb (w▸hln),fun w=>sln.ne (slv.ne hb) (w▸hfi),fun w=>sfi.ne (sln.ne (slv.ne hb)) (w▸hla)⟩
  have e192:∀ {b:Addr},hp b=none→b≠192:=fun {b} hb w=>by rw [w,h192] at hb;exact B5 hb
  have sub910:m0 p₅ p₁₀:=slv.trans (sln.trans (sfi.trans (sla.trans sT3)))
  have s15:m0 p₁ p₅:=s12.trans (s23.trans (s34.trans hs5))
  have s25:m0 q2 p₅:=s23.trans (s34.trans hs5)
  have s35:m0 q3 p₅:=s34.trans hs5
  have s45:m0 q4 p₅:=hs5
  -- the five lists
  have kbg:Fix bg=some (.list (bts.map .ref)):=by
   have a0:p₁ bg≠none:=by rw [r1c];simp
   refine P1 (t6 (s15.ne a0)) fun z1 z2 z3 z4=>?_
   rw [hFix bg r1b (J3 hn2 a0) (J3 hnx (s12.ne a0)) (J3 hn4 (s23.ne (s12.ne a0))) (J3 hn5 (s34.ne (s23.ne (s12.ne a0)))) z1 z2 z3 z4 (e192 hb1)]
   exact sub910 _ _ (s15 _ _ r1c)
  have ken:Fix en=some (.list (ets.map .ref)):=by
   have a0:q2 en≠none:=sT.ne (by rw [r2c];simp)
   refine P1 (t6 (s25.ne a0)) fun z1 z2 z3 z4=>?_
   rw [hFix en (R6 r1a hb2) r2b (J3 hnx a0) (J3 hn4 (s23.ne a0)) (J3 hn5 (s34.ne (s23.ne a0))) z1 z2 z3 z4 (e192 (hs1.none hb2))]
   exact sub910 _ _ (s25 _ _ (sT _ _ r2c))
  have kpl:Fix pl=some (.list (xts.map .ref)):=by
   have a0:q3 pl≠none:=by rw [epl];simp
   refine P1 (t6 (s35.ne a0)) fun z1 z2 z3 z4=>?_
   have n2:=hs3.none hpl
   rw [hFix pl (R6 (fun U hU=>s12.ne (r1a U hU)) n2) (R6 (fun U hU=>sT.ne (r2a U hU)) n2) (fun w=>npl _ w rfl) (J3 hn4 a0) (J3 hn5 (s34.ne a0)) z1 z2 z3 z4 (e192 (hs1.none (s12.none n2)))]
   exact sub910 _ _ (s35 _ _ epl)
  have kst:Fix st=some (.list (rts.map .ref)):=by
   have a0:q4 st≠none:=sT2.ne (by rw [r4c];simp)
   refine P1 (t6 (s45.ne a0)) fun z1 z2 z3 z4=>?_
   have n2:=s23.none hb4
   rw [hFix st (R6 (fun U hU=>s12.ne (r1a U hU)) n2) (R6 (fun U hU=>sT.ne (r2a U hU)) n2) (R6 hax' hb4) r4b (J3 hn5 a0) z1 z2 z3 z4 (e192 (hs1.none (s12.none n2)))]
   exact sub910 _ _ (s45 _ _ (sT2 _ _ r4c))
  have kth:Fix th=some (.list (tts.map .ref)):=by
   have a0:p₅ th≠none:=by rw [r5c];simp
   refine P1 (t6 a0) fun z1 z2 z3 z4=>?_
   have n3:=s34.none hb5
   have n2:=s23.none n3
   rw [hFix th (R6 (fun U hU=>s12.ne (r1a U hU)) n2) (R6 (fun U hU=>sT.ne (r2a U hU)) n2) (R6 hax' n3) (R6 (fun U hU=>sT2.ne (r4a U hU)) hb5) r5b z1 z2 z3 z4 (e192 (hs1.none (s12.none n2)))]
   exact sub910 _ _ r5c
  have khp:∀ b o,b≠192→hp b=some o→Fix b=some o:=fun b o hb e=>by
   have a0:hp b≠none:=by rw [e];simp
   have a1:=hs1.ne a0
   refine P1 (t6 (s15.ne a1)) fun z1 z2 z3 z4=>?_
   rw [hFix b (J3 hn1 a0) (J3 hn2 a1) (J3 hnx (s12.ne a1)) (J3 hn4 (s23.ne (s12.ne a1))) (J3 hn5 (s34.ne (s23.ne (s12.ne a1)))) z1 z2 z3 z4 hb]
   exact sub910 _ _ (s15 _ _ (hs1 _ _ e))
  refine h _ p₁₀ role Fix bg en pl st th lv ln fi la bts ets xts rts tts LY sF khp (sub910 _ _ (s15 _ _ (hs1 _ _ h192))) ⟨kbg,ken,kpl,kst,kth,r1d,r2d,by rw [hlx];simp [O0];exact tV,r4d,r5d,hndx⟩ (hR1.mono (s15.trans sub910)) (hR2.mono (sT.trans (s25.trans sub910))) (fun U hU=>(hax2 U hU).mono (s35.trans sub910)) (hR4.mono (sT2.trans (s45.trans sub910))) (hR5.mono sub910)
   (sT3 _ _ (sla _ _ (sfi _ _ (sln _ _ nlv)))) (sT3 _ _ (sla _ _ (sfi _ _ nln))) (sT3 _ _ (sla _ _ nfi)) (sT3 _ _ nla) (fun y v e hy=>?_) ?_ ?_ ?_ ?_ ?_ ?_ ?_ ?_ ?_
  ·simp only [List.mem_cons,not_or] at hy
   refine cn hy fun y1 y2 y3 y4 y5 y6 y7 zr0=>V1 zr0 fun y8 y9 Z=>?_;try clear hy
   exact I4 y9 (I4 y8 (I4 y7 (I4 y6 (I4 y5 (I4 y4 (I4 y3 (I4 y2 (I4 y1 e))))))))
  all_goals walk_at "loc"
end
section
noncomputable def W1 (lo hi L:Nat→Nat) (n a k:Nat):Nat:=(List.range n).countP fun j=>decide (lo j≤a∧a < hi j∧L j≤k)
noncomputable def R2 (lo hi:Nat→Nat) (n a:Nat):Nat:=(List.range n).countP fun j=>decide (lo j≤a∧a < hi j)
theorem H7 {lo hi L:Nat→Nat} {n a k:Nat}:W1 lo hi L (n+1) a k=W1 lo hi L n a k+if lo n≤a∧a < hi n∧L n≤k then 1 else 0:=by
 unfold W1
 simp only [List.range_succ,List.countP_append]
 congr 1
 simp [List.countP_cons]
theorem cw {lo hi:Nat→Nat} {n a:Nat}:R2 lo hi (n+1) a=R2 lo hi n a+if lo n≤a∧a < hi n then 1 else 0:=by
 unfold R2
 simp only [List.range_succ,List.countP_append]
 congr 1
 simp [List.countP_cons]
theorem aA {lo hi L L':Nat→Nat} {n a k:Nat} (h:∀ j,j < n→L j=L' j):W1 lo hi L n a k=W1 lo hi L' n a k:=by
 unfold W1
 exact List.countP_congr fun j hj=>by rw [h j (List.mem_range.mp hj)]
theorem mi {lo hi L:Nat→Nat} {n m a k:Nat} (h:n≤m):W1 lo hi L n a k≤W1 lo hi L m a k:=by
 induction m with
 | zero=>rw [Nat.le_zero.mp h];exact Nat.le_refl _
 | succ m ih=>
  rcases Nat.lt_or_ge n (m+1) with q | q
  ·rw [H7];have:=ih (by exact bn q);exact iA this
  ·rw [show n=m+1 by exact iz h q];exact Nat.le_refl _
theorem Dt {lo hi:Nat→Nat} {n m a:Nat} (h:n≤m):R2 lo hi n a≤R2 lo hi m a:=by
 induction m with
 | zero=>rw [Nat.le_zero.mp h];exact Nat.le_refl _
 | succ m ih=>
  rcases Nat.lt_or_ge n (m+1) with q | q
  ·rw [cw];have:=ih (by exact bn q);exact iA this
  ·rw [show n=m+1 by exact iz h q];exact Nat.le_refl _
theorem DP {lo hi L:Nat→Nat} {n a k:Nat}:W1 lo hi L n a k≤R2 lo hi n a:=by
 induction n with
 | zero=>exact Nat.le_refl _
 | succ n ih=>
  simp only [H7,cw]
  by_cases q:lo n≤a∧a < hi n∧L n≤k
  ·rw [if_pos q,if_pos ⟨q.1,q.2.1⟩];exact dB ih
  ·rw [if_neg q];exact tS ih
theorem DO {lo hi L:Nat→Nat} {n a k j:Nat} (hj:j < n) (h1:lo j≤a) (h2:a < hi j) (hL:L j=k+1):W1 lo hi L n a k+1≤W1 lo hi L n a (k+1):=by
 induction n with
 | zero=>exact tR hj
 | succ n ih=>
  have hm:∀ m,W1 lo hi L m a k≤W1 lo hi L m a (k+1):=fun m=>by
   unfold W1
   refine List.countP_mono_left fun j Z h=>?_
   simp only [decide_eq_true_eq] at h ⊢
   exact dt h
  simp only [H7,H7]
  by_cases q:j=n
  ·subst q
   rw [if_neg (by exact iy hL),if_pos (by exact ix h1 h2 hL)]
   have:=hm j
   exact tQ this
  ·have:=ih (by exact tP hj q)
   by_cases q1:lo n≤a∧a < hi n∧L n≤k
   ·rw [if_pos q1,if_pos (by exact dt q1)];exact iN this
   ·rw [if_neg q1];exact tO this
structure L5 (lo hi L:Nat→Nat) (n:Nat):Prop where
 fit:∀ i,i < n→∀ a,lo i≤a→a < hi i→W1 lo hi L i a (L i)≤L i
 low:∀ i,i < n→∀ k,k < L i→∃ a,lo i≤a∧a < hi i∧k < W1 lo hi L i a k
theorem L5.congr {lo hi L L':Nat→Nat} {n:Nat} (h:L5 lo hi L n) (e:∀ j,j < n→L j=L' j):L5 lo hi L' n where
 fit:=fun i hi' a h1 h2=>by
  have:=h.fit i hi' a h1 h2
  rw [aA fun j hj=>e j (by exact z8 hi' hj),e i hi'] at this
  exact this
 low:=fun i hi' k hk=>by
  refine J2 (h.low i hi' k (by rw [e i hi'];exact hk)) fun a h1 h2 h3=>?_
  rw [aA fun j hj=>e j (by exact z8 hi' hj)] at h3
  exact ⟨a,h1,h2,h3⟩
theorem L5.priv {lo hi L:Nat→Nat} {n:Nat} (h:L5 lo hi L n) {i:Nat} (hin:i < n) (hL:1≤L i):∃ a,lo i≤a∧a < hi i∧∀ j,j < n→j≠i→L j=L i→¬(lo j≤a∧a < hi j):=by
 obtain ⟨k,hk⟩:∃ k,L i=k+1:=⟨L i - 1,by exact tN hL⟩
 refine J2 (h.low i hin k (by exact k9 hk)) fun a h1 h2 h3=>?_
 refine ⟨a,h1,h2,fun j hj hne hjL hZ0=>B0 hZ0 fun q1 q2=>?_⟩
 rcases Nat.lt_or_ge j i with q | q
 ·have e1:=DO (lo:=lo) (hi:=hi) (L:=L) (n:=i) (a:=a) (k:=k) q q1 q2 (by exact tM hk hjL)
  have e2:=h.fit i hin a h1 h2
  rw [hk] at e2
  exact tL e1 h3 e2
 ·have e0:W1 lo hi L i a (k+1)≥W1 lo hi L i a k:=by
   unfold W1
   refine List.countP_mono_left fun j Z h=>?_
   simp only [decide_eq_true_eq] at h ⊢
   exact dt h
  have e1:W1 lo hi L (i+1) a (k+1)=W1 lo hi L i a (k+1)+1:=by rw [H7,if_pos (by exact ix h1 h2 hk)]
  have e2:W1 lo hi L (i+1) a (k+1)≤W1 lo hi L j a (k+1):=mi (by exact iw q hne)
  have e3:=h.fit j hj a q1 q2
  rw [hjL,hk] at e3
  exact tK h3 e3 e2 e0 e1
theorem L5.zero {lo hi L:Nat→Nat} {n:Nat} (h:L5 lo hi L n) {i j:Nat} (hij:i < j) (hj:j < n) (hi0:L i=0) (hj0:L j=0) {a:Nat} (h1:lo i≤a) (h2:a < hi i):¬(lo j≤a∧a < hi j):=fun hZ0=>B0 hZ0 fun q1 q2=>by
 have e:=h.fit j hj a q1 q2
 have e1:W1 lo hi L (i+1) a (L j)=W1 lo hi L i a (L j)+1:=by rw [H7,if_pos (by exact tJ h1 h2 hi0)]
 have e2:W1 lo hi L (i+1) a (L j)≤W1 lo hi L j a (L j):=mi (by exact q5 hij)
 exact tI hj0 e e2 e1
theorem L5.three {lo hi L:Nat→Nat} {n:Nat} (h:L5 lo hi L n) {i x y z:Nat} (hin:i < n) (hx:x < n) (hy:y < n) (hz:z < n) (hL:1≤L i) (ex:L x=L i) (ey:L y=L i) (ez:L z=L i)
  (nx:x≠i) (ny:y≠i) (nz:z≠i) (nxy:x≠y) (nxz:x≠z) (nyz:y≠z) (mx:lo x < hi i∧lo i < hi x) (my:lo y < hi i∧lo i < hi y) (mz:lo z < hi i∧lo i < hi z):False:=by
 refine J2 (h.priv hx (by exact dq hL ex)) fun a a1 a2 a3=>?_
 refine J2 (h.priv hy (by exact dq hL ey)) fun b b1 b2 b3=>?_
 refine J2 (h.priv hz (by exact dq hL ez)) fun c c1 c2 c3=>?_
 have p1:=a3 i hin (Ne.symm nx) (by exact aW ex)
 have p2:=a3 y hy (Ne.symm nxy) (by exact d9 ey ex)
 have p3:=a3 z hz (Ne.symm nxz) (by exact d9 ez ex)
 have q1:=b3 i hin (Ne.symm ny) (by exact aW ey)
 have q2:=b3 x hx nxy (by exact d9 ex ey)
 have q3:=b3 z hz (Ne.symm nyz) (by exact d9 ez ey)
 have r1:=c3 i hin (Ne.symm nz) (by exact aW ez)
 have r2:=c3 x hx nxz (by exact d9 ex ez)
 have r3:=c3 y hy nyz (by exact d9 ey ez)
 clear a3 b3 c3
 exact tH a2 a1 b2 q2 b1 p2 c2 r2 r3 c1 p3 q3 mx my mz p1 q1 r1
theorem L5.next {lo hi L:Nat→Nat} {n:Nat} (h:L5 lo hi L n) (fit:∀ a,lo n≤a→a < hi n→W1 lo hi L n a (L n)≤L n) (low:∀ k,k < L n→∃ a,lo n≤a∧a < hi n∧k < W1 lo hi L n a k):L5 lo hi L (n+1) where
 fit:=fun i hi'=>by
  rcases Nat.lt_or_ge i n with q | q
  ·exact h.fit i q
  ·rw [show i=n by exact q2 hi' q];exact fit
 low:=fun i hi'=>by
  rcases Nat.lt_or_ge i n with q | q
  ·exact h.low i q
  ·rw [show i=n by exact q2 hi' q];exact low
theorem CR {lo hi L:Nat→Nat} {n N F:Nat} (hn:n < N) (hF:∀ a,R2 lo hi N a≤F) (hF0:1≤F) (a:Nat) (h1:lo n≤a) (h2:a < hi n):W1 lo hi L n a (F - 1)≤F - 1:=by
 have e1:R2 lo hi (n+1) a=R2 lo hi n a+1:=by rw [cw,if_pos ⟨h1,h2⟩]
 have e2:R2 lo hi (n+1) a≤R2 lo hi N a:=Dt hn
 have e3:=hF a
 have e4:W1 lo hi L n a (F - 1)≤R2 lo hi n a:=DP
 exact tG e3 e2 e4 e1
end
section
noncomputable def r0 (ps:List (Nat × Nat)) (i:Nat):Nat:=(ps.getD i (0,0)).1
noncomputable def A0 (ps:List (Nat × Nat)) (i:Nat):Nat:=(ps.getD i (0,0)).2
noncomputable def LN (Ls:List Nat) (j:Nat):Nat:=Ls.getD j 0
theorem o3 {Ls:List Nat} {k j:Nat} (h:j < Ls.length):LN (Ls++[k]) j=LN Ls j:=by
 unfold LN;simp only [List.getD_eq_getElem?_getD,List.getElem?_append_left h,List.getD_eq_getElem?_getD]
theorem P4 {Ls:List Nat} {k:Nat}:LN (Ls++[k]) Ls.length=k:=by
 unfold LN;rw [List.getD_eq_getElem?_getD,List.getElem?_append_right (Nat.le_refl _)];simp
structure T5 (ps:List (Nat × Nat)) (Ls:List Nat) (full:Nat) (bss ess:List (List Int)):Prop where
 lb:bss.length=full
 le:ess.length=full
 sb:∀ r∈bss,r.Pairwise (·≤·)
 se:∀ r∈ess,r.Pairwise (·≤·)
 cb:∀ k,k < full→∀ q:Int→Bool,(bss.getD k []).countP q=(List.range Ls.length).countP fun j=>decide (LN Ls j=k) && q (r0 ps j)
 ce:∀ k,k < full→∀ q:Int→Bool,(ess.getD k []).countP q=(List.range Ls.length).countP fun j=>decide (LN Ls j=k) && q (A0 ps j)
theorem T5.zero {ps:List (Nat × Nat)} {full:Nat}:T5 ps [] full (List.replicate full []) (List.replicate full []) where
 lb:=by exact List.length_replicate ..
 le:=by exact List.length_replicate ..
 sb:=fun r hr=>by rw [List.eq_of_mem_replicate hr];exact .nil
 se:=fun r hr=>by rw [List.eq_of_mem_replicate hr];exact .nil
 cb:=fun k hk q=>by rw [List.getD_eq_getElem?_getD,List.getElem?_replicate,if_pos hk];rfl
 ce:=fun k hk q=>by rw [List.getD_eq_getElem?_getD,List.getElem?_replicate,if_pos hk];rfl
theorem T5.len {ps:List (Nat × Nat)} {Ls:List Nat} {full:Nat} {bss ess:List (List Int)} (h:T5 ps Ls full bss ess):(∀ r∈bss,r.length≤Ls.length)∧∀ r∈ess,r.length≤Ls.length:=by
 refine ⟨fun r hr=>?_,fun r hr=>?_⟩
 ·refine o0 (List.mem_iff_getElem?.mp hr) fun k hk=>?_
  have hk':=(List.getElem?_eq_some_iff.mp hk).1
  have:=h.cb k (by rw [←h.lb];exact hk') fun Z=>true
  rw [List.getD_eq_getElem?_getD,hk] at this
  simp only [Option.getD_some] at this
  rw [show r.length=r.countP fun Z=>true by simp,this]
  refine Nat.le_trans List.countP_le_length (by simp)
 ·refine o0 (List.mem_iff_getElem?.mp hr) fun k hk=>?_
  have hk':=(List.getElem?_eq_some_iff.mp hk).1
  have:=h.ce k (by rw [←h.le];exact hk') fun Z=>true
  rw [List.getD_eq_getElem?_getD,hk] at this
  simp only [Option.getD_some] at this
  rw [show r.length=r.countP fun Z=>true by simp,this]
  refine Nat.le_trans List.countP_le_length (by simp)
theorem cx {lo hi L:Nat→Nat} (hlt:∀ j,lo j≤hi j) (a k:Nat):∀ n,(((List.range n).countP fun j=>decide (L j=k) && decide ((lo j:Int) < (a:Int)+1):Nat):Int) - ((List.range n).countP fun j=>decide (L j=k) && decide ((hi j:Int)≤(a:Int)):Nat)=((List.range n).countP fun j=>decide (L j=k∧lo j≤a∧a < hi j):Nat)
 | 0=>rfl
 | n+1=>by
  have ih:=cx (L:=L) hlt a k n
  have h:=hlt n
  simp only [List.range_succ,List.countP_append,List.countP_append,List.countP_append]
  simp only [List.countP_cons,List.countP_nil]
  by_cases h1:L n=k
  ·by_cases h2:lo n≤a
   ·by_cases h3:a < hi n
    ·rw [if_pos (by simp [h1];exact iu h2),if_neg (by simp [h1];exact q5 h3),if_pos (by simp [h1];exact tF h2 h3)];exact tE ih
    ·rw [if_pos (by simp [h1];exact iu h2),if_pos (by simp [h1];exact tD h3),if_neg (by simp;exact tC h3)];exact tB ih
   ·rw [if_neg (by simp [h1];exact ty h2),if_neg (by simp [h1];exact tx h h2),if_neg (by simp;exact tw h2)];exact ir ih
  ·rw [if_neg (by simp [h1]),if_neg (by simp [h1]),if_neg (by simp [h1])];exact ir ih
theorem mh {lo hi L:Nat→Nat} {a k:Nat}:∀ n,W1 lo hi L n a (k+1)=W1 lo hi L n a k+(List.range n).countP fun j=>decide (L j=k+1∧lo j≤a∧a < hi j)
 | 0=>rfl
 | n+1=>by
  simp only [H7,H7,mh n,List.range_succ,List.countP_append]
  simp only [List.countP_cons,List.countP_nil]
  by_cases h1:lo n≤a∧a < hi n
  ·by_cases h2:L n≤k
   ·rw [if_pos (by exact tu h1 h2),if_pos (by exact iq h1 h2),if_neg (by simp;exact tr h2)];exact to
   ·by_cases h3:L n=k+1
    ·rw [if_pos (by exact tn h1 h3),if_neg (by exact iy h3),if_pos (by simp;exact tm h3 h1)];exact tl
    ·rw [if_neg (by exact td h3 h2),if_neg (by exact ip h2),if_neg (by simp;exact tc h3)];exact io
  ·rw [if_neg (by exact ta h1),if_neg (by exact im h1),if_neg (by simp;exact sZ h1)];exact io
theorem DN {lo hi L:Nat→Nat} {a n:Nat}:W1 lo hi L n a 0=(List.range n).countP fun j=>decide (L j=0∧lo j≤a∧a < hi j):=by
 unfold W1
 refine List.countP_congr fun j Z=>?_
 simp only [decide_eq_true_eq]
 exact sY
theorem T5.cov {ps:List (Nat × Nat)} {Ls:List Nat} {full:Nat} {bss ess:List (List Int)} (h:T5 ps Ls full bss ess) (hlt:∀ j,r0 ps j≤A0 ps j) (a:Nat):∀ k,k < full→C6 bss ess (k+1) a=(W1 (r0 ps) (A0 ps) (LN Ls) Ls.length a k:Nat)
 | 0,hk=>by
  show (0:Int)+((j3 (bss.getD 0 []) (a+1):Int) - C2 (ess.getD 0 []) a)=_
  delta j3 C2
  simp only [h.cb 0 hk,h.ce 0 hk,DN,cx hlt a 0];exact il
 | k+1,hk=>by
  have ih:=h.cov hlt a k (by exact S7 hk)
  show Mine.C6 bss ess (k+1) a+((j3 (bss.getD (k+1) []) (a+1):Int) - C2 (ess.getD (k+1) []) a)=_
  simp only [ih]
  delta j3 C2
  simp only [h.cb (k+1) hk,h.ce (k+1) hk,mh,cx hlt a (k+1)];exact ik
noncomputable def G4 (ps:List (Nat × Nat)) (Ls:List Nat) (k:Nat):Prop:=∀ a,r0 ps Ls.length≤a→a < A0 ps Ls.length→W1 (r0 ps) (A0 ps) (LN Ls) Ls.length a k≤k
theorem T5.fits {ps:List (Nat × Nat)} {Ls:List Nat} {full:Nat} {bss ess:List (List Int)} (h:T5 ps Ls full bss ess) (hlt:∀ j,r0 ps j≤A0 ps j) {k:Nat} (hk:k < full):T8 bss ess (r0 ps Ls.length) (A0 ps Ls.length) k↔G4 ps Ls k:=by
 delta T8 G4
 constructor
 ·intro q a h1 h2
  have:=q a h1 h2
  rw [h.cov hlt a k hk] at this;exact dG this
 ·intro q a h1 h2
  rw [h.cov hlt a k hk]
  have:=q a h1 h2;exact bu this
theorem kR {xs:List Int} {k:Nat} {x:Int} {q:Int→Bool}:(S3 xs k x).countP q=xs.countP q+if q x then 1 else 0:=by
 unfold S3
 simp only [List.countP_append,List.countP_cons]
 have:xs.countP q=(xs.take k).countP q+(xs.drop k).countP q:=by rw [←List.countP_append,List.take_append_drop]
 exact sX this
theorem cV {xs:List Int} (hs:xs.Pairwise (·≤·)) {p:Int→Bool} (hp:∀ a b,a≤b→p b=true→p a=true):(∀ y∈xs.take (xs.countP p),p y=true)∧∀ y∈xs.drop (xs.countP p),p y=false:=by
 induction xs with
 | nil=>exact ⟨fun y h=>by simp at h,fun y h=>by simp at h⟩
 | cons x xs ih=>
  refine B0 (List.pairwise_cons.mp hs) fun h1 h2=>?_
  refine B0 (ih h2) fun i1 i2=>?_
  rw [List.countP_cons]
  by_cases q:p x=true
  ·rw [if_pos q,List.take_succ_cons,List.drop_succ_cons]
   exact ⟨fun y hy=>by
    rcases List.mem_cons.mp hy with rfl | hy
    ·exact q
    ·exact i1 y hy,i2⟩
  ·have hz:xs.countP p=0:=by
    rw [List.countP_eq_zero]
    exact fun y hy w=>q (hp x y (h1 y hy) w)
   rw [if_neg q,hz]
   refine ⟨fun y hy=>by simp at hy,fun y hy=>?_⟩
   simp only [Nat.add_zero,List.drop_zero] at hy
   rcases List.mem_cons.mp hy with rfl | hy
   ·simpa using q
   ·have:=List.countP_eq_zero.mp hz y hy
    simpa using this
theorem kQ {xs:List Int} (hs:xs.Pairwise (·≤·)) {x:Int} {p:Int→Bool} (hp:∀ a b,a≤b→p b=true→p a=true) (h1:∀ y,p y=true→y≤x) (h2:∀ y,p y=false→x≤y):(S3 xs (xs.countP p) x).Pairwise (·≤·):=by
 refine B0 (cV hs hp) fun a b=>?_
 unfold S3
 have hs':(xs.take (xs.countP p)++xs.drop (xs.countP p)).Pairwise (·≤·):=by rw [List.take_append_drop];exact hs
 refine V1 (List.pairwise_append.mp hs') fun s1 s2 s3=>?_
 refine List.pairwise_append.mpr ⟨s1,List.pairwise_cons.mpr ⟨fun y hy=>h2 y (b y hy),s2⟩,fun u hu v hv=>?_⟩
 rcases List.mem_cons.mp hv with rfl | hv
 ·exact h1 u (a u hu)
 ·exact s3 u hu v hv
theorem lR {Ls:List Nat} {k k':Nat} {g:Nat→Nat} {q:Int→Bool}:((List.range (Ls++[k]).length).countP fun j=>decide (LN (Ls++[k]) j=k') && q (g j))=((List.range Ls.length).countP fun j=>decide (LN Ls j=k') && q (g j))+if k=k' then (if q (g Ls.length) then 1 else 0) else 0:=by
 simp only [List.length_append,List.length_singleton,List.range_succ,List.countP_append]
 congr 1
 ·exact List.countP_congr fun j hj=>by rw [o3 (List.mem_range.mp hj)]
 ·simp only [List.countP_cons,List.countP_nil]
  rw [P4]
  by_cases h1:k=k'
  ·rw [if_pos h1];simp [h1]
  ·rw [if_neg h1];simp [h1]
theorem eO {rows:List (List Int)} {k j:Nat} {r:List Int} (hj:j < rows.length):(rows.set k r).getD j []=if k=j then r else rows.getD j []:=by
 rw [List.getD_eq_getElem?_getD,List.getElem?_set]
 by_cases h:k=j
 ·subst h;rw [if_pos rfl,if_pos hj,if_pos rfl];rfl
 ·rw [if_neg h,if_neg h,List.getD_eq_getElem?_getD]
theorem T5.step {ps:List (Nat × Nat)} {Ls:List Nat} {full:Nat} {bss ess:List (List Int)} (h:T5 ps Ls full bss ess) {k:Nat} (hk:k < full) :
  T5 ps (Ls++[k]) full (bss.set k (S3 (bss.getD k []) (j3 (bss.getD k []) (r0 ps Ls.length)) (r0 ps Ls.length))) (ess.set k (S3 (ess.getD k []) (C2 (ess.getD k []) (A0 ps Ls.length)) (A0 ps Ls.length))) where
 lb:=by rw [List.length_set];exact h.lb
 le:=by rw [List.length_set];exact h.le
 sb:=fun r hr=>by
  rcases List.mem_or_eq_of_mem_set hr with hr | rfl
  ·exact h.sb r hr
  ·exact kQ (h.sb _ (Y7 (by rw [h.lb];exact hk))) (fun a b h1 h2=>by simp at h2 ⊢;exact ij h2 h1) (fun y hy=>by simp at hy;exact sW hy) fun y hy=>by simp at hy;exact sV hy
 se:=fun r hr=>by
  rcases List.mem_or_eq_of_mem_set hr with hr | rfl
  ·exact h.se r hr
  ·exact kQ (h.se _ (Y7 (by rw [h.le];exact hk))) (fun a b h1 h2=>by simp at h2 ⊢;exact bq h2 h1) (fun y hy=>by simp at hy;exact sU hy) fun y hy=>by simp at hy;exact sS hy
 cb:=fun j hj q=>by
  (simp only [eO (by rw [h.lb];exact hj),lR,←h.cb j hj q])
  by_cases w:k=j
  ·subst w;rw [if_pos rfl,if_pos rfl,kR]
  ·rw [if_neg w,if_neg w];rfl
 ce:=fun j hj q=>by
  (simp only [eO (by rw [h.le];exact hj),lR,←h.ce j hj q])
  by_cases w:k=j
  ·subst w;rw [if_pos rfl,if_pos rfl,kR]
  ·rw [if_neg w,if_neg w];rfl
structure o6 (ps:List (Nat × Nat)) (Ls:List Nat) (rows:List (List Int)):Prop where
 len:rows.length=24
 cnt:∀ a,a < 24→∀ k:Nat,j6 (rows.getD a []) k=W1 (r0 ps) (A0 ps) (LN Ls) Ls.length a k
 size:∀ a,a < 24→(rows.getD a []).length=R2 (r0 ps) (A0 ps) Ls.length a
theorem o6.zero {ps:List (Nat × Nat)}:o6 ps [] (List.replicate 24 []) where
 len:=by rfl
 cnt:=fun a ha k=>by rw [List.getD_eq_getElem?_getD,List.getElem?_replicate,if_pos ha];rfl
 size:=fun a ha=>by rw [List.getD_eq_getElem?_getD,List.getElem?_replicate,if_pos ha];rfl
theorem o6.fits {ps:List (Nat × Nat)} {Ls:List Nat} {rows:List (List Int)} (h:o6 ps Ls rows) (hhi:A0 ps Ls.length≤24) {k:Nat}:U8 rows (r0 ps Ls.length) (A0 ps Ls.length) k↔G4 ps Ls k:=by
 delta U8 G4
 constructor
 ·intro q a h1 h2
  have:=q a h1 h2
  rwa [h.cnt a (by exact ii hhi h2)] at this
 ·intro q a h1 h2
  rw [h.cnt a (by exact ii hhi h2)]
  exact q a h1 h2
theorem o6.sizes {ps:List (Nat × Nat)} {Ls:List Nat} {rows:List (List Int)} (h:o6 ps Ls rows):∀ r∈rows,r.length≤Ls.length:=fun r hr=>by
 refine o0 (List.mem_iff_getElem?.mp hr) fun a ha=>?_
 have ha':=(List.getElem?_eq_some_iff.mp ha).1
 have:=h.size a (by rw [←h.len];exact ha')
 rw [List.getD_eq_getElem?_getD,ha] at this
 simp only [Option.getD_some] at this
 rw [this]
 unfold R2
 exact Nat.le_trans List.countP_le_length (by simp)
theorem o6.step {ps:List (Nat × Nat)} {Ls:List Nat} {rows:List (List Int)} (h:o6 ps Ls rows) (k:Nat):o6 ps (Ls++[k]) (F5 rows (r0 ps Ls.length) (A0 ps Ls.length) k):=by
 have hg:∀ a,a < 24→(F5 rows (r0 ps Ls.length) (A0 ps Ls.length) k).getD a []=if r0 ps Ls.length≤a∧a < A0 ps Ls.length then rows.getD a []++[(k:Int)] else rows.getD a []:=fun a ha=>by
  unfold F5
  rw [List.getD_eq_getElem?_getD,List.getElem?_mapIdx,List.getD_eq_getElem?_getD,List.getElem?_eq_getElem (by rw [h.len];exact ha)]
  rfl
 have hc:∀ a j,W1 (r0 ps) (A0 ps) (LN (Ls++[k])) (Ls++[k]).length a j=W1 (r0 ps) (A0 ps) (LN Ls) Ls.length a j+if r0 ps Ls.length≤a∧a < A0 ps Ls.length∧k≤j then 1 else 0:=fun a j=>by
  simp only [List.length_append,List.length_singleton,H7,P4,aA fun j hj=>o3 hj]
 refine ⟨by rw [cJ];exact h.len,fun a ha j=>?_,fun a ha=>?_⟩
 ·simp only [hg a ha,hc]
  by_cases w:r0 ps Ls.length≤a∧a < A0 ps Ls.length
  ·rw [if_pos w]
   unfold j6
   simp only [List.countP_append]
   have:=h.cnt a ha j
   unfold j6 at this
   simp only [this]
   congr 1
   simp only [List.countP_cons,List.countP_nil]
   by_cases z:k≤j
   ·rw [if_pos (by simp;exact dP z),if_pos (by exact iq w z)]
   ·rw [if_neg (by simp;exact sR z),if_neg (by exact ip z)]
  ·rw [if_neg w,if_neg (by exact im w)];exact h.cnt a ha j
 ·simp only [hg a ha,List.length_append,List.length_singleton,cw]
  by_cases w:r0 ps Ls.length≤a∧a < A0 ps Ls.length
  ·simp only [if_pos w,if_pos w,List.length_append,h.size a ha];rfl
  ·rw [if_neg w,if_neg w];exact h.size a ha
end
section
open PySem.StrLaws
noncomputable def U6:List (List Nat)→List Nat
 | []=>[]
 | [w]=>w
 | w::v::r=>w++([44,32]++U6 (v::r))
theorem gh:(", ":Str).cps.toList=[44,32]:=by decide +kernel
theorem aM:(", ":Str).length=2:=by decide +kernel
theorem fC {x:Str} {k:Nat}:At x ", " x.length k↔(x.cps.toList.drop k).take 2=[44,32]:=by
 unfold At
 rw [subAt_eq,aM,gh]
 constructor
 ·intro hZ0;refine B0 hZ0 fun Z h=>?_;clear hZ0;exact eq_of_beq h
 ·intro h
  refine ⟨?_,by rw [h];rfl⟩
  have:=congrArg List.length h
  rw [List.length_take,List.length_drop,Array.length_toList] at this
  have e:x.length=x.cps.size:=rfl
  simp at this
  exact sQ e this
theorem jD {x:Str}:∀ (W:List (List Nat)) (cuts:List Nat) (a f:Nat),W≠[]→(∀ w∈W,44∉w)→a≤x.length→x.cps.toList.drop a=U6 W→ChainG x ", " x.length a cuts f→(∀ k,f≤k→¬At x ", " x.length k)→(partsFrom x 2 a cuts).map (fun p=>p.cps.toList)=W
 | [],_,_,_,h,_,_,_,_,_=>absurd rfl h
 | [w],cuts,a,f,_,hw,ha,hd,hc,hf=>by
  have no:∀ k,a≤k→¬At x ", " x.length k:=fun k hk hA=>by
   rw [fC] at hA
   have e:x.cps.toList.drop k=w.drop (k - a):=by
    have:x.cps.toList.drop k=(x.cps.toList.drop a).drop (k - a):=by rw [List.drop_drop];congr 1;exact ig hk
    simp only [this,hd];rfl
   rw [e] at hA
   have:44∈w:=List.mem_of_mem_drop (List.mem_of_mem_take (by rw [hA];exact .head _))
   exact hw w (.head _) this
  cases cuts with
  | nil=>
   show [(Builtin.Str.strSub x a x.length).cps.toList]=_
   rw [strSub_toList,hd]
   show [w.take (x.length - a)]=[w]
   have:w.length=x.length - a:=by
    have:=congrArg List.length hd
    rw [List.length_drop,Array.length_toList] at this
    exact this.symm
   rw [List.take_of_length_le (by exact sP this)]
  | cons c r=>exact absurd hc.2.1 (no c hc.1)
 | w::v::r,cuts,a,f,_,hw,ha,hd,hc,hf=>by
  have hd':x.cps.toList.drop a=w++([44,32]++U6 (v::r)):=hd
  have hlen:x.length - a=w.length+(2+(U6 (v::r)).length):=by
   have:=congrArg List.length hd'
   rw [List.length_drop,Array.length_toList,List.length_append,List.length_append] at this
   exact this
  have yes:At x ", " x.length (a+w.length):=by
   rw [fC,←List.drop_drop,hd',List.drop_left];rfl
  have no:∀ k,a≤k→k < a+w.length→¬At x ", " x.length k:=fun k hk hk2 hA=>by
   rw [fC] at hA
   have e:x.cps.toList.drop k=w.drop (k - a)++([44,32]++U6 (v::r)):=by
    have:x.cps.toList.drop k=(x.cps.toList.drop a).drop (k - a):=by rw [List.drop_drop];congr 1;exact ig hk
    simp only [this,hd',List.drop_append_of_le_length (by exact sO hk2)]
   rw [e] at hA
   obtain ⟨z,zs,hz⟩:∃ z zs,w.drop (k - a)=z::zs:=by
    cases q:w.drop (k - a) with
    | nil=>have:=congrArg List.length q;rw [List.length_drop] at this;simp at this;exact (sN hk this hk2).elim
    | cons z zs=>exact ⟨z,zs,rfl⟩
   rw [hz] at hA
   injection hA with h1 _
   exact hw w (.head _) (List.mem_of_mem_drop (by rw [hz,h1];exact .head _))
  cases cuts with
  | nil=>
   have e:f=a:=hc
   exact absurd yes (hf _ (by exact sM e))
  | cons c s=>
   refine P1 hc fun c1 c2 c3 c4=>?_;try clear hc
   have e:c=a+w.length:=by
    rcases Nat.lt_trichotomy c (a+w.length) with q | q | q
    ·exact absurd c2 (no c c1 q)
    ·exact q
    ·exact absurd yes (c3 _ (by exact dK) q)
   subst e
   show (Builtin.Str.strSub x a (a+w.length)).cps.toList::(partsFrom x 2 (a+w.length+2) s).map (fun p=>p.cps.toList)=_
   rw [jD (v::r) s (a+w.length+2) f (by simp) (fun u hu=>hw u (.tail _ hu)) (by exact sL hlen) (by
    simp only [←List.drop_drop,←List.drop_drop,hd',List.drop_left];rfl) (by rw [aM] at c4;exact c4) hf]
   simp only [strSub_toList,hd',show a+w.length - a=w.length by exact sK,List.take_left]
theorem eN (y:Str):∀ (W:List Str) (acc:Array Nat),(W.foldl (fun acc p=>acc++y.cps++p.cps) acc).toList=acc.toList++(W.flatMap fun p=>y.cps.toList++p.cps.toList)
 | [],acc=>by simp
 | w::W,acc=>by simp only [List.foldl_cons,eN y W];simp
theorem eI:∀ (W:List Str) (w:Str),U6 ((w::W).map fun p=>p.cps.toList)=w.cps.toList++W.flatMap fun p=>[44,32]++p.cps.toList
 | [],w=>by simp [U6]
 | v::W,w=>by
  show w.cps.toList++([44,32]++U6 ((v::W).map fun p=>p.cps.toList))=_
  simp only [eI W v,List.flatMap_cons];rfl
theorem join_list {W:List Str} (h:W≠[]):(Txt.join ", " W).cps.toList=U6 (W.map fun p=>p.cps.toList):=by
 match W,h with
 | w::W,_=>
  simp only [eI]
  unfold Txt.join Builtin.Str.glued
  show (List.foldl (fun acc p=>acc++(", ":Str).cps++p.cps) w.cps W).toList=_
  rw [eN,gh]
theorem oX {W:List Str} (h:W≠[]) (hw:∀ w∈W,44∉w.cps.toList):Txt.split (Txt.join ", " W) ", " = W:=by
 have hj:=join_list h
 obtain ⟨x,hx⟩:∃ x,x=Txt.join ", " W:=⟨_,rfl⟩
 rw [←hx] at hj ⊢
 refine z0 (occ_tight x ", " (by rw [aM];decide)) fun f hG hn=>?_
 have key:∀ cuts f,ChainG x ", " x.length 0 cuts f→(∀ k,f≤k→¬At x ", " x.length k)→partsFrom x 2 0 cuts=W:=fun cuts f hc hf=>by
  have:=jD (W.map fun p=>p.cps.toList) cuts 0 f (by simpa using h) (fun w hw'=>by
   refine z0 (List.mem_map.mp hw') fun p hp hR0=>?_;subst hR0
   exact hw p hp) (Nat.zero_le _) (by simpa using hj) hc hf
  exact List.map_inj_right (fun p q e=>by
   apply Str.ext'
   exact Array.toList_inj.mp e) |>.mp this
 have one:[x]=partsFrom x 2 0 []:=by
  show [x]=[Builtin.Str.strSub x 0 x.length]
  have e:x=Builtin.Str.strSub x 0 x.length:=by
   apply Str.ext'
   apply Array.toList_inj.mp
   rw [strSub_toList]
   simp only [List.drop_zero,Nat.sub_zero]
   exact (take_all x).symm
  rw [←e]
 have short:(∀ k,¬At x ", " x.length k)→[x]=W:=fun hs=>by
  rw [one]
  exact key [] 0 rfl fun k Z=>hs k
 unfold Txt.split
 split
 ·rename_i hc
  refine short fun k hA=>?_
  rw [Bool.or_eq_true,decide_eq_true_eq,decide_eq_true_eq] at hc
  rcases hc with h | h
  ·have:=hA.1;exact sJ h this
  ·have e1:Builtin.Str.strKind (", ":Str)=1:=by decide +kernel
   rw [e1] at h
   unfold Builtin.Str.strKind at h
   split at h
   ·exact sI h
   ·split at h <;> omega
 ·split
  ·rename_i hc
   have e:Builtin.Str.occurrences x ", " 0 x.length (x.length+1)=[]:=by simpa using hc
   rw [e] at hG
   have e2:f=0:=hG
   exact short fun k=>hn k (by exact ie e2)
  ·simp only [partsBetween_eq,aM]
   exact key _ f hG hn
end
section
theorem nE:∀ k < 32,44∉(K1 k).cps.toList:=by decide +kernel
theorem nr:44∉(baseText "0x" 16 0).cps.toList:=by decide +kernel
theorem fP:∀ i < 32,∀ j < i,K1 i≠K1 j:=by decide +kernel
theorem nC:∀ i < 32,K1 i≠baseText "0x" 16 0:=by decide +kernel
theorem nD {i j:Nat} (hi:i < 32) (hj:j < 32) (h:K1 i=K1 j):i=j:=by
 rcases Nat.lt_trichotomy i j with q | q | q
 ·exact absurd h.symm (fP j hj i q)
 ·exact q
 ·exact absurd h (fP i hi j q)
noncomputable def U3 (b0 b1 b2:Bool):List Nat:=(if b0 then [0] else [])++(if b1 then [1] else [])++(if b2 then [2] else [])
noncomputable def xB (base:Nat) (b0 b1 b2:Bool):Nat:=((U3 b0 b1 b2).map fun f=>2 ^ (base+f)).sum
theorem mB:∀ base < 30,∀ b0 b1 b2:Bool,xB base b0 b1 b2 < 2 ^ 32∧M4 (xB base b0 b1 b2) 32=(U3 b0 b1 b2).map (base+·):=by decide +kernel
noncomputable def V2 (base:Nat) (b0 b1 b2:Bool):List Str:=if U3 b0 b1 b2=[] then [baseText "0x" 16 0] else (U3 b0 b1 b2).map fun f=>K1 (base+f)
theorem eR:∀ b0 b1 b2:Bool,∀ f∈U3 b0 b1 b2,f < 3:=by decide
theorem fO {base:Nat} (hb:base < 30) (b0 b1 b2:Bool):w6 (xB base b0 b1 b2)=V2 base b0 b1 b2:=by
 refine B0 (mB base hb b0 b1 b2) fun Z e=>?_
 delta w6 V2
 by_cases h:U3 b0 b1 b2=[]
 ·rw [if_pos h,if_pos (by unfold xB;rw [h];rfl)]
 ·rw [if_neg h,if_neg (fun w=>?_),e,List.map_map];rfl
  rw [w] at e
  have:M4 0 32=[]:=by decide
  rw [this] at e
  exact h (by simpa using e.symm)
theorem oY {base:Nat} (hb:base < 30) (b0 b1 b2:Bool):Txt.split (Txt.join ", " (w6 (xB base b0 b1 b2))) ", " = V2 base b0 b1 b2:=by
 rw [fO hb]
 refine oX ?_ fun w hw=>?_
 ·unfold V2;split
  ·simp
  ·simpa using ‹¬U3 b0 b1 b2=[]›
 ·unfold V2 at hw
  split at hw
  ·rw [List.mem_singleton.mp hw];exact nr
  ·refine z0 (List.mem_map.mp hw) fun f hf hR0=>?_;subst hR0
   exact nE _ (by have:=eR _ _ _ f hf;exact W9 hb this)
theorem kX {base:Nat} (hb:base < 30) (b0 b1 b2:Bool) {f:Nat} (hf:f < 3):K1 (base+f)∈V2 base b0 b1 b2↔f∈U3 b0 b1 b2:=by
 unfold V2
 split
 ·rename_i h
  rw [h,List.mem_singleton]
  exact ⟨fun w=>absurd w (nC _ (by exact W9 hb hf)),fun w=>by cases w⟩
 ·rw [List.mem_map]
  constructor
  ·intro hZ0;refine z0 hZ0 fun f' h1 h2=>?_;clear hZ0
   have:=nD (by have:=eR _ _ _ f' h1;exact W9 hb this) (by exact W9 hb hf) h2
   rwa [show f=f' by exact sB this]
  ·intro h;exact ⟨f,h,rfl⟩
structure H5 (ps:List (Nat × Nat)) (Ls fs:List Nat) (full:Nat):Prop where
 fl:fs.length=Ls.length
 lev:L5 (r0 ps) (A0 ps) (LN Ls) Ls.length
 lt:∀ j,j < Ls.length→LN Ls j < full
 f3:∀ j,j < Ls.length→LN fs j < 3
 apart:∀ i,i < Ls.length→∀ j,j < Ls.length→i≠j→LN Ls i=LN Ls j→LN fs i=LN fs j→1≤LN Ls i→¬(r0 ps i < A0 ps j∧r0 ps j < A0 ps i)
theorem H5.zero {ps:List (Nat × Nat)} {full:Nat}:H5 ps [] [] full where
 fl:=rfl
 lev:=⟨fun i h=>(by cases h),fun i h=>(by cases h)⟩
 lt:=fun j h=>by cases h
 f3:=fun j h=>by cases h
 apart:=fun i h=>by cases h
theorem jW {ps:List (Nat × Nat)} {Ls fs:List Nat} {full k:Nat} (G:H5 ps Ls fs full) (hk:G4 ps Ls k) (hlow:∀ j,j < k→¬G4 ps Ls j):L5 (r0 ps) (A0 ps) (LN (Ls++[k])) (Ls++[k]).length:=by
 simp only [List.length_append,List.length_singleton]
 refine (G.lev.congr fun j hj=>(o3 hj).symm).next (fun a h1 h2=>?_) fun j hj=>?_
 ·rw [P4,aA fun j hj=>o3 hj];exact hk a h1 h2
 ·rw [P4] at hj
  have:=hlow j hj
  unfold G4 at this
  rw [Classical.not_forall] at this
  refine o0 this fun a ha=>?_;try clear this
  rw [Classical.not_imp] at ha
  refine B0 ha fun h1 ha=>?_
  rw [Classical.not_imp] at ha
  refine B0 ha fun h2 ha=>?_
  have e:=aA (lo:=r0 ps) (hi:=A0 ps) (n:=Ls.length) (a:=a) (k:=j) (L:=LN (Ls++[k])) (L':=LN Ls) fun i hi=>o3 hi
  exact ⟨a,h1,h2,by rw [e];exact sA (by assumption)⟩
theorem H5.step {ps:List (Nat × Nat)} {Ls fs:List Nat} {full k f:Nat} (G:H5 ps Ls fs full) (hk:G4 ps Ls k) (hlow:∀ j,j < k→¬G4 ps Ls j) (hkf:k < full) (hf:f < 3)
  (hap:1≤k→∀ j,j < Ls.length→LN Ls j=k→r0 ps j < A0 ps Ls.length∧r0 ps Ls.length < A0 ps j→LN fs j≠f):H5 ps (Ls++[k]) (fs++[f]) full where
 fl:=by simp [G.fl]
 lev:=jW G hk hlow
 lt:=fun j hj=>by
  rw [List.length_append,List.length_singleton] at hj
  rcases Nat.lt_or_ge j Ls.length with q | q
  ·rw [o3 q];exact G.lt j q
  ·rw [show j=Ls.length by exact q2 hj q,P4];exact hkf
 f3:=fun j hj=>by
  rw [List.length_append,List.length_singleton] at hj
  rcases Nat.lt_or_ge j Ls.length with q | q
  ·rw [o3 (by rw [G.fl];exact q)];exact G.f3 j q
  ·rw [show j=fs.length by rw [G.fl];exact q2 hj q,P4];exact hf
 apart:=fun i hi j hj hij e1 e2 h1=>by
  rw [List.length_append,List.length_singleton] at hi hj
  have hnew:∀ j,j < Ls.length→k=LN Ls j→LN fs j=f→1≤k→¬(r0 ps j < A0 ps Ls.length∧r0 ps Ls.length < A0 ps j):=fun j hj e1 e2 h1 hm=>hap h1 j hj e1.symm hm e2
  have en:LN (fs++[f]) Ls.length=f:=by rw [←G.fl,P4]
  rcases Nat.lt_or_ge i Ls.length with q | q
  ·rcases Nat.lt_or_ge j Ls.length with r | r
   ·rw [o3 q,o3 r] at e1
    rw [o3 (by rw [G.fl];exact q),o3 (by rw [G.fl];exact r)] at e2
    rw [o3 q] at h1
    exact G.apart i q j r hij e1 e2 h1
   ·have ej:j=Ls.length:=by exact q2 hj r
    subst ej
    rw [o3 q,P4] at e1
    rw [o3 (by rw [G.fl];exact q),en] at e2
    rw [o3 q,e1] at h1
    exact fun hZ0=>B0 hZ0 fun m1 m2=>hnew i q e1.symm e2 h1 ⟨m1,m2⟩
  ·have ei:i=Ls.length:=by exact q2 hi q
   subst ei
   have r:j < Ls.length:=by exact sw hj hij
   rw [o3 r,P4] at e1
   rw [o3 (j:=j) (by rw [G.fl];exact r),en] at e2
   rw [P4] at h1
   exact fun hZ0=>B0 hZ0 fun m1 m2=>hnew j r e1 e2.symm h1 ⟨m2,m1⟩
noncomputable def B1 (Ls fs:List Nat) (j:Nat):Nat:=if LN Ls j=0 then 0 else 3*LN Ls j - 2+LN fs j
theorem jV {ps:List (Nat × Nat)} {Ls fs:List Nat} {full j:Nat} (G:H5 ps Ls fs full) (hj:j < Ls.length):B1 Ls fs j < 3*full - 2:=by
 have g:=G.lt j hj
 unfold B1
 by_cases h:LN Ls j=0
 ·rw [if_pos h];exact oa g
 ·rw [if_neg h];exact nZ g (G.f3 j hj) h
theorem jT {ps:List (Nat × Nat)} {Ls fs:List Nat} {full i j:Nat} (G:H5 ps Ls fs full) (hlt:∀ j,j < Ls.length→r0 ps j < A0 ps j) (hi:i < Ls.length) (hj:j < Ls.length) (hij:i≠j) (e:B1 Ls fs i=B1 Ls fs j):¬(r0 ps i < A0 ps j∧r0 ps j < A0 ps i):=by
 have a1:=G.f3 i hi
 have a2:=G.f3 j hj
 have l1:=hlt i hi
 have l2:=hlt j hj
 unfold B1 at e
 by_cases h0:LN Ls i=0
 ·have h0':LN Ls j=0:=by
   rw [if_pos h0] at e
   by_cases w:LN Ls j=0
   ·exact w
   ·rw [if_neg w] at e;exact sv e
  intro hZ0;refine B0 hZ0 fun m1 m2=>?_;clear hZ0
  rcases Nat.lt_or_ge i j with q | q
  ·have z:=fun a=>G.lev.zero (a:=a) q hj h0 h0'
   have:=z (max (r0 ps i) (r0 ps j)) (by exact yZ) (by exact gC l1 m2)
   exact yY l2 m1 this
  ·have z:=fun a=>G.lev.zero (a:=a) (show j < i by exact iw q hij) hi h0' h0
   have:=z (max (r0 ps i) (r0 ps j)) (by exact ss) (by exact gC m1 l2)
   exact sr l1 m2 this
 ·have h0':LN Ls j≠0:=fun w=>by rw [if_neg h0,if_pos w] at e;exact sq h0 e
  rw [if_neg h0,if_neg h0'] at e
  exact G.apart i hi j hj hij (by exact gD h0 h0' a1 e a2) (by exact sm a1 a2 h0' e h0) (by exact sk h0)
theorem CM {ps:List (Nat × Nat)} {Ls fs:List Nat} {full k:Nat} (G:H5 ps Ls fs full) (hk:G4 ps Ls k) (hlow:∀ j,j < k→¬G4 ps Ls j) (h1:1≤k):¬∀ f,f < 3→∃ j,j < Ls.length∧LN Ls j=k∧(r0 ps j < A0 ps Ls.length∧r0 ps Ls.length < A0 ps j)∧LN fs j=f:=fun h=>by
 refine P8 (h 0 (by decide)) fun x x1 x2 x3 x4=>?_
 refine P8 (h 1 (by decide)) fun y y1 y2 y3 y4=>?_
 refine P8 (h 2 (by decide)) fun z z1 z2 z3 z4=>?_
 have L:=jW G hk hlow
 have hl:(Ls++[k]).length=Ls.length+1:=by simp
 exact L.three (i:=Ls.length) (x:=x) (y:=y) (z:=z) (by exact k9 hl) (by exact aU x1 hl) (by exact aU y1 hl) (by exact aU z1 hl) (by rw [P4];exact h1) (by simp only [o3 x1,P4];exact x2) (by simp only [o3 y1,P4];exact y2) (by simp only [o3 z1,P4];exact z2)
  (by exact V9 x1) (by exact V9 y1) (by exact V9 z1) (by rintro rfl;exact sj x4 y4) (by rintro rfl;exact si x4 z4) (by rintro rfl;exact sh y4 z4) x3 y3 z3
theorem gt {α:Type} (d:α) (l:List α):(List.range l.length).map (fun j=>l.getD j d)=l:=by
 apply List.ext_getElem?
 intro i
 simp only [List.getElem?_map]
 rcases Nat.lt_or_ge i l.length with h | h
 ·simp only [List.getElem?_range h,List.getElem?_eq_getElem h]
  simp [List.getD_eq_getElem?_getD,List.getElem?_eq_getElem h]
 ·rw [List.getElem?_eq_none (by simpa using h),List.getElem?_eq_none h];rfl
theorem lP {ps:List (Nat × Nat)} {a:Nat}:R2 (r0 ps) (A0 ps) ps.length a=B4 ps a:=by
 delta R2 B4
 conv=>rhs;rw [←gt (0,0) ps]
 simp only [List.countP_map];rfl
theorem mj {ps:List (Nat × Nat)} {full:Nat} (h:∀ v∈ps,B4 ps v.1≤full):∀ a,B4 ps a≤full
 | 0=>by
  by_cases q:∃ v∈ps,v.1=0
  ·refine z0 q fun v hv e=>?_;try clear q;rw [←e];exact h v hv
  ·have:B4 ps 0=0:=by
    unfold B4
    rw [List.countP_eq_zero]
    intro v hv w
    simp only [decide_eq_true_eq] at w
    exact q ⟨v,hv,by exact sg w⟩
   exact ie this
 | a+1=>by
  by_cases q:∃ v∈ps,v.1=a+1
  ·refine z0 q fun v hv e=>?_;try clear q;rw [←e];exact h v hv
  ·refine Nat.le_trans ?_ (mj h a)
   unfold B4
   refine List.countP_mono_left fun v hv w=>?_
   simp only [decide_eq_true_eq] at w ⊢
   have:v.1≠a+1:=fun e=>q ⟨v,hv,e⟩
   exact sd this w
theorem CS {ps:List (Nat × Nat)} {Ls:List Nat} {full:Nat} (hn:Ls.length < ps.length) (hf:∀ v∈ps,B4 ps v.1≤full) (h1:1≤full):G4 ps Ls (full - 1):=fun a ha hb=>
 CR hn (fun a=>by rw [lP];exact mj hf a) h1 a ha hb
end
section
noncomputable def Z5:List Stmt:=match (M3 (G0 21)).getD 15 (.Pass default) with
 | .For _ _ b _ _=>b
 | _=>[]
theorem Y0.notin {p:HP} {a:Addr} {ts:List Addr} {rows:List (List Int)} (h:Y0 p a ts rows) {b:Addr} {o:AO} (hb:p b=some o) (ho:∀ xs,o≠.list xs):b∉ts:=fun hT=>by
 refine o0 (List.mem_iff_getElem?.mp hT) fun k hk=>?_
 have hk':=(List.getElem?_eq_some_iff.mp hk).1
 have:=h.2.2.2 k b _ hk (List.getElem?_eq_getElem (by rw [←h.2.1];exact hk'))
 rw [this] at hb;injection hb with hb
 exact ho _ hb.symm
theorem Y0.frame {p p':HP} {a:Addr} {ts:List Addr} {rows:List (List Int)} (h:Y0 p a ts rows) (ha:p' a=p a) (ht:∀ T∈ts,∀ o,p T=some o→p' T=some o):Y0 p' a ts rows:=
 ⟨ha.trans h.1,h.2.1,h.2.2.1,fun k T r e1 e2=>ht T (List.mem_of_getElem? e1) _ (h.2.2.2 k T r e1 e2)⟩
noncomputable abbrev L0 (l:List Nat):List Int:=l.map fun x:Nat=>(x:Int)
theorem aj {l:List Nat} {j:Nat}:(L0 l).getD j 0=((l.getD j 0:Nat):Int):=by
 simp only [List.getD_eq_getElem?_getD,List.getElem?_map,List.getD_eq_getElem?_getD]
 cases l[j]? <;> rfl
theorem ot {C:Cx} (W:G1 C) {A:Around} {g:Heap} {fr:Fm} {E:Value→Shared→Prop} {loc:j0} {hp:HP} {Q:Flow→j0→HP→Prop} (LA:G5 A fr)
  {role:Addr→Nat} {Fix:HP} {lv ln fi la:Addr} {bts ets tts rts xts:List Addr} (LY:K9 role Fix lv ln fi la bts ets tts rts xts) {bg en pl st th T:Addr} {ps:List (Nat × Nat)} {Ls:List Nat} {full:Nat} {bss ess rows:List (List Int)}
  (l1:loc "i" = some (iv Ls.length)) (l2:loc "span" = some (.ref T)) (l3:loc "begins" = some (.ref bg)) (l4:loc "ends" = some (.ref en)) (l5:loc "there" = some (.ref th)) (l6:loc "levels" = some (.ref lv))
  (hsp:hp T=some (.tuple [iv (r0 ps Ls.length),iv (A0 ps Ls.length)])) (hb:Y0 hp bg bts bss) (he:Y0 hp en ets ess) (hth:Y0 hp th tts rows) (hlv:hp lv=some (.list ((L0 Ls).map iv)))
  (rbg:role bg=0) (ren:role en=0) (rth:role th=0) (B:T5 ps Ls full bss ess) (TH:o6 ps Ls rows) (hlt:∀ j,r0 ps j≤A0 ps j) (hlt':r0 ps Ls.length < A0 ps Ls.length) (hhi:A0 ps Ls.length≤23) (hn:Ls.length < 10) (hf:1≤full∧full≤10) (hfit:G4 ps Ls (full - 1))
  (h:∀ k p',k < full→G4 ps Ls k→(∀ j,j < k→¬G4 ps Ls j)→Y0 p' bg bts (bss.set k (S3 (bss.getD k []) (j3 (bss.getD k []) (r0 ps Ls.length)) (r0 ps Ls.length)))→Y0 p' en ets (ess.set k (S3 (ess.getD k []) (C2 (ess.getD k []) (A0 ps Ls.length)) (A0 ps Ls.length)))→Y0 p' th tts (F5 rows (r0 ps Ls.length) (A0 ps Ls.length) k)→
   p' lv=some (.list ((L0 (Ls++[k])).map iv))→(∀ b o,role b≠1→role b≠5→role b≠6→role b≠7→hp b=some o→p' b=some o)→(∀ b o,(∀ xs,o≠.list xs)→hp b=some o→p' b=some o)→I0 C A g fr E (execs (Z5.drop 2) fr.env) loc p' Q) :
  I0 C A g fr E (execs Z5 fr.env) loc hp Q:=by
 obtain ⟨F,hroom,hh,hfrm,hlf,hun,hcode,hqual⟩:=LA
 have hgL:=W.gLevel
 refine o0 (W.fLevel) fun pmL FL=>?_
 have hgD:=W.gDue
 refine o0 (W.fDue) fun pmD FD=>?_
 refine Y1 ?_
 repeat' walk_at "kl"
 refine ⟨_,B6 PySem.F.slot_list_append PySem.F.type_list_append hlv,?_⟩
 repeat' walk_at "kl"
 refine B0 (B.len) fun bl1 bl2=>?_
 have hbe:∀ U∈bts,U∉ets:=fun U h1 h2=>by have e1:=LY.bts U h1;have e2:=LY.ets U h2;exact rZ e1 e2
 refine Am W (by exact dp hroom) hh hsp hb he hlt' (by exact dn hhi) (by simp only [B.lb,B.le]) (by rw [B.lb];exact rY hf) (fun r hr=>⟨by have:=bl1 r hr;exact dm hn this,B.sb r hr⟩) (fun r hr=>⟨by have:=bl2 r hr;exact dm hn this,B.se r hr⟩) hbe (fun p' hno Z=>?_) fun k p₁ hk hfk hlow hb' he' hfr=>?_
 ·rw [B.lb] at hno
  exact absurd ((B.fits hlt (by exact ib hf)).mpr hfit) (hno (full - 1) (by exact ib hf))
 rw [B.lb] at hk
 have hFk:=(B.fits hlt hk).mp hfk
 have hlow':∀ j,j < k→¬G4 ps Ls j:=fun j hj w=>hlow j hj ((B.fits hlt (by exact z8 hk hj)).mpr w)
 have n5:∀ b,role b≠5→b∉bts:=fun b hb h=>hb (LY.bts b h)
 have n6:∀ b,role b≠6→b∉ets:=fun b hb h=>hb (LY.ets b h)
 have hlv1:=hfr lv _ (n5 _ (by rw [LY.lv];decide)) (n6 _ (by rw [LY.lv];decide)) hlv
 repeat' walk_at "kl"
 refine ⟨S4,ag hlv1 (by simp only [List.length_map];exact dl hn) ⟨rfl,?_⟩⟩
 have hlv2:k0 p₁ lv (.list ((L0 Ls).map iv++[iv k])) lv=some (.list ((L0 (Ls++[k])).map iv)):=by rw [s0];simp [L0]
 have hk2:∀ b o,b≠lv→p₁ b=some o→k0 p₁ lv (.list ((L0 Ls).map iv++[iv k])) b=some o:=fun b o hb e=>by rw [H0 _ _ hb];exact e
 generalize k0 p₁ lv (.list ((L0 Ls).map iv++[iv k]))=p₂ at hlv2 hk2 ⊢
 have nlv:∀ b,role b≠1→b≠lv:=fun b hb h=>hb (by rw [h];exact LY.lv)
 have tT:T∉bts∧T∉ets∧T≠lv:=⟨hb.notin hsp fun xs=>by simp,he.notin hsp fun xs=>by simp,by rintro rfl;rw [hlv] at hsp;exact R3 hsp⟩
 have hsp2:=hk2 T _ tT.2.2 (hfr T _ tT.1 tT.2.1 hsp)
 have hth1:p₂ th=hp th:=(hk2 th _ (nlv _ (by rw [rth];decide)) (hfr th _ (n5 _ (by rw [rth];decide)) (n6 _ (by rw [rth];decide)) hth.1)).trans hth.1.symm
 have hth2:Y0 p₂ th tts rows:=hth.frame hth1 fun U hU o e=>by
  have r:=LY.tts U hU
  exact hk2 U _ (nlv _ (by rw [r];decide)) (hfr U _ (n5 _ (by rw [r];decide)) (n6 _ (by rw [r];decide)) e)
 repeat' walk_at "kl"
 refine sub_int (by intro _ _;with_unfolding_all rfl) hlv2 (by exact q0) (by simp [L0];exact dk) (by simp [L0];exact aT hn) ?_
 simp only [Int.toNat_natCast,aj,show (Ls++[k]).getD Ls.length 0=k from P4]
 repeat' walk_at "kl"
 refine Au W (by exact q7 hroom) hh hsp2 hth2 hlt' (by rw [TH.len];exact aS hhi) (by rw [TH.len];decide) (fun r hr=>by have:=TH.sizes r hr;exact dm hn this) (fun p' hno Z=>?_) fun k' p₃ hk' hfk' hlow'' hth3 hfr3=>?_
 ·exact absurd ((TH.fits (by exact aS hhi)).mpr hFk) (hno k (by exact rX hk hf))
 have ek:k'=k:=by
  have hF':=(TH.fits (by exact aS hhi)).mp hfk'
  rcases Nat.lt_trichotomy k' k with q | q | q
  ·exact absurd hF' (hlow' k' q)
  ·exact q
  ·exact absurd ((TH.fits (by exact aS hhi)).mpr hFk) (hlow'' k q)
 subst ek
 have n7:∀ b,role b≠7→b∉tts:=fun b hb h=>hb (LY.tts b h)
 repeat' walk_at "kl"
 rw [if_neg (by simp)]
 have all1:∀ b o,role b≠1→role b≠5→role b≠6→role b≠7→hp b=some o→p₃ b=some o:=fun b o h1 h5 h6 h7 e=>hfr3 b o (n7 b h7) (hk2 b o (nlv b h1) (hfr b o (n5 b h5) (n6 b h6) e))
 have all2:∀ b o,(∀ xs,o≠.list xs)→hp b=some o→p₃ b=some o:=fun b o ho e=>by
  have e1:=hfr b o (hb.notin e ho) (he.notin e ho) e
  have e2:=hk2 b o (by rintro rfl;rw [hlv] at e;injection e with e;exact ho _ e.symm) e1
  exact hfr3 b o (hth2.notin e2 ho) e2
 have mv:∀ {a:Addr} {ts:List Addr} {rs:List (List Int)},Y0 p₁ a ts rs→role a=0→(∀ U∈ts,role U≠1∧role U≠7)→Y0 p₃ a ts rs:=fun {a ts rs} hR ra hU=>by
  refine hR.frame ?_ fun U h o e=>hfr3 U o (n7 U (hU U h).2) (hk2 U o (nlv U (hU U h).1) e)
  rw [hR.1]
  exact hfr3 a _ (n7 a (by rw [ra];decide)) (hk2 a _ (nlv a (by rw [ra];decide)) hR.1)
 refine J7 ?_
 exact h k' p₃ hk hFk hlow' (mv hb' rbg fun U hU=>by rw [LY.bts U hU];decide) (mv he' ren fun U hU=>by rw [LY.ets U hU];decide) hth3 (hfr3 lv _ (n7 _ (by rw [LY.lv];decide)) hlv2) all1 all2
end
section
section
variable {C:Cx} {A:Around} {g:Heap} {fr:Fm} {E:Value→Shared→Prop} {loc:j0} {hp:HP}
theorem Fa {x y:Expr} {pos:Pos} {Q:Value→j0→HP→Prop} (h:w0 C A g fr E (eval x fr.env) loc hp fun v l p=>o9 C A g fr E truthy v l p fun b l p=>if b then Q v l p else w0 C A g fr E (eval y fr.env) l p Q) :
  w0 C A g fr E (eval (.BoolOp .Or [x,y] pos) fr.env) loc hp Q:=by
 refine N3 (show eval (.BoolOp .Or [x,y] pos) fr.env=boolOp pos .Or [eval x fr.env,eval y fr.env] from rfl) ?_
 refine E0 (Z0 h fun v l p hv=>E0 (U2 (E0 (N2 (Z0 (hv v rfl) fun b l p hb=>?_)))))
 cases b with
 | true=>exact N1 hb
 | false=>exact hb
theorem oD {a:Addr} {xs:List Value} {Q:Bool→j0→HP→Prop} (ha:hp a=some (.list xs)) (hsz:xs.length≤100000) (h:Q (decide (xs≠[])) loc hp):o9 C A g fr E truthy (.ref a) loc hp Q:=by
 intro v hv
 have:=Q0 hv;subst this
 intro s R S
 refine V0 (R.list ha) fun vs n e q=>?_
 have hz:=M2 q
 refine wpAny_truthy_list ⟨_,e,rfl,n,rfl⟩ (by rw [hz];exact u4 hsz) ⟨S,loc,hp,R,?_⟩
 have:(!vs.isEmpty)=decide (xs≠[]):=by
  simp only [Array.isEmpty]
  cases xs with
  | nil=>simp at hz;simp [hz]
  | cons x xs=>simp at hz;simp [hz]
 rw [this];exact h
end
theorem eA {ps:List (Nat × Nat)} {Ls:List Nat} {k:Nat} {v:Int}:v∈X7 ps (L0 (Ls++[k])) Ls.length↔∃ j:Nat,v=j∧j < Ls.length∧LN Ls j=k∧(r0 ps j < A0 ps Ls.length∧r0 ps Ls.length < A0 ps j):=by
 delta X7 af
 simp only [List.mem_filter,List.mem_filter,Y3]
 simp only [decide_eq_true_eq]
 simp only [aj,aj,show (Ls++[k]).getD Ls.length 0=k from P4]
 have hl:(L0 (Ls++[k])).length=Ls.length+1:=by simp [L0]
 simp only [hl]
 constructor
 ·rintro ⟨⟨⟨h1,h2⟩,h3,h4⟩,h5,h6⟩
  have e:((v.toNat:Nat):Int)=v:=by exact bh h1
  have hj:v.toNat < Ls.length:=by exact rW h2 h3 e
  refine ⟨v.toNat,e.symm,hj,?_,h5,h6⟩
  have:(Ls++[k]).getD v.toNat 0=LN Ls v.toNat:=o3 hj
  rw [this] at h4;exact bo h4
 ·intro hZ0;refine fb hZ0 fun j hR0 hj hL h5 h6=>?_;clear hZ0;subst hR0
  simp only [Int.toNat_natCast]
  have:(Ls++[k]).getD j 0=LN Ls j:=o3 hj
  rw [this,hL]
  exact ⟨⟨⟨by exact q0,by exact rV hj⟩,by exact rU hj,rfl⟩,h5,h6⟩
noncomputable def P9 (ps:List (Nat × Nat)) (Ls fs:List Nat) (k:Nat):List Int:=(X7 ps (L0 (Ls++[k])) Ls.length).map fun v=>((L0 ((List.range Ls.length).map (B1 Ls fs))).getD v.toNat 0 - 1) % 3
theorem bM {Ls fs:List Nat} {j:Nat} (hj:j < Ls.length):(L0 ((List.range Ls.length).map (B1 Ls fs))).getD j 0=(B1 Ls fs j:Nat):=by
 rw [aj,List.getD_eq_getElem?_getD,List.getElem?_map,List.getElem?_range hj];rfl
theorem fU {ps:List (Nat × Nat)} {Ls fs:List Nat} {full k f:Nat} (G:H5 ps Ls fs full) (h1:1≤k):(f:Int)∈P9 ps Ls fs k↔∃ j,j < Ls.length∧LN Ls j=k∧(r0 ps j < A0 ps Ls.length∧r0 ps Ls.length < A0 ps j)∧LN fs j=f:=by
 unfold P9
 rw [List.mem_map]
 have key:∀ j,j < Ls.length→LN Ls j=k→(((L0 ((List.range Ls.length).map (B1 Ls fs))).getD j 0 - 1) % 3:Int)=(LN fs j:Nat):=fun j hj hL=>by
  rw [bM hj]
  have:=G.f3 j hj
  unfold B1
  rw [if_neg (by exact rT h1 hL),hL]
  exact rR h1 this
 constructor
 ·intro hZ0;refine z0 hZ0 fun v hv e=>?_;clear hZ0
  refine P8 (eA.mp hv) fun j hR0 hj hL hm=>?_;subst hR0
  simp only [Int.toNat_natCast,key j hj hL] at e
  exact ⟨j,hj,hL,hm,by exact bo e⟩
 ·intro hZ0;refine P8 hZ0 fun j hj hL hm e=>?_;clear hZ0
  exact ⟨j,eA.mpr ⟨j,rfl,hj,hL,hm⟩,by simp only [Int.toNat_natCast,key j hj hL,e]⟩
theorem eB {b:Bool} {n f:Nat}:f∈(if b then [n] else [])↔f=n∧b=true:=by cases b <;> simp
theorem li {b0 b1 b2:Bool} {f:Nat}:f∈U3 b0 b1 b2↔(f=0∧b0=true)∨(f=1∧b1=true)∨(f=2∧b2=true):=by
 unfold U3
 rw [List.mem_append,List.mem_append,eB,eB,eB,or_assoc]
theorem eQ {tk r:List Int} {g:Int→Value} {n:Nat}:((n:Int)::r).filterMap (fun x=>if x∈tk then some (g x) else none)=((if decide ((n:Int)∈tk) then [n] else []).map fun f:Nat=>g (f:Int))++r.filterMap (fun x=>if x∈tk then some (g x) else none):=by
 by_cases h:(n:Int)∈tk <;> simp [h]
theorem lh {tk:List Int} {g:Int→Value}:(O0 0 3).filterMap (fun x=>if x∈tk then some (g x) else none)=(U3 (decide ((0:Int)∈tk)) (decide ((1:Int)∈tk)) (decide ((2:Int)∈tk))).map fun f:Nat=>g (f:Int):=by
 have e:O0 0 3=[((0:Nat):Int),((1:Nat):Int),((2:Nat):Int)]:=by decide
 rw [e,U3,List.map_append,List.map_append,List.append_assoc]
 exact eQ.trans (congrArg _ (eQ.trans (congrArg _ (eQ.trans (List.append_nil _)))))
theorem gb {l:List Nat} {g:Nat→Nat}:(l.map fun f=>((g f:Nat):Int)).sum=((l.map g).sum:Nat):=by
 induction l with
 | nil=>rfl
 | cons x l ih=>simp only [List.map_cons,List.map_cons,List.sum_cons,List.sum_cons,ih];exact ik
theorem Ck {W:List Str} (h:W≠[]) (hw:∀ w∈W,w.length≤100):(Txt.join ", " W).length≤102*W.length:=by
 have e:=congrArg List.length (join_list h)
 simp only [Array.length_toList] at e
 have e':(Txt.join ", " W).length=(U6 (W.map fun p=>p.cps.toList)).length:=e
 rw [e']
 clear e e'
 match W,h,hw with
 | w::W,_,hw=>
  simp only [eI,List.length_append,Array.length_toList]
  have h1:w.cps.size≤100:=hw w (.head _)
  have h2:∀ V:List Str,(∀ v∈V,v.length≤100)→(V.flatMap fun p=>[44,32]++p.cps.toList).length≤102*V.length:=fun V hV=>by
   induction V with
   | nil=>exact Nat.le_refl _
   | cons v V ih=>
    rw [List.flatMap_cons,List.length_append,List.length_cons]
    have h3:v.cps.size≤100:=hV v (.head _)
    have h4:=ih fun u hu=>hV u (.tail _ hu)
    have h5:([44,32]++v.cps.toList:List Nat).length=v.cps.size+2:=by rfl
    exact rQ h4 h3 h5
  have h3:=h2 W fun v hv=>hw v (.tail _ hv)
  simp only [List.length_cons]
  exact rP h1 h3
theorem nA {base:Nat} (hb:base < 30) {b0 b1 b2:Bool}:(Txt.join ", " (V2 base b0 b1 b2)).length≤1000:=by
 have h1:V2 base b0 b1 b2≠[]:=by
  unfold V2;split
  ·simp
  ·simpa using ‹¬U3 b0 b1 b2=[]›
 have h2:(V2 base b0 b1 b2).length≤3:=by
  have:∀ b0 b1 b2:Bool,(U3 b0 b1 b2).length≤3:=by decide
  unfold V2;split
  ·decide
  ·rw [List.length_map];exact this _ _ _
 have:=Ck h1 fun w hw=>by
  unfold V2 at hw
  split at hw
  ·rw [List.mem_singleton.mp hw];exact cE (by decide)
  ·refine z0 (List.mem_map.mp hw) fun f hf hR0=>?_;subst hR0
   exact cO (by have:=eR _ _ _ f hf;exact W9 hb this)
 exact rO h2 this
theorem pj {p:HP} {xs:List Value} (hf:∀ x∈xs,L9 x):∀ (i:Nat) v w,xs[i]?=some v→xs[i]?=some w→aG p v w:=fun i v w a b=>by
 rw [a] at b;injection b with b;subst b
 exact .inl ⟨hf v (List.mem_of_getElem? a),rfl⟩
theorem jN {base:Nat} {x:Int} (h0:0≤x) (h3:x < 3):([base,base+1,base+2].map fun k=>Value.str (K1 k) 0)[x.toNat]?=some (.str (K1 (base+x.toNat)) 0):=by
 have:x=0∨x=1∨x=2:=by exact ia h0 h3
 rcases this with rfl | rfl | rfl <;> rfl
theorem nq:baseText "0x" 16 0 = "0x0":=by decide +kernel
theorem zY {Ls fs:List Nat} {k f:Nat} (hfl:fs.length=Ls.length):(List.range (Ls++[k]).length).map (B1 (Ls++[k]) (fs++[f]))=(List.range Ls.length).map (B1 Ls fs)++[if k=0 then 0 else 3*k - 2+f]:=by
 simp only [List.length_append,List.length_singleton,List.range_succ,List.map_append]
 congr 1
 ·refine List.map_congr_left fun j hj=>?_
  have hj':=List.mem_range.mp hj
  unfold B1
  rw [o3 hj',o3 (by exact q8 hj' hfl)]
 ·show [B1 (Ls++[k]) (fs++[f]) Ls.length]=_
  unfold B1
  rw [P4,show LN (fs++[f]) Ls.length=f by rw [←hfl,P4]]
theorem Cs {l:List Nat} {x:Nat}:L0 (l++[x])=L0 l++[(x:Int)]:=by simp [L0]
theorem om {C:Cx} (W:G1 C) {A:Around} {g:Heap} {fr:Fm} {E:Value→Shared→Prop} {loc:j0} {hp:HP} {Q:Flow→j0→HP→Prop} (LA:G5 A fr)
  {Dm Dw lv ln:Addr} {ps:List (Nat × Nat)} {Ls fs:List Nat} {full base k:Nat} {tk:List Int} {b0 b1 b2:Bool}
  (l1:loc "i" = some (iv Ls.length)) (l3:loc "levels" = some (.ref lv)) (l4:loc "lines" = some (.ref ln)) (l6:loc "marks" = some (.ref Dm)) (l7:loc "words" = some (.ref Dw))
  (hlv:hp lv=some (.list ((L0 (Ls++[k])).map iv))) (hln:hp ln=some (.list ((L0 ((List.range Ls.length).map (B1 Ls fs))).map iv))) (hm:hp Dm=some (.list ([base,base+1,base+2].map fun k=>.str (K1 k) 0))) (hW:hp Dw=some (.list ((V2 base b0 b1 b2).map fun z=>.str z 0)))
  (htk:tk=P9 ps Ls fs k) (hb0:b0=decide ((0:Int)∈tk)) (hb1:b1=decide ((1:Int)∈tk)) (hb2:b2=decide ((2:Int)∈tk))
  (G:H5 ps Ls fs full) (hk:k < full) (hfk:G4 ps Ls k) (hlow:∀ j,j < k→¬G4 ps Ls j) (hb:base < 30) (hn:Ls.length < 10) (hfl:full≤10)
  (h:∀ loc' f p',f < 3→(1≤k→∀ j,j < Ls.length→LN Ls j=k→r0 ps j < A0 ps Ls.length∧r0 ps Ls.length < A0 ps j→LN fs j≠f)→p' ln=some (.list ((L0 ((List.range (Ls++[k]).length).map (B1 (Ls++[k]) (fs++[f])))).map iv))→(∀ b o,b≠ln→hp b=some o→p' b=some o)→
   (∀ y v,y∉(["taken","words","free"]:List Str)→loc y=some v→loc' y=some v)→I0 C A g fr E (execs (Z5.drop 7) fr.env) loc' p' Q) :
  I0 C A g fr E (execs (Z5.drop 5) fr.env) loc hp Q:=by
 obtain ⟨F,hroom,hh,hfrm,hlf,hun,hcode,hqual⟩:=LA
 have hrange:=W.range
 refine Y1 ?_
 repeat' walk_at "kl"
 refine k6 fun r hr=>j7 (O0 0 3) (fun v=>[.int v 0]) (fun x=>if K1 (base+x.toNat)∉V2 base b0 b1 b2 then some (iv x) else none) (j5 hh hr (by decide) (by decide) ⟨rfl,by decide,?elt,?done⟩)
 case elt=>
  intro x hx g₃ fr₃ E₃ hF₃
  refine B0 (Y3.mp hx) fun hx1 hx2=>?_
  dsimp only [W0,K0]
  repeat' walk_at "kl"
  refine M5 (by intro _ _;with_unfolding_all rfl) hm hx1 (Int.lt_trans hx2 (by decide)) (jN hx1 hx2) ?_
  repeat' walk_at "kl"
  refine Dv hW ⟨_,rfl,rfl,m0.rfl,?_⟩
  by_cases q:K1 (base+x.toNat)∉V2 base b0 b1 b2
  ·rw [if_pos (by simpa using q)]
   intro g₄ E₄
   repeat' walk_at "kl"
   exact ⟨rfl,m0.rfl,if_pos q⟩
  ·rw [if_neg (by simpa using q)]
   exact if_neg q
 case done=>
  intro Df hDf
  rw [bX (fun x:Int=>K1 (base+x.toNat)∉V2 base b0 b1 b2) iv]
  obtain ⟨fr0,hfr0⟩:∃ l:List Int,l=(O0 0 3).filter fun x=>decide (K1 (base+x.toNat)∉V2 base b0 b1 b2):=⟨_,rfl⟩
  rw [←hfr0]
  have hs1:=m0.set (o:=.list (fr0.map iv)) hDf
  have hF1:=s0 hp Df (.list (fr0.map iv))
  generalize k0 hp Df (.list (fr0.map iv))=p₁ at hs1 hF1 ⊢
  have hln1:=hs1 _ _ hln
  have hlv1:=hs1 _ _ hlv
  have fmem:∀ x∈fr0,0≤x∧x < 3∧x∉tk:=fun x hx=>by
   rw [hfr0,List.mem_filter] at hx
   refine B0 (Y3.mp hx.1) fun h1 h2=>?_
   refine ⟨h1,h2,fun w=>?_⟩
   have h3:K1 (base+x.toNat)∉V2 base b0 b1 b2:=by simpa using hx.2
   rw [kX hb _ _ _ (by exact hY h2),li] at h3
   have:x=0∨x=1∨x=2:=by exact ia h1 h2
   rcases this with rfl | rfl | rfl
   ·exact h3 (.inl ⟨rfl,by rw [hb0];simpa using w⟩)
   ·exact h3 (.inr (.inl ⟨rfl,by rw [hb1];simpa using w⟩))
   ·exact h3 (.inr (.inr ⟨rfl,by rw [hb2];simpa using w⟩))
  have fne:1≤k→∃ x r,fr0=x::r:=fun h1=>by
   cases q:fr0 with
   | cons x r=>exact ⟨x,r,rfl⟩
   | nil=>
    refine absurd (fun f hf=>?_) (CM G hfk hlow h1)
    rw [←fU G h1,←htk]
    refine Classical.byContradiction fun w=>?_
    have:(f:Int)∈fr0:=by
     rw [hfr0,List.mem_filter]
     refine ⟨Y3.mpr ⟨by exact q0,by exact rN hf⟩,?_⟩
     rw [decide_eq_true_eq,Int.toNat_natCast,kX hb _ _ _ hf,li,hb0,hb1,hb2]
     have:f=0∨f=1∨f=2:=by exact rM hf
     rcases this with rfl | rfl | rfl <;> simpa using w
    rw [q] at this;cases this
  repeat' walk_at "kl"
  refine ⟨_,B6 PySem.F.slot_list_append PySem.F.type_list_append hln1,?_⟩
  repeat' walk_at "kl"
  have gk:(L0 (Ls++[k])).getD (Int.toNat (Ls.length:Int)) 0=(k:Int):=by simp only [Int.toNat_natCast,aj,show (Ls++[k]).getD Ls.length 0=k from P4]
  have len1:((Ls.length:Nat):Int) < ((L0 (Ls++[k])).length:Nat):=by simp [L0];exact dk
  have T6:(L0 (Ls++[k])).length≤100000:=by simp [L0];exact aT hn
  refine sub_int (by intro _ _;with_unfolding_all rfl) hlv1 (by exact q0) len1 T6 ?_
  simp only [gk]
  repeat' walk_at "kl"
  have fin:∀ f:Nat,f < 3→(1≤k→∀ j,j < Ls.length→LN Ls j=k→r0 ps j < A0 ps Ls.length∧r0 ps Ls.length < A0 ps j→LN fs j≠f)→M0 C A g fr E (.builtin "list.append") [.ref ln,iv (if k=0 then 0 else 3*k - 2+f:Nat)] [] (N0 loc "free" (.ref Df)) p₁ fun v l p=>v=.none∧I0 C A g fr E (execs (Z5.drop 7) fr.env) l p Q:=fun f hf hap=>by
   refine ag hln1 (by simp only [List.length_map,List.length_range];exact dl hn) ⟨rfl,?_⟩
   refine h _ f _ hf hap ?_ (fun b o hb e=>by rw [H0 _ _ hb];exact hs1 _ _ e) fun y v hy e=>I4 (fun w=>hy (by rw [w];decide)) e
   rw [s0,zY G.fl,Cs,List.map_append];rfl
  by_cases hk0:0 < (k:Int)
  ·rw [if_pos (by simpa using hk0)]
   repeat' walk_at "kl"
   refine sub_int (by intro _ _;with_unfolding_all rfl) hlv1 (by exact q0) len1 T6 ?_
   simp only [gk]
   repeat' walk_at "kl"
   refine dY (.of_left (by decide)) ?_
   repeat' walk_at "kl"
   refine i8 (fne (by exact rL hk0)) fun x r hx=>?_
   refine V1 (fmem x (by rw [hx];exact .head _)) fun f1 f2 f3=>?_
   refine M5 (by intro _ _;with_unfolding_all rfl) hF1 (by decide) (by decide) (x:=iv x) (by rw [hx];rfl) ?_
   repeat' walk_at "kl"
   have e:(3:Int)*k - 2+x=((if k=0 then 0 else 3*k - 2+x.toNat:Nat):Int):=by rw [if_neg (by exact rK hk0)];exact rJ hk0 f1
   refine ⟨S4,?_⟩
   rw [e]
   refine fin x.toNat (by exact hY f2) fun h1 j hj hL hm w=>?_
   refine f3 ?_
   rw [htk,show x=((x.toNat:Nat):Int) by exact rI f1,fU G h1]
   exact ⟨j,hj,hL,hm,w⟩
  ·rw [if_neg (by simpa using hk0)]
   repeat' walk_at "kl"
   have e:((if k=0 then 0 else 3*k - 2+0:Nat):Int)=0:=by rw [if_pos (by exact rH hk0)];rfl
   have z:=fin 0 (by decide) fun h1=>by exact (rG h1 hk0).elim
   rw [e] at z
   exact ⟨S4,z⟩
theorem oq {C:Cx} (W:G1 C) {A:Around} {g:Heap} {fr:Fm} {E:Value→Shared→Prop} {loc:j0} {hp:HP} {Q:Flow→j0→HP→Prop} (LA:G5 A fr)
  {S₁ Dm lv ln:Addr} {sts:List Addr} {ps:List (Nat × Nat)} {Ls fs:List Nat} {full base k:Nat}
  (l1:loc "i" = some (iv Ls.length)) (l2:loc "spans" = some (.ref S₁)) (l3:loc "levels" = some (.ref lv)) (l4:loc "lines" = some (.ref ln)) (l5:loc "base" = some (iv base)) (l6:loc "marks" = some (.ref Dm))
  (hP:X3 hp S₁ sts ps) (hlv:hp lv=some (.list ((L0 (Ls++[k])).map iv))) (hln:hp ln=some (.list ((L0 ((List.range Ls.length).map (B1 Ls fs))).map iv))) (hm:hp Dm=some (.list ([base,base+1,base+2].map fun k=>.str (K1 k) 0)))
  (G:H5 ps Ls fs full) (hk:k < full) (hfk:G4 ps Ls k) (hlow:∀ j,j < k→¬G4 ps Ls j) (hlt:∀ j,j≤Ls.length→r0 ps j < A0 ps j) (hb:base < 30) (hn:Ls.length < 10) (hpl:ps.length=10) (hfl:full≤10)
  (h:∀ loc' f p',f < 3→(1≤k→∀ j,j < Ls.length→LN Ls j=k→r0 ps j < A0 ps Ls.length∧r0 ps Ls.length < A0 ps j→LN fs j≠f)→p' ln=some (.list ((L0 ((List.range (Ls++[k]).length).map (B1 (Ls++[k]) (fs++[f])))).map iv))→(∀ b o,b≠ln→hp b=some o→p' b=some o)→
   (∀ y v,y∉(["taken","words","free"]:List Str)→loc y=some v→loc' y=some v)→I0 C A g fr E (execs (Z5.drop 7) fr.env) loc' p' Q) :
  I0 C A g fr E (execs (Z5.drop 2) fr.env) loc hp Q:=by
 obtain ⟨F,hroom,hh,hfrm,hlf,hun,hcode,hqual⟩:=LA
 have hgM:=W.gMet
 refine o0 (W.fMet) fun pmM FM=>?_
 have hgP:=W.gPretty
 refine o0 (W.fPretty) fun pmP FP=>?_
 have hrange:=W.range
 have hsum:=W.sum
 refine Y1 ?_
 repeat' walk_at "kl"
 refine Ak W (by exact q7 hroom) hh hP hlv (by simp [L0]) (by simp [L0];exact q6 hn hpl) (by exact hX hpl) fun D p₁ hs1 hD=>?_
 have hln1:=hs1 _ _ hln
 have hlv1:=hs1 _ _ hlv
 have hm1:=hs1 _ _ hm
 repeat' walk_at "kl"
 obtain ⟨tk,htk⟩:∃ tk,tk=P9 ps Ls fs k:=⟨_,rfl⟩
 refine W4 (X7 ps (L0 (Ls++[k])) Ls.length) (fun v=>[iv v]) (fun v=>iv (((L0 ((List.range Ls.length).map (B1 Ls fs))).getD v.toNat 0 - 1) % 3)) (V6 hh hD ⟨rfl,?len1,?elt1,?done1⟩)
 case len1=>
  refine Nat.le_trans (List.length_filter_le _ _) (Nat.le_trans (List.length_filter_le _ _) ?_)
  simp [O0,L0];exact aT hn
 case elt1=>
  intro v hv g₃ fr₃ E₃ hF₃
  refine P8 (eA.mp hv) fun j hR0 hj Z Z=>?_;subst hR0
  dsimp only [W0,K0]
  repeat' walk_at "kl"
  refine sub_int (by intro _ _;with_unfolding_all rfl) hln1 (by exact q0) (by simp [L0];exact q5 hj) (by simp only [List.length_map,List.length_range];exact dl hn) ?_
  repeat' walk_at "kl"
  exact ⟨rfl,m0.rfl,rfl⟩
 case done1=>
  intro Dk hDk
  have hk1:k0 p₁ Dk (.list ((X7 ps (L0 (Ls++[k])) Ls.length).map fun v=>iv (((L0 ((List.range Ls.length).map (B1 Ls fs))).getD v.toNat 0 - 1) % 3))) Dk=some (.list (tk.map iv)):=by simp only [s0,htk];unfold P9;rw [List.map_map];rfl
  have hs2:=m0.set (o:=.list ((X7 ps (L0 (Ls++[k])) Ls.length).map fun v=>iv (((L0 ((List.range Ls.length).map (B1 Ls fs))).getD v.toNat 0 - 1) % 3))) hDk
  generalize k0 p₁ Dk (.list ((X7 ps (L0 (Ls++[k])) Ls.length).map fun v=>iv (((L0 ((List.range Ls.length).map (B1 Ls fs))).getD v.toNat 0 - 1) % 3)))=p₂ at hk1 hs2 ⊢
  have hln2:=hs2 _ _ hln1
  have hlv2:=hs2 _ _ hlv1
  have hm2:=hs2 _ _ hm1
  obtain ⟨b0,hb0⟩:∃ b,b=decide ((0:Int)∈tk):=⟨_,rfl⟩
  obtain ⟨b1,hb1⟩:∃ b,b=decide ((1:Int)∈tk):=⟨_,rfl⟩
  obtain ⟨b2,hb2⟩:∃ b,b=decide ((2:Int)∈tk):=⟨_,rfl⟩
  repeat' walk_at "kl"
  refine k6 fun r hr=>j7 (O0 0 3) (fun v=>[.int v 0]) (fun x=>if x∈tk then some (iv (1*2 ^ ((base:Int)+x).toNat)) else none) (j5 hh hr (by decide) (by decide) ⟨rfl,by decide,?elt2,?done2⟩)
  case elt2=>
   intro x hx g₃ fr₃ E₃ hF₃
   refine B0 (Y3.mp hx) fun hx1 hx2=>?_
   dsimp only [W0,K0]
   repeat' walk_at "kl"
   refine lX hk1 ⟨_,rfl,rfl,m0.rfl,?_⟩
   by_cases hm:x∈tk
   ·rw [if_pos (by simpa using hm)]
    intro g₄ E₄
    repeat' walk_at "kl"
    refine bB (by exact rF hx1) (by exact rE hb hx2) (by decide) ?_
    exact ⟨rfl,m0.rfl,if_pos hm⟩
   ·rw [if_neg (by simpa using hm)]
    exact if_neg hm
  case done2=>
   intro D2 hD2
   simp only [lh,←hb0,←hb1,←hb2]
   repeat' walk_at "kl"
   have hsm:((U3 b0 b1 b2).map fun f:Nat=>(1*2 ^ ((base:Int)+(f:Int)).toNat:Int)).sum=(xB base b0 b1 b2:Nat):=by
    have e:((U3 b0 b1 b2).map fun f:Nat=>(1*2 ^ ((base:Int)+(f:Int)).toNat:Int))=(U3 b0 b1 b2).map fun f:Nat=>((2 ^ (base+f):Nat):Int):=List.map_congr_left fun f Z=>by
     rw [show ((base:Int)+(f:Int)).toNat=base+f by exact jw];push_cast;exact rD
    simp only [e,gb];rfl
   refine fk (ns:=(U3 b0 b1 b2).map fun f:Nat=>(1*2 ^ ((base:Int)+(f:Int)).toNat:Int)) hh (by simp only [s0,List.map_map];rfl) ?_
   simp only [hsm]
   repeat' walk_at "kl"
   refine jy W (by exact q7 hroom) hh (mB base hb b0 b1 b2).1 fun p₃ hs3=>?_
   have hs3':m0 p₂ p₃:=(m0.set hD2).trans hs3
   refine ⟨_,bH PySem.F.slot_str_split PySem.F.type_str_split,?_⟩
   repeat' walk_at "kl"
   refine ⟨S4,zU (by decide +kernel) (by rw [fO hb];have:=nA hb (b0:=b0) (b1:=b1) (b2:=b2);exact q9 this) fun Dw hDw=>?_⟩
   rw [oY hb]
   have hs4:m0 p₂ (k0 p₃ Dw (.list ((V2 base b0 b1 b2).map fun z=>.str z 0))):=hs3'.trans (m0.set hDw)
   have hW:=s0 p₃ Dw (.list ((V2 base b0 b1 b2).map fun z=>.str z 0))
   generalize k0 p₃ Dw (.list ((V2 base b0 b1 b2).map fun z=>.str z 0))=p₄ at hs4 hW ⊢
   have hln4:=hs4 _ _ hln2
   have hlv4:=hs4 _ _ hlv2
   have hm4:=hs4 _ _ hm2
   have hk4:=hs4 _ _ hk1
   repeat' walk_at "kl"
   refine Fa ?_
   repeat' walk_at "kl"
   refine k6 fun r hr=>j7 (O0 0 3) (fun v=>[.int v 0]) (fun x=>if x∈tk then some (.str (K1 (base+x.toNat)) 0) else none) (j5 hh hr (by decide) (by decide) ⟨rfl,by decide,?elt3,?done3⟩)
   case elt3=>
    intro x hx g₃ fr₃ E₃ hF₃
    refine B0 (Y3.mp hx) fun hx1 hx2=>?_
    dsimp only [W0,K0]
    repeat' walk_at "kl"
    refine lX hk4 ⟨_,rfl,rfl,m0.rfl,?_⟩
    by_cases hm:x∈tk
    ·rw [if_pos (by simpa using hm)]
     intro g₄ E₄
     repeat' walk_at "kl"
     refine M5 (by intro _ _;with_unfolding_all rfl) hm4 hx1 (Int.lt_trans hx2 (by decide)) (jN hx1 hx2) ?_
     exact ⟨rfl,m0.rfl,if_pos hm⟩
    ·rw [if_neg (by simpa using hm)]
     exact if_neg hm
   case done3=>
    intro D5 hD5
    simp only [lh (g:=fun x=>.str (K1 (base+x.toNat)) 0),←hb0,←hb1,←hb2]
    refine oD (s0 ..) (by rw [List.length_map];have:∀ b0 b1 b2:Bool,(U3 b0 b1 b2).length≤3:=(by decide);have:=this b0 b1 b2;exact rC this) ?_
    have fin:∀ (p:HP) (D:Addr),m0 p₄ p→p D=some (.list ((V2 base b0 b1 b2).map fun z=>.str z 0))→I1 C A g fr E (compareOp .NotEq) (.ref Dw) (.ref D) (N0 (N0 loc "taken" (.ref Dk)) "words" (.ref Dw)) p fun v l p=>v=.bool false∧l=N0 (N0 loc "taken" (.ref Dk)) "words" (.ref Dw)∧m0 p₄ p:=fun p D hs e=>
     ay (hs _ _ hW) e rfl (pj fun x hx=>by
      refine z0 (List.mem_map.mp hx) fun z Z hR0=>?_;subst hR0
      exact .inr ⟨z,rfl⟩) (by exact w8 hun) ⟨rfl,rfl,hs⟩
    have tail:∀ p,m0 p₄ p→I0 C A g fr E (execs (Z5.drop 5) fr.env) (N0 (N0 loc "taken" (.ref Dk)) "words" (.ref Dw)) p Q:=fun p hs=>
     om W ⟨F,hroom,hh,hfrm,hlf,hun,hcode,hqual⟩ (by walk_at "loc") (by walk_at "loc") (by walk_at "loc") (by walk_at "loc") (by walk_at "loc") (hs _ _ hlv4) (hs _ _ hln4) (hs _ _ hm4) (hs _ _ hW) htk hb0 hb1 hb2 G hk hfk hlow hb hn hfl
      fun loc' f p' h1 h2 h3 h4 h5=>h loc' f p' h1 h2 h3 (fun b o hb e=>h4 b o hb (hs _ _ (hs4 _ _ (hs2 _ _ (hs1 _ _ e))))) fun y v hy e=>h5 y v hy (I4 (fun w=>hy (by rw [w];decide)) (I4 (fun w=>hy (by rw [w];decide)) e))
    by_cases he:U3 b0 b1 b2=[]
    ·rw [if_neg (by simp [he])]
     repeat' walk_at "kl"
     refine ⟨by decide,fun D6 hD6=>?_⟩
     have e6:k0 (k0 p₄ D5 (.list ((U3 b0 b1 b2).map fun f:Nat=>.str (K1 (base+((f:Int)).toNat)) 0))) D6 (.list [.str "0x0" 0]) D6=some (.list ((V2 base b0 b1 b2).map fun z=>.str z 0)):=by
      rw [s0];unfold V2;rw [if_pos he,nq];rfl
     refine fun x y hx hy=>k7 (fin _ D6 ((m0.set hD5).trans (m0.set hD6)) e6 x y hx hy) fun v l p hZ0=>V1 hZ0 fun e1 e2 e3=>⟨_,e1,?_⟩
     subst e2
     show ite _ _ _;rw [if_neg Bool.false_ne_true]
     exact J7 (tail p e3)
    ·rw [if_pos (by simpa using he)]
     have e6:k0 p₄ D5 (.list ((U3 b0 b1 b2).map fun f:Nat=>.str (K1 (base+((f:Int)).toNat)) 0)) D5=some (.list ((V2 base b0 b1 b2).map fun z=>.str z 0)):=by
      rw [s0];unfold V2;rw [if_neg he,List.map_map];rfl
     refine fun x y hx hy=>k7 (fin _ D5 (m0.set hD5) e6 x y hx hy) fun v l p hZ0=>V1 hZ0 fun e1 e2 e3=>⟨_,e1,?_⟩
     subst e2
     show ite _ _ _;rw [if_neg Bool.false_ne_true]
     exact J7 (tail p e3)
end
section
theorem gp {n:Int} {c:Nat}:(G3 n c).cps.toList=List.replicate n.toNat c:=by rfl
theorem ky:∀ W:List Str,(Txt.join Str.empty W).cps.toList=W.flatMap fun p=>p.cps.toList
 | []=>rfl
 | w::W=>by
  unfold Txt.join Builtin.Str.glued
  show (List.foldl (fun acc p=>acc++Str.empty.cps++p.cps) w.cps W).toList=_
  simp only [eN,List.flatMap_cons]
  congr 1
theorem zj (ps:List (Str × Str)):(P6 ps).cps.toList=ps.flatMap fun v=>v.1.cps.toList++v.2.cps.toList:=by
 unfold P6
 rw [ky,List.flatMap_map]
 congr 1
 funext v
 unfold U7
 rw [ky];simp
theorem ou:R4 []=0:=rfl
theorem oy (v:Str × Str) (ps:List (Str × Str)):R4 (v::ps)=((v.1.length:Int)+v.2.length)+R4 ps:=by
 suffices h:∀ (n:Nat) (ps:List (Str × Str)),ps.length=n→R4 (v::ps)=((v.1.length:Int)+v.2.length)+R4 ps from h _ ps rfl
 intro n
 induction n with
 | zero=>intro ps h;rw [List.length_eq_zero_iff.mp h];have:=cP (ps:=[]) (v:=v);simp only [List.nil_append] at this;rw [this];exact rB
 | succ n ih=>
  intro ps h
  obtain ⟨qs,w,rfl⟩:∃ qs w,ps=qs++[w]:=⟨ps.dropLast,ps.getLast (by rintro rfl;simp at h),(List.dropLast_concat_getLast _).symm⟩
  have e:v::(qs++[w])=(v::qs)++[w]:=rfl
  simp only [e,cP,cP,ih qs (by simpa using h)]
  exact rA
noncomputable def K2 (ps:List (Nat × Nat)):Nat→List Nat→List (Str × Str)
 | _,[]=>[]
 | e,i::ms=>(G3 ((r0 ps i:Int) - e) 32,G3 ((A0 ps i:Int) - r0 ps i) (97+i))::K2 ps (A0 ps i) ms
noncomputable def P2 (ps:List (Nat × Nat)):Nat→List Nat→Nat
 | e,[]=>e
 | _,i::ms=>P2 ps (A0 ps i) ms
noncomputable def A5 (ps:List (Nat × Nat)):Nat→List Nat→Prop
 | _,[]=>True
 | e,i::ms=>e≤r0 ps i∧r0 ps i < A0 ps i∧A5 ps (A0 ps i) ms
section
variable {ps:List (Nat × Nat)}
theorem E8:∀ (ms:List Nat) (e:Nat),(K2 ps e ms).length=ms.length
 | [],_=>rfl
 | i::ms,e=>by simp only [K2,List.length_cons,E8 ms,List.length_cons]
theorem eX:∀ (ms:List Nat) (e:Nat),A5 ps e ms→e≤P2 ps e ms
 | [],_,_=>Nat.le_refl _
 | i::ms,e,⟨h1,h2,h3⟩=>by have:=eX ms _ h3;simp only [P2];exact dj this h2 h1
theorem cQ:∀ (ms:List Nat) (e:Nat),A5 ps e ms→R4 (K2 ps e ms)=(P2 ps e ms:Int) - e
 | [],e,_=>by simp only [K2,ou,P2];exact rz
 | i::ms,e,⟨h1,h2,h3⟩=>by
  simp only [K2,oy,cQ ms _ h3,Y8,Y8,P2]
  exact nY h1 h2
theorem dW:∀ (A:List Nat) (e:Nat) (B:List Nat),K2 ps e (A++B)=K2 ps e A++K2 ps (P2 ps e A) B
 | [],_,_=>rfl
 | i::A,e,B=>by rw [List.cons_append,K2,K2,dW A,P2];rfl
theorem mq:∀ (A:List Nat) (e:Nat) (B:List Nat),A5 ps e (A++B)↔A5 ps e A∧A5 ps (P2 ps e A) B
 | [],_,_=>by simp [A5,P2]
 | i::A,e,B=>by simp only [List.cons_append,A5,A5,mq A,P2,and_assoc,and_assoc]
noncomputable def bR (ps:List (Nat × Nat)) (i:Nat):Int × Str:=((r0 ps i:Int),G3 ((A0 ps i:Int) - r0 ps i) (97+i))
theorem fH:∀ (B:List Nat) (e:Nat),((B.map fun i=>(r0 ps i:Int)).zip (K2 ps e B)).map (fun z=>(z.1,z.2.2))=B.map (bR ps)
 | [],_=>rfl
 | i::B,e=>by rw [K2,List.map_cons,List.zip_cons_cons,List.map_cons,List.map_cons,fH B];rfl
theorem jx {head:Int}:∀ (M A:List Nat),A5 ps 0 (A++M)→(M.map (bR ps)).foldl (O6 head) (K2 ps 0 A)=K2 ps 0 (A++M)
 | [],A,_=>by simp
 | i::M,A,h=>by
  simp only [List.map_cons,List.foldl_cons]
  have hA:=((mq A 0 (i::M)).mp h).1
  have e:O6 head (K2 ps 0 A) (bR ps i)=K2 ps 0 (A++[i]):=by
   delta O6 bR
   rw [dW,cQ A 0 hA]
   congr 1
   show [_]=[_]
   congr 2
   congr 1
   dsimp only
   exact ry
  rw [e,jx M (A++[i]) (by simpa using h)]
  simp
theorem zi {head:Int} {A B:List Nat} {i:Nat} (hb:C2 ((A++B).map fun j=>(r0 ps j:Int)) (r0 ps i)=A.length) (hc:A5 ps 0 (A++i::B)) :
  bA head ((A++B).map fun j=>(r0 ps j:Int)) (K2 ps 0 (A++B)) (r0 ps i) (G3 ((A0 ps i:Int) - r0 ps i) (97+i))=K2 ps 0 (A++i::B):=by
 delta bA bF
 rw [hb,dW,List.take_left' (E8 A 0),List.drop_left' (E8 A 0),List.map_append,List.drop_left' (by exact List.length_map ..),fH]
 exact jx (i::B) A hc
theorem CB {A B:List Nat} {i:Nat} (hb:C2 ((A++B).map fun j=>(r0 ps j:Int)) (r0 ps i)=A.length) :
  S3 ((A++B).map fun j=>(r0 ps j:Int)) (C2 ((A++B).map fun j=>(r0 ps j:Int)) (r0 ps i)) (r0 ps i)=(A++i::B).map fun j=>(r0 ps j:Int):=by
 rw [hb]
 unfold S3
 rw [List.map_append,List.take_left' (by exact List.length_map ..),List.drop_left' (by exact List.length_map ..),List.map_append,List.map_cons]
structure N4 (ps:List (Nat × Nat)) (Ls fs:List Nat) (l:Nat) (ms:List Nat):Prop where
 perm:ms.Perm ((List.range Ls.length).filter fun j=>decide (B1 Ls fs j=l))
 pw:ms.Pairwise fun a b=>A0 ps a≤r0 ps b
theorem N4.mem {Ls fs:List Nat} {l:Nat} {ms:List Nat} (h:N4 ps Ls fs l ms) {j:Nat}:j∈ms↔j < Ls.length∧B1 Ls fs j=l:=by
 rw [h.perm.mem_iff,List.mem_filter,List.mem_range,decide_eq_true_eq]
theorem mo:∀ (ms:List Nat) (e:Nat),(∀ i∈ms,e≤r0 ps i∧r0 ps i < A0 ps i)→(ms.Pairwise fun a b=>A0 ps a≤r0 ps b)→A5 ps e ms
 | [],_,_,_=>trivial
 | i::ms,e,h1,h2=>by
  refine B0 (List.pairwise_cons.mp h2) fun a b=>?_
  refine B0 (h1 i (.head _)) fun c d=>?_
  exact ⟨c,d,mo ms _ (fun j hj=>⟨a j hj,(h1 j (.tail _ hj)).2⟩) b⟩
theorem zZ {Ls fs:List Nat} {l i:Nat} {ms:List Nat} (h:N4 ps Ls fs l ms) (hlt:∀ j∈ms,r0 ps j < A0 ps j) (hi:r0 ps i < A0 ps i) (hap:∀ j∈ms,¬(r0 ps j < A0 ps i∧r0 ps i < A0 ps j)) :
  ∃ A B,ms=A++B∧C2 (ms.map fun j=>(r0 ps j:Int)) (r0 ps i)=A.length∧(A++i::B).Pairwise fun a b=>A0 ps a≤r0 ps b:=by
 have hs:(ms.map fun j=>(r0 ps j:Int)).Pairwise (·≤·):=by
  rw [List.pairwise_map]
  exact h.pw.imp_of_mem fun {a b} ha hb hab=>by have:=hlt a ha;exact hO hab this
 refine B0 (cV hs (p:=fun y=>decide (y≤(r0 ps i:Int))) (fun a b h1 h2=>by simp at h2 ⊢;exact bq h2 h1)) fun s1 s2=>?_
 obtain ⟨k,hk⟩:∃ k,k=C2 (ms.map fun j=>(r0 ps j:Int)) (r0 ps i):=⟨_,rfl⟩
 have hkl:k≤ms.length:=by rw [hk];unfold C2;exact Nat.le_trans List.countP_le_length (by simp)
 refine ⟨ms.take k,ms.drop k,(List.take_append_drop k ms).symm,by simp only [←hk,List.length_take];exact rx hkl,?_⟩
 have a1:∀ j∈ms.take k,r0 ps j≤r0 ps i:=fun j hj=>by
  have:(r0 ps j:Int)∈(ms.map fun j=>(r0 ps j:Int)).take k:=by rw [←List.map_take];exact List.mem_map.mpr ⟨j,hj,rfl⟩
  rw [hk] at this
  have:=s1 _ this
  simp at this;exact dP this
 have a2:∀ j∈ms.drop k,r0 ps i < r0 ps j:=fun j hj=>by
  have:(r0 ps j:Int)∈(ms.map fun j=>(r0 ps j:Int)).drop k:=by rw [←List.map_drop];exact List.mem_map.mpr ⟨j,hj,rfl⟩
  rw [hk] at this
  have:=s2 _ this
  simp at this;exact q5 this
 have hpw:(ms.take k++ms.drop k).Pairwise fun a b=>A0 ps a≤r0 ps b:=by simp only [List.take_append_drop];exact h.pw
 refine V1 (List.pairwise_append.mp hpw) fun w1 w2 w3=>?_
 refine List.pairwise_append.mpr ⟨w1,List.pairwise_cons.mpr ⟨fun b hb=>?_,w2⟩,fun a ha b hb=>?_⟩
 ·have m:=List.mem_of_mem_drop hb
  have:=hap b m
  have:=hlt b m
  have:=a2 b hb
  exact rv this (by assumption) (by assumption)
 ·rcases List.mem_cons.mp hb with rfl | hb
  ·have m:=List.mem_of_mem_take ha
   have:=hap a m
   have:=hlt a m
   have:=a1 a ha
   exact ru this hi (by assumption)
  ·exact w3 a ha b hb
theorem fT {s:Nat→Nat}:∀ (ms:List Nat) (e:Nat),A5 ps e ms→(∀ j∈ms,∀ a,r0 ps j≤a→a < A0 ps j→s a=97+j)→(∀ a,e≤a→a < P2 ps e ms→(∀ j∈ms,¬(r0 ps j≤a∧a < A0 ps j))→s a=32)→
  ((K2 ps e ms).flatMap fun v=>v.1.cps.toList++v.2.cps.toList)=(List.range' e (P2 ps e ms - e)).map s
 | [],e,_,_,_=>by simp [K2,P2]
 | i::ms,e,⟨h1,h2,h3⟩,hs,hb=>by
  have hge:=eX ms _ h3
  have hlow:∀ (ms:List Nat) (e:Nat),A5 ps e ms→∀ j∈ms,e≤r0 ps j:=fun ms=>by
   induction ms with
   | nil=>intro e _ j hj;cases hj
   | cons u ms ih=>
    intro e ⟨c1,c2,c3⟩ j hj
    rcases List.mem_cons.mp hj with rfl | hj
    ·exact c1
    ·have:=ih _ c3 j hj;exact dj this c2 c1
  rw [K2,List.flatMap_cons,fT ms _ h3 (fun j hj=>hs j (.tail _ hj)) (fun a ha ha2 hn=>hb a (by exact dj ha h2 h1) ha2 fun j hj=>by
   rcases List.mem_cons.mp hj with rfl | hj
   ·exact gz ha
   ·exact hn j hj)]
  dsimp only
  simp only [gp,gp,P2]
  have e1:P2 ps (A0 ps i) ms - e=(r0 ps i - e)+((A0 ps i - r0 ps i)+(P2 ps (A0 ps i) ms - A0 ps i)):=by exact rq h1 h2 hge
  have ec:P2 ps e (i::ms)=P2 ps (A0 ps i) ms:=rfl
  simp only [e1,←List.range'_append,List.map_append,←List.range'_append,List.map_append,←List.append_assoc]
  congr 1
  ·congr 1
   ·refine List.ext_getElem (by simp) fun q q1 q2=>?_
    simp only [List.getElem_replicate,List.getElem_map,List.getElem_range']
    simp at q1
    refine (hb _ (by exact rp) (by rw [ec];exact rn hge h2 q1) fun j hj=>?_).symm
    rcases List.mem_cons.mp hj with rfl | hj
    ·exact rm q1
    ·have:=hlow ms _ h3 j hj;exact rl this h2 q1
   ·refine List.ext_getElem (by simp) fun q q1 q2=>?_
    simp only [List.getElem_replicate,List.getElem_map,List.getElem_range']
    simp at q1
    exact (hs i (.head _) _ (by exact rk) (by exact rj h1 q1)).symm
  ·congr 2 <;> exact ri h1 h2
theorem eW:∀ (ms:List Nat) (e:Nat),A5 ps e ms→ms≠[]→(∃ j∈ms,P2 ps e ms=A0 ps j)∧∀ j∈ms,A0 ps j≤P2 ps e ms
 | [],_,_,h=>absurd rfl h
 | [i],e,_,_=>⟨⟨i,.head _,rfl⟩,fun j hj=>by cases List.mem_singleton.mp hj;exact Nat.le_refl _⟩
 | i::j::ms,e,⟨h1,h2,h3⟩,_=>by
  obtain ⟨⟨q,hq,eq⟩,hm⟩:=eW (j::ms) (A0 ps i) h3 (by simp)
  refine ⟨⟨q,.tail _ hq,eq⟩,fun u hu=>?_⟩
  rcases List.mem_cons.mp hu with rfl | hu
  ·exact eX (j::ms) _ h3
  ·exact hm u hu
end
end
section
section
variable {ps:List (Nat × Nat)}
theorem bG {Ls fs:List Nat} (l:Nat):P3 (L0 ((List.range Ls.length).map (B1 Ls fs))) l=((List.range Ls.length).filter fun j=>decide (B1 Ls fs j=l)).map fun j:Nat=>(j:Int):=by
 unfold P3
 have hl:(L0 ((List.range Ls.length).map (B1 Ls fs))).length=Ls.length:=by simp only [List.length_map,List.length_range]
 have e:O0 0 (Ls.length:Int)=(List.range Ls.length).map fun j:Nat=>(j:Int):=by
  unfold O0
  simp only [Int.sub_zero,Int.toNat_natCast]
  exact List.map_congr_left fun j Z=>by exact il
 simp only [hl,e,List.filter_map]
 congr 1
 refine List.filter_congr fun j hj=>?_
 show decide ((L0 _).getD ((j:Int)).toNat 0=(l:Int))=_
 simp only [Int.toNat_natCast,bM (List.mem_range.mp hj)]
 exact decide_eq_decide.mpr (by exact rh)
theorem pg {ms:List Nat} {is:List Int} (hm:∀ v,v∈is↔∃ j∈ms,v=(j:Int)) (hd:∀ i∈ms,∀ j∈ms,i≠j→¬(r0 ps i < A0 ps j∧r0 ps j < A0 ps i)) {j a:Nat} (hj:j∈ms) (h1:r0 ps j≤a) (h2:a < A0 ps j):B7 ps is a=97+j:=by
 unfold B7
 cases q:is.find? fun v=>decide (D7 ps v≤a∧a < K4 ps v) with
 | none=>
  have:=List.find?_eq_none.mp q j ((hm _).mpr ⟨j,hj,rfl⟩)
  simp only [decide_eq_true_eq] at this
  exact absurd ⟨h1,h2⟩ this
 | some v=>
  have hv:=List.find?_some q
  refine z0 ((hm v).mp (List.mem_of_find?_eq_some q)) fun i hi hR0=>?_;subst hR0
  simp only [decide_eq_true_eq] at hv
  have hv1:r0 ps i≤a:=hv.1
  have hv2:a < A0 ps i:=hv.2
  have:i=j:=Classical.byContradiction fun w=>hd i hi j hj w ⟨by exact hJ h2 hv1,by exact hJ hv2 h1⟩
  subst this
  show 97+(i:Int).toNat=_
  simp only [Int.toNat_natCast]
theorem pf {ms:List Nat} {is:List Int} (hm:∀ v,v∈is↔∃ j∈ms,v=(j:Int)) {a:Nat} (h:∀ j∈ms,¬(r0 ps j≤a∧a < A0 ps j)):B7 ps is a=32:=by
 unfold B7
 cases q:is.find? fun v=>decide (D7 ps v≤a∧a < K4 ps v) with
 | none=>rfl
 | some v=>
  have hv:=List.find?_some q
  refine z0 ((hm v).mp (List.mem_of_find?_eq_some q)) fun i hi hR0=>?_;subst hR0
  simp only [decide_eq_true_eq] at hv
  exact absurd ⟨hv.1,hv.2⟩ (h i hi)
theorem N4.dis {Ls fs:List Nat} {l:Nat} {ms:List Nat} (h:N4 ps Ls fs l ms) (hlt:∀ j∈ms,r0 ps j < A0 ps j):∀ i∈ms,∀ j∈ms,i≠j→¬(r0 ps i < A0 ps j∧r0 ps j < A0 ps i):=by
 have hs:ms.Pairwise fun i j=>¬(r0 ps i < A0 ps j∧r0 ps j < A0 ps i):=h.pw.imp fun {a b} hab=>by exact rg hab
 intro i hi j hj hij
 refine o0 (List.mem_iff_getElem?.mp hi) fun x hx=>?_
 refine o0 (List.mem_iff_getElem?.mp hj) fun y hy=>?_
 refine o0 (List.getElem?_eq_some_iff.mp hx) fun x1 hR0=>?_;subst hR0
 refine o0 (List.getElem?_eq_some_iff.mp hy) fun y1 hR0=>?_;subst hR0
 rcases Nat.lt_trichotomy x y with q | q | q
 ·exact List.pairwise_iff_getElem.mp hs x y x1 y1 q
 ·subst q;exact absurd rfl hij
 ·have:=List.pairwise_iff_getElem.mp hs y x y1 x1 q
  exact fun hZ0=>B0 hZ0 fun a b=>this ⟨b,a⟩
theorem N4.chain {Ls fs:List Nat} {l:Nat} {ms:List Nat} (h:N4 ps Ls fs l ms) (hlt:∀ j∈ms,r0 ps j < A0 ps j):A5 ps 0 ms:=mo ms 0 (fun j hj=>⟨Nat.zero_le _,hlt j hj⟩) h.pw
theorem N4.text {Ls fs:List Nat} {l:Nat} {ms:List Nat} (h:N4 ps Ls fs l ms) (hlt:∀ j∈ms,r0 ps j < A0 ps j):P6 (K2 ps 0 ms)=R7 ps (P3 (L0 ((List.range Ls.length).map (B1 Ls fs))) l) (P2 ps 0 ms):=by
 have hm:∀ v,v∈P3 (L0 ((List.range Ls.length).map (B1 Ls fs))) l↔∃ j∈ms,v=(j:Int):=fun v=>by
  rw [bG,List.mem_map]
  constructor
  ·intro hZ0;refine z0 hZ0 fun j hj hR0=>?_;clear hZ0;subst hR0;exact ⟨j,h.perm.mem_iff.mpr hj,rfl⟩
  ·intro hZ0;refine z0 hZ0 fun j hj hR0=>?_;clear hZ0;subst hR0;exact ⟨j,h.perm.mem_iff.mp hj,rfl⟩
 apply Str.ext'
 apply Array.toList_inj.mp
 simp only [zj,fT (s:=B7 ps (P3 (L0 ((List.range Ls.length).map (B1 Ls fs))) l)) ms 0 (h.chain hlt) (fun j hj a h1 h2=>pg hm (h.dis hlt) hj h1 h2) (fun a Z Z hn=>pf hm hn)]
 show (List.range' 0 (P2 ps 0 ms - 0)).map _=(List.range (P2 ps 0 ms)).map _
 simp only [Nat.sub_zero,←List.range_eq_range']
theorem jU {Ls fs:List Nat} {k f j:Nat} (hfl:fs.length=Ls.length) (hj:j < Ls.length):B1 (Ls++[k]) (fs++[f]) j=B1 Ls fs j:=by
 unfold B1;rw [o3 hj,o3 (by exact q8 hj hfl)]
theorem lu {Ls fs:List Nat} {k f l:Nat} (hfl:fs.length=Ls.length):((List.range (Ls++[k]).length).filter fun j=>decide (B1 (Ls++[k]) (fs++[f]) j=l))=((List.range Ls.length).filter fun j=>decide (B1 Ls fs j=l))++if B1 (Ls++[k]) (fs++[f]) Ls.length=l then [Ls.length] else []:=by
 simp only [List.length_append,List.length_singleton,List.range_succ,List.filter_append]
 congr 1
 ·exact List.filter_congr fun j hj=>by rw [jU hfl (List.mem_range.mp hj)]
 ·rw [List.filter_cons]
  by_cases q:B1 (Ls++[k]) (fs++[f]) Ls.length=l
  ·rw [if_pos (by simpa using q),if_pos q];rfl
  ·rw [if_neg (by simpa using q),if_neg q];rfl
theorem N4.step {Ls fs:List Nat} {k f:Nat} {A B:List Nat} (hfl:fs.length=Ls.length) (h:N4 ps Ls fs (B1 (Ls++[k]) (fs++[f]) Ls.length) (A++B)) (hp:(A++Ls.length::B).Pairwise fun a b=>A0 ps a≤r0 ps b):N4 ps (Ls++[k]) (fs++[f]) (B1 (Ls++[k]) (fs++[f]) Ls.length) (A++Ls.length::B) where
 perm:=by
  rw [lu hfl,if_pos rfl]
  exact (List.perm_middle.trans (h.perm.cons _)).trans (List.perm_append_singleton _ _).symm
 pw:=hp
theorem N4.other {Ls fs:List Nat} {k f l:Nat} {ms:List Nat} (hfl:fs.length=Ls.length) (h:N4 ps Ls fs l ms) (hl:B1 (Ls++[k]) (fs++[f]) Ls.length≠l):N4 ps (Ls++[k]) (fs++[f]) l ms where
 perm:=by rw [lu hfl,if_neg hl,List.append_nil];exact h.perm
 pw:=h.pw
theorem dU (hl:∀ j,r0 ps j≤15) (hh:∀ j,A0 ps j≤23):∀ (ms:List Nat) (e:Nat),∀ v∈K2 ps e ms,v.1.length≤100∧v.2.length≤100
 | [],e,v,h=>by cases h
 | i::ms,e,v,h=>by
  rcases List.mem_cons.mp h with rfl | h
  ·simp only [Y8,Y8]
   have h1:=hh i
   have h2:=hl i
   exact rf h2 h1
  ·exact dU hl hh ms _ v h
end
end
section
structure o7 (ps:List (Nat × Nat)) (Ls fs:List Nat) (nl:Nat) (head:Int) (p:HP) (xts:List Addr) (stss:List (List Int)) (tt:Nat→List Addr) (mss:Nat→List Nat):Prop where
 pile:∀ l,l < nl→I6 p (xts.getD l 0) head (tt l) (K2 ps 0 (mss l))
 on:∀ l,l < nl→N4 ps Ls fs l (mss l)
 st:∀ l,l < nl→stss.getD l []=(mss l).map fun j=>(r0 ps j:Int)
theorem X3.frame {p p':HP} {a:Addr} {ts:List Addr} {ps:List (Nat × Nat)} (h:X3 p a ts ps) (ha:p' a=p a) (ht:∀ T xs,p T=some (.tuple xs)→p' T=some (.tuple xs)):X3 p' a ts ps:=
 ⟨ha.trans h.1,h.2.1,fun k T v e1 e2=>ht T _ (h.2.2 k T v e1 e2)⟩
theorem oj {C:Cx} (W:G1 C) (AW:K6 C) (A2:t7 C) (A3:O7 C) {A:Around} {g:Heap} {fr:Fm} {E:Value→Shared→Prop} {loc:j0} {hp:HP} {Q:Flow→j0→HP→Prop} (LA:G5 A fr)
  {role:Addr→Nat} {Fix:HP} {lv ln fi la:Addr} {bts ets tts rts xts:List Addr} (LY:K9 role Fix lv ln fi la bts ets tts rts xts) {S₁ pl st T:Addr} {sts:List Addr} {ps:List (Nat × Nat)} {Ls fs:List Nat} {full k f:Nat} {head:Int} {stss:List (List Int)} {tt:Nat→List Addr} {mss:Nat→List Nat}
  (l1:loc "i" = some (iv Ls.length)) (l2:loc "span" = some (.ref T)) (l3:loc "piles" = some (.ref pl)) (l4:loc "lines" = some (.ref ln)) (l5:loc "starts" = some (.ref st)) (l6:loc "spans" = some (.ref S₁)) (l7:loc "head" = some (iv head))
  (hP:X3 hp S₁ sts ps) (hln:hp ln=some (.list ((L0 ((List.range (Ls++[k]).length).map (B1 (Ls++[k]) (fs++[f])))).map iv))) (hsp:hp T=some (.tuple [iv (r0 ps Ls.length),iv (A0 ps Ls.length)]))
  (hpl:hp pl=some (.list (xts.map .ref))) (hst:Y0 hp st rts stss) (rpl:role pl=0) (rst:role st=0) (rS:role S₁=0) (hxl:xts.length=3*full - 2) (hsl:stss.length=3*full - 2) (hxn:xts.Nodup)
  (PO:o7 ps Ls fs (3*full - 2) head hp xts stss tt mss) (h113:hp 113=some O2) (h120:hp 120=some O2)
  (G:H5 ps (Ls++[k]) (fs++[f]) full) (hfl:fs.length=Ls.length) (hlo:∀ j,r0 ps j≤15) (hhi:∀ j,A0 ps j≤23) (hlt:∀ j,j≤Ls.length→r0 ps j < A0 ps j) (hn:Ls.length < 10) (hpl10:ps.length=10) (hf:full≤10) (hh3:1≤head∧head≤3)
  (h:∀ loc' p' stss' tt' mss',o7 ps (Ls++[k]) (fs++[f]) (3*full - 2) head p' xts stss' tt' mss'→Y0 p' st rts stss'→(∀ b o,role b≠8→role b≠9→hp b=some o→p' b=some o)→(∀ b o,(∀ xs,o≠.list xs)→(∀ c d xs,o≠.acc c d xs)→hp b=some o→p' b=some o)→
   (∀ (y:Str) v,y≠"pile"→loc y=some v→loc' y=some v)→I0 C A g fr E (execs (Z5.drop 10) fr.env) loc' p' Q) :
  I0 C A g fr E (execs (Z5.drop 7) fr.env) loc hp Q:=by
 obtain ⟨F,hroom,hh,hfrm,hlf,hun,hcode,hqual⟩:=LA
 have hgPl:=W.gPlace
 refine o0 (W.fPlace) fun pmP FP=>?_
 have hgT:=W.gText
 refine o0 (W.fText) fun pmT FT=>?_
 have hstr:=W.strT
 have hlen:=W.len
 have hchr:=W.chr
 have hl9:(Ls++[k]).length=Ls.length+1:=by simp
 obtain ⟨l0,hl0⟩:∃ l,l=B1 (Ls++[k]) (fs++[f]) Ls.length:=⟨_,rfl⟩
 have hl0lt:l0 < 3*full - 2:=by rw [hl0];exact jV G (by exact k9 hl9)
 have gln:(L0 ((List.range (Ls++[k]).length).map (B1 (Ls++[k]) (fs++[f])))).getD (Int.toNat (Ls.length:Int)) 0=(l0:Int):=by
  simp only [Int.toNat_natCast,hl0];exact bM (by exact k9 hl9)
 have len1:((Ls.length:Nat):Int) < ((L0 ((List.range (Ls++[k]).length).map (B1 (Ls++[k]) (fs++[f])))).length:Nat):=by simp [L0];exact dk
 have T6:(L0 ((List.range (Ls++[k]).length).map (B1 (Ls++[k]) (fs++[f])))).length≤100000:=by simp [L0];exact aT hn
 obtain ⟨x,hx⟩:∃ x,xts[l0]?=some x:=⟨_,List.getElem?_eq_getElem (by exact aR hl0lt hxl)⟩
 have hxx:xts.getD l0 0=x:=by rw [List.getD_eq_getElem?_getD,hx];rfl
 refine Y1 ?_
 repeat' walk_at "kl"
 refine sub_int (by intro _ _;with_unfolding_all rfl) hln (by exact q0) len1 T6 ?_
 rw [gln]
 refine M5 (by intro _ _;with_unfolding_all rfl) hpl (by exact q0) (nX hl0lt hf) (x:=.ref x) (by simp only [Int.toNat_natCast,List.getElem?_map,hx];rfl) ?_
 repeat' walk_at "kl"
 refine sub_int (by intro _ _;with_unfolding_all rfl) hln (by exact q0) len1 T6 ?_
 simp only [gln]
 refine m8 (by intro _ _;with_unfolding_all rfl) hst (by exact q0) (by exact rd hl0lt hsl) (by exact rc hf hsl) fun sa hsa hsaV=>?_
 simp only [Int.toNat_natCast] at hsa hsaV
 repeat' walk_at "kl"
 refine mw (by exact qZ) (by exact qY hn) ?_
 rw [show ((97:Int)+(Ls.length:Nat)).toNat=97+Ls.length by exact qX]
 repeat' walk_at "kl"
 have hon:=PO.on l0 hl0lt
 have hmlt:∀ j∈mss l0,r0 ps j < A0 ps j:=fun j hj=>hlt j (by have:=(hon.mem.mp hj).1;exact D8 this)
 have hap:∀ j∈mss l0,¬(r0 ps j < A0 ps Ls.length∧r0 ps Ls.length < A0 ps j):=fun j hj=>by
  refine B0 (hon.mem.mp hj) fun j1 j2=>?_
  exact jT G (fun j hj=>hlt j (by exact hB hl9 hj)) (by exact aU j1 hl9) (by exact k9 hl9) (by exact V9 j1) (by rw [jU hfl j1,j2,hl0])
 refine eZ (zZ hon hmlt (hlt Ls.length (Nat.le_refl _)) hap) fun P B hm hbis hpw=>?_
 have hmlen:(mss l0).length≤10:=by
  have:=hon.perm.length_eq
  rw [this]
  exact Nat.le_trans (List.length_filter_le _ _) (by simp;exact qW hn)
 have hpile:=PO.pile l0 hl0lt
 rw [hxx] at hpile
 have hsa':hp sa=some (.list (((mss l0).map fun j=>(r0 ps j:Int)).map iv)):=by rw [hsaV,PO.st l0 hl0lt]
 have hnew:N4 ps (Ls++[k]) (fs++[f]) l0 (P++Ls.length::B):=by rw [hl0];exact N4.step hfl (by simp only [←hl0,←hm];exact hon) hpw
 have hnlt:∀ j∈P++Ls.length::B,r0 ps j < A0 ps j:=fun j hj=>hlt j (by have:=(hnew.mem.mp hj).1;exact hB hl9 this)
 have hchain:=hnew.chain hnlt
 refine Ai W AW A2 (by exact qV hroom) hh hpile hsa' hsp h113 (by simp only [List.length_map,E8]) (by rw [E8];exact qU hmlen) ?_ ?_ (dU hlo hhi _ _) (hlt _ (Nat.le_refl _)) (by have:=hhi Ls.length;exact dn this) (by exact qS hh3) fun ts' p₁ hp1 hs1 hfr=>?_
 ·rw [List.pairwise_map]
  exact hon.pw.imp_of_mem fun {a b} ha hb hab=>by have:=hmlt a ha;exact hO hab this
 ·intro v hv
  refine z0 (List.mem_map.mp hv) fun j Z hR0=>?_;subst hR0
  have:=hlo j;exact qR this
 rw [hm] at hp1 hs1 hbis
 rw [zi hbis hchain] at hp1
 rw [CB hbis] at hs1
 have hsax:sa≠x:=by
  rintro rfl
  refine z0 (hpile.acc) fun d e Z=>?_
  rw [hsa'] at e;exact R3 e
 have hrx:role x=9:=LY.xts x (List.mem_of_getElem? hx)
 have hrs:role sa=8:=LY.rts sa (List.mem_of_getElem? hsa)
 have fr1:∀ b o,role b≠8→role b≠9→hp b=some o→p₁ b=some o:=fun b o h8 h9 e=>hfr b o (by rintro rfl;exact h9 hrx) (by rintro rfl;exact h8 hrs) e
 have fr2:∀ b o,(∀ xs,o≠.list xs)→(∀ c d xs,o≠.acc c d xs)→hp b=some o→p₁ b=some o:=fun b o h8 h9 e=>hfr b o (by
  rintro rfl
  refine z0 (hpile.acc) fun d e' Z=>?_
  rw [e'] at e;injection e with e;exact h9 _ _ _ e.symm) (by rintro rfl;rw [hsa'] at e;injection e with e;exact h8 _ e.symm) e
 have t113:=fr2 113 _ (fun xs=>by unfold O2;simp) (fun Z Z Z=>by unfold O2;simp) h113
 have t120:=fr2 120 _ (fun xs=>by unfold O2;simp) (fun Z Z Z=>by unfold O2;simp) h120
 have hlen3:(K2 ps 0 (P++Ls.length::B)).length≤50:=by
  rw [E8]
  have:=congrArg List.length hm
  simp at this ⊢;exact qQ this hmlen
 have hsm:=dU hlo hhi (P++Ls.length::B) 0
 refine ⟨rfl,?_⟩
 repeat' walk_at "kl"
 refine Eb W AW A2 (by exact w8 hun) (by exact aV hroom) hh hp1 t120 hlen3 (fun v hv=>by have:=hsm v hv;exact qP this) ?_
 repeat' walk_at "kl"
 have htot:preSum (J4 (K2 ps 0 (P++Ls.length::B))) (K2 ps 0 (P++Ls.length::B)).length=(P2 ps 0 (P++Ls.length::B):Int):=by
  have:=cQ _ 0 hchain
  unfold R4 at this
  exact qO this
 have hend:P2 ps 0 (P++Ls.length::B)≤23:=by
  obtain ⟨⟨j,_,e⟩,_⟩:=eW _ 0 hchain (by simp)
  rw [e];exact hhi j
 refine mu W AW A2 (by exact aV hroom) hh hp1 t113 (fun v hv=>by have:=hsm v hv;exact jg this) (by rw [htot];exact qN hh3) (by rw [htot];exact nW hh3 hend) ?_
 simp only [htot]
 repeat' walk_at "kl"
 refine z0 (AW.K) fun K X AK=>?_
 refine o0 (A3.fCount) fun pmC FC=>?_
 refine ⟨_,em X AK hp1.acc AK.pcount (by decide) (fun Z Z Z Z=>by rfl),?_⟩
 repeat' walk_at "kl"
 refine ⟨bN FC,zm W A3 (by exact q7 hroom) hp1.acc ?_⟩
 repeat' walk_at "kl"
 refine ⟨by simp,fun Ta hTa=>?_⟩
 have sTa:=m0.set (o:=.tuple [.str (P6 (K2 ps 0 (P++Ls.length::B))) 0,.int (head+(P2 ps 0 (P++Ls.length::B):Nat) - head) 0,iv (ts'.map Value.ref).length]) hTa
 have eTa:=s0 p₁ Ta (.tuple [.str (P6 (K2 ps 0 (P++Ls.length::B))) 0,.int (head+(P2 ps 0 (P++Ls.length::B):Nat) - head) 0,iv (ts'.map Value.ref).length])
 generalize k0 p₁ Ta (.tuple [.str (P6 (K2 ps 0 (P++Ls.length::B))) 0,.int (head+(P2 ps 0 (P++Ls.length::B):Nat) - head) 0,iv (ts'.map Value.ref).length])=p₂ at sTa eTa ⊢
 have hln2:=sTa _ _ (fr1 ln _ (by rw [LY.ln];decide) (by rw [LY.ln];decide) hln)
 have hP1:X3 p₁ S₁ sts ps:=hP.frame ((fr1 S₁ _ (by rw [rS];decide) (by rw [rS];decide) hP.1).trans hP.1.symm) fun U xs e=>fr2 U _ (fun Z=>by simp) (fun Z Z Z=>by simp) e
 have hP2:=hP1.mono sTa
 repeat' walk_at "kl"
 refine sub_int (by intro _ _;with_unfolding_all rfl) hln2 (by exact q0) len1 T6 ?_
 simp only [gln]
 repeat' walk_at "kl"
 have hin:(l0:Int)∈L0 ((List.range (Ls++[k]).length).map (B1 (Ls++[k]) (fs++[f]))):=by
  simp only [hl0]
  exact List.mem_map.mpr ⟨_,List.mem_map.mpr ⟨Ls.length,List.mem_range.mpr (by exact k9 hl9),rfl⟩,rfl⟩
 refine Af W (by exact q7 hroom) hh hP2 hln2 hin (by simp [L0];exact q6 hn hpl10) (by exact hX hpl10) (fun v hv=>?_) fun D p₃ M hs3 hM1 hM2 hD=>?_
 ·refine o0 (List.mem_iff_getElem?.mp hv) fun j hj=>?_
  have:=hhi j
  unfold A0 at this
  rw [List.getD_eq_getElem?_getD,hj] at this
  simp only [Option.getD_some] at this
  exact dn this
 have hME:M=P2 ps 0 (P++Ls.length::B):=by
  obtain ⟨⟨j,j1,j2⟩,jm⟩:=eW _ 0 hchain (by simp)
  refine z0 (List.mem_map.mp hM1) fun v v1 v2=>?_
  rw [bG,List.mem_map] at v1
  refine z0 v1 fun u u1 hR0=>?_;try clear v1;subst hR0
  have u2:=jm u (hnew.perm.mem_iff.mpr u1)
  have u3:=hM2 (j:Int) (by rw [bG];exact List.mem_map.mpr ⟨j,hnew.perm.mem_iff.mp j1,rfl⟩)
  have v3:A0 ps u=M:=v2
  have u4:A0 ps j≤M:=u3
  exact qM v3 u2 u4 j2
 have eD:p₃ D=some (.tuple [.str (P6 (K2 ps 0 (P++Ls.length::B))) 0,.int (head+(P2 ps 0 (P++Ls.length::B):Nat) - head) 0,iv (ts'.map Value.ref).length]):=by
  simp only [hD,hnew.text hnlt,←hME,show head+(M:Int) - head=M by exact qL]
  have e1:(ts'.map Value.ref).length=(P3 (L0 ((List.range (Ls++[k]).length).map (B1 (Ls++[k]) (fs++[f])))) l0).length:=by
   simp only [List.length_map,hp1.len,E8,bG,List.length_map]
   exact hnew.perm.length_eq
  rw [e1]
 refine Dx (hs3 _ _ eTa) eD (fun v hv=>?_) (by exact w8 hun) ⟨_,rfl,?_⟩
 ·rcases List.mem_cons.mp hv with rfl | hv
  ·exact .inr ⟨_,rfl⟩
  rcases List.mem_cons.mp hv with rfl | hv
  ·exact .inl ⟨_,rfl⟩
  cases List.mem_singleton.mp hv
  exact .inl ⟨_,rfl⟩
 show ite _ _ _;rw [if_neg Bool.false_ne_true]
 refine J7 ?_
 have sub13:m0 p₁ p₃:=sTa.trans hs3
 obtain ⟨mss',hmss'⟩:∃ m:Nat→List Nat,m=fun l=>if l=l0 then P++Ls.length::B else mss l:=⟨_,rfl⟩
 obtain ⟨tt',htt'⟩:∃ m:Nat→List Addr,m=fun l=>if l=l0 then ts' else tt l:=⟨_,rfl⟩
 refine h _ p₃ (stss.set l0 ((P++Ls.length::B).map fun j=>(r0 ps j:Int))) tt' mss' ⟨fun l hl=>?_,fun l hl=>?_,fun l hl=>?_⟩ ?_ (fun b o h8 h9 e=>sub13 _ _ (fr1 b o h8 h9 e)) (fun b o h8 h9 e=>sub13 _ _ (fr2 b o h8 h9 e)) fun y v hy e=>I4 hy e
 ·rw [htt',hmss']
  dsimp only
  by_cases w:l=l0
  ·subst w
   rw [if_pos rfl,if_pos rfl,hxx]
   exact ⟨hp1.acc.mono sub13,hp1.len,fun k T v a b=>sub13 _ _ (hp1.at_ k T v a b)⟩
  ·rw [if_neg w,if_neg w]
   have hq:=PO.pile l hl
   obtain ⟨x',hx'⟩:∃ x',xts[l]?=some x':=⟨_,List.getElem?_eq_getElem (by exact aR hl hxl)⟩
   have hxx':xts.getD l 0=x':=by rw [List.getD_eq_getElem?_getD,hx'];rfl
   rw [hxx'] at hq ⊢
   have hne:x'≠x:=by
    rintro rfl
    exact w ((List.getElem?_inj (i:=l) (j:=l0) (by exact aR hl hxl) hxn).mp (hx'.trans hx.symm))
   have hrx':role x'=9:=LY.xts x' (List.mem_of_getElem? hx')
   refine z0 (hq.acc) fun d e1 e2=>?_
   refine ⟨⟨d,sub13 _ _ (hfr x' _ hne (by rintro rfl;rw [hrs] at hrx';cases hrx') e1),sub13 _ _ (fr2 d _ (fun Z=>by unfold S5;simp) (fun Z Z Z=>by unfold S5;simp) e2)⟩,hq.len,fun k T v a b=>sub13 _ _ (fr2 T _ (fun Z=>by simp) (fun Z Z Z=>by simp) (hq.at_ k T v a b))⟩
 ·rw [hmss']
  dsimp only
  by_cases w:l=l0
  ·subst w;rw [if_pos rfl];exact hnew
  ·rw [if_neg w];exact N4.other hfl (PO.on l hl) (by rw [←hl0];exact Ne.symm w)
 ·rw [hmss',eO (by exact aR hl hsl)]
  dsimp only
  by_cases w:l=l0
  ·subst w;rw [if_pos rfl,if_pos rfl]
  ·rw [if_neg w,if_neg (Ne.symm w)];exact PO.st l hl
 ·have hR1:Y0 p₁ st rts (stss.set l0 ((P++Ls.length::B).map fun j=>(r0 ps j:Int))):=by
   have u:=hst.upd hsa ((P++Ls.length::B).map fun j=>(r0 ps j:Int))
   refine ⟨fr1 st _ (by rw [rst];decide) (by rw [rst];decide) hst.1,u.2.1,u.2.2.1,fun j U r e1 e2=>?_⟩
   have z:=u.2.2.2 j U r e1 e2
   by_cases w:U=sa
   ·subst w
    rw [s0] at z
    rw [hs1];exact z
   ·rw [H0 _ _ w] at z
    have hrU:role U=8:=LY.rts U (List.mem_of_getElem? e1)
    exact hfr U _ (by rintro rfl;rw [hrx] at hrU;cases hrU) w z
  exact hR1.mono sub13
end
section
noncomputable abbrev ka (p0:Pos):Arguments:={posonlyargs:=[],args:=[{arg:="pair",annotation:=none,pos:=p0}],vararg:=none,kwonlyargs:=[],kw_defaults:=[],kwarg:=none,defaults:=[]}
noncomputable abbrev kb (p1 p2 p3:Pos):Expr:=.Subscript (.Name "pair" p1) (.Constant (.int 0) 0 p2) p3
noncomputable abbrev jZ:Scope:={kind:=.function,names:=[("pair",.local)],isGenerator:=false,isCoroutine:=false}
theorem eF {C:Cx} (W:G1 C) {p:HP} {f c' T:Addr} {q:Str} {p0 p1 p2 p3:Pos} {pm ctv:Value} {x:Int} {y:Value} (hf:p f=some (.obj (kla_obj "<lambda>" q (ka p0) (kb p1 p2 p3) jZ [] pm c' ctv))) (hc:p c'=some (Q5 q)) (hT:p T=some (.tuple [iv x,y])):cM C p f (.ref T) x:=by
 intro A g fr E loc Q hroom hQ
 refine I3 fun v hv=>?_
 refine EP hf hc W.lim hroom rfl rfl rfl (binds:=[("pair",v)]) (by rfl) (by rfl) (by rfl) fun A' g' fr' E' a1 a2 F=>?_
 dsimp only [X1]
 rw [hv]
 repeat' walk_at "kl"
 exact hQ
noncomputable def Y4 (key:Nat→Nat) (p:HP) (a:Addr) (zs:List (Addr × Nat)):Prop:=p a=some (.list (zs.map fun z=>.ref z.1))∧∀ z∈zs,p z.1=some (.tuple [iv (key z.2),iv z.2])
theorem Y4.keys {C:Cx} (W:G1 C) {key:Nat→Nat} {p:HP} {a:Addr} {zs:List (Addr × Nat)} (h:Y4 key p a zs) {f c':Addr} {q:Str} {p0 p1 p2 p3:Pos} {pm ctv:Value} (hf:p f=some (.obj (kla_obj "<lambda>" q (ka p0) (kb p1 p2 p3) jZ [] pm c' ctv))) (hc:p c'=some (Q5 q)):aH C p f (zs.map fun z=>.ref z.1) (zs.map fun z=>(key z.2:Int)) where
 obj:=⟨_,_,hf,rfl⟩
 len:=by simp
 at_:=fun i T x e1 e2=>by
  rw [List.getElem?_map] at e1 e2
  refine z0 (Option.map_eq_some_iff.mp e1) fun z hz hR0=>?_;subst hR0
  rw [hz] at e2;injection e2 with e2;subst e2
  exact eF W hf hc (h.2 z (List.mem_of_getElem? hz))
theorem CA {zs:List (Addr × Nat)} {k:Nat} {z:Addr × Nat}:T4 (zs.map fun z=>Value.ref z.1) k (.ref z.1)=(zs.take k++z::zs.drop k).map fun z=>Value.ref z.1:=by
 unfold T4;simp only [List.map_append,List.map_cons,List.map_take,List.map_drop]
noncomputable def RF (ps:List (Nat × Nat)) (a b:Nat):Prop:=r0 ps a < r0 ps b∨(r0 ps a=r0 ps b∧b < a)
noncomputable def RL (ps:List (Nat × Nat)) (a b:Nat):Prop:=A0 ps a < A0 ps b∨(A0 ps a=A0 ps b∧a < b)
structure cL (ps:List (Nat × Nat)) (n:Nat) (p:HP) (fi la:Addr) (zf zl:List (Addr × Nat)):Prop where
 f:Y4 (r0 ps) p fi zf
 l:Y4 (A0 ps) p la zl
 fp:(zf.map Prod.snd).Perm (List.range n)
 lp:(zl.map Prod.snd).Perm (List.range n)
 fs:(zf.map Prod.snd).Pairwise (RF ps)
 ls:(zl.map Prod.snd).Pairwise (RL ps)
theorem kO {zs:List (Addr × Nat)} {n k:Nat} {T:Addr} (h:(zs.map Prod.snd).Perm (List.range n)):((zs.take k++(T,n)::zs.drop k).map Prod.snd).Perm (List.range (n+1)):=by
 have e:(zs.take k++(T,n)::zs.drop k).Perm ((T,n)::zs):=by
  refine List.perm_middle.trans ?_
  rw [List.take_append_drop]
 refine (e.map Prod.snd).trans ?_
 rw [List.range_succ,List.map_cons]
 exact (h.cons n).trans (List.perm_append_singleton _ _).symm
theorem kN {zs:List (Addr × Nat)} {n:Nat} {T:Addr} {R:Nat→Nat→Prop} {key:Nat→Nat} {p:Int→Bool} (hs:(zs.map Prod.snd).Pairwise R) (hk:(zs.map fun z=>(key z.2:Int)).Pairwise (·≤·)) (hp:∀ a b,a≤b→p b=true→p a=true)
  (h1:∀ i∈zs.map Prod.snd,p (key i)=true→R i n) (h2:∀ i∈zs.map Prod.snd,p (key i)=false→R n i):((zs.take ((zs.map fun z=>(key z.2:Int)).countP p)++(T,n)::zs.drop ((zs.map fun z=>(key z.2:Int)).countP p)).map Prod.snd).Pairwise R:=by
 refine B0 (cV hk hp) fun a b=>?_
 generalize (zs.map fun z=>(key z.2:Int)).countP p=k at a b
 have hs':((zs.map Prod.snd).take k++(zs.map Prod.snd).drop k).Pairwise R:=by rw [List.take_append_drop];exact hs
 refine V1 (List.pairwise_append.mp hs') fun s1 s2 s3=>?_
 rw [List.map_append,List.map_cons,List.map_take,List.map_drop]
 have m1:∀ i∈(zs.map Prod.snd).take k,R i n:=fun i hi=>by
  refine h1 i (List.mem_of_mem_take hi) (a _ ?_)
  rw [←List.map_take] at hi ⊢
  refine z0 (List.mem_map.mp hi) fun z hz hR0=>?_;subst hR0
  exact List.mem_map.mpr ⟨z,hz,rfl⟩
 have m2:∀ i∈(zs.map Prod.snd).drop k,R n i:=fun i hi=>by
  refine h2 i (List.mem_of_mem_drop hi) (b _ ?_)
  rw [←List.map_drop] at hi ⊢
  refine z0 (List.mem_map.mp hi) fun z hz hR0=>?_;subst hR0
  exact List.mem_map.mpr ⟨z,hz,rfl⟩
 refine List.pairwise_append.mpr ⟨s1,List.pairwise_cons.mpr ⟨m2,s2⟩,fun u hu v hv=>?_⟩
 rcases List.mem_cons.mp hv with rfl | hv
 ·exact m1 u hu
 ·exact s3 u hu v hv
theorem Y4.ins {key:Nat→Nat} {p p':HP} {a T:Addr} {zs:List (Addr × Nat)} {n k:Nat} (h:Y4 key p a zs) (hT:p T=some (.tuple [iv (key n),iv n])) (ha:p' a=some (.list (T4 (zs.map fun z=>Value.ref z.1) k (.ref T)))) (hk:∀ b xs,p b=some (.tuple xs)→p' b=some (.tuple xs)):Y4 key p' a (zs.take k++(T,n)::zs.drop k):=by
 refine ⟨by simp only [ha];exact congrArg (fun l=>some (AO.list l)) (CA (z:=(T,n))),fun z hz=>?_⟩
 rcases List.mem_append.mp hz with hz | hz
 ·exact hk _ _ (h.2 z (List.mem_of_mem_take hz))
 ·rcases List.mem_cons.mp hz with rfl | hz
  ·exact hk _ _ hT
  ·exact hk _ _ (h.2 z (List.mem_of_mem_drop hz))
theorem Y4.frame {key:Nat→Nat} {p p':HP} {a:Addr} {zs:List (Addr × Nat)} (h:Y4 key p a zs) (ha:p' a=p a) (hk:∀ b xs,p b=some (.tuple xs)→p' b=some (.tuple xs)):Y4 key p' a zs:=⟨ha.trans h.1,fun z hz=>hk _ _ (h.2 z hz)⟩
theorem oi {C:Cx} (W:G1 C) (CH:CodeHd C.H₀ 194 192) (BI:N9 C) {A:Around} {g:Heap} {fr:Fm} {E:Value→Shared→Prop} {loc:j0} {hp:HP} {Q:Flow→j0→HP→Prop} (LA:G5 A fr)
  {role:Addr→Nat} {Fix:HP} {lv ln fi la T:Addr} {bts ets tts rts xts:List Addr} (LY:K9 role Fix lv ln fi la bts ets tts rts xts) {ps:List (Nat × Nat)} {n:Nat} {zf zl:List (Addr × Nat)}
  (l1:loc "i" = some (iv n)) (l2:loc "span" = some (.ref T)) (l3:loc "firsts" = some (.ref fi)) (l4:loc "lasts" = some (.ref la))
  (hsp:hp T=some (.tuple [iv (r0 ps n),iv (A0 ps n)])) (RO:cL ps n hp fi la zf zl) (hn:n < 10)
  (L:O4 hp 192 "law.<locals>.<lambda>")
  (h:∀ p' zf' zl',cL ps (n+1) p' fi la zf' zl'→O4 p' 192 "law.<locals>.<lambda>"→(∀ b o,role b≠3→role b≠4→role b≠10→hp b=some o→p' b=some o)→(∀ b o,b≠192→(∀ xs,o≠.list xs)→hp b=some o→p' b=some o)→Q .next loc p') :
  I0 C A g fr E (execs (Z5.drop 10) fr.env) loc hp Q:=by
 obtain ⟨F,hroom,hh,hfrm,hlf,hun,hcode,hqual⟩:=LA
 have hgR:=W.gIR
 refine o0 (W.fIR) fun pmR FR=>?_
 have hgL:=W.gIL
 refine o0 (W.fIL) fun pmL FL=>?_
 have r192:=LY.t192
 have rfi:=LY.fi
 have rla:=LY.la
 have nfi:fi≠192:=by rintro rfl;exact qK r192 rfi
 have nla:la≠192:=by rintro rfl;exact qJ r192 rla
 have nfl:la≠fi:=by rintro rfl;exact qI rfi rla
 have o192:∃ o,hp 192=some (.obj o):=by refine z0 (L.is) fun ps e Z=>?_;exact ⟨_,e⟩
 have lzf:zf.length=n:=by have:=RO.fp.length_eq;simpa using this
 have lzl:zl.length=n:=by have:=RO.lp.length_eq;simpa using this
 have memf:∀ i∈zf.map Prod.snd,i < n:=fun i hi=>List.mem_range.mp (RO.fp.mem_iff.mp hi)
 have meml:∀ i∈zl.map Prod.snd,i < n:=fun i hi=>List.mem_range.mp (RO.lp.mem_iff.mp hi)
 have sf:(zf.map fun z=>(r0 ps z.2:Int)).Pairwise (·≤·):=by
  have:=RO.fs
  rw [List.pairwise_map] at this ⊢
  exact this.imp fun {a b} h=>by unfold RF at h;exact aQ h
 have sl:(zl.map fun z=>(A0 ps z.2:Int)).Pairwise (·≤·):=by
  have:=RO.ls
  rw [List.pairwise_map] at this ⊢
  exact this.imp fun {a b} h=>by unfold RL at h;exact aQ h
 refine Y1 ?_
 repeat' walk_at "kl"
 refine ⟨by simp,fun T1 hT1=>?_⟩
 have sT1:=m0.set (o:=.tuple [iv (r0 ps n),iv n]) hT1
 have eT1:=s0 hp T1 (.tuple [iv (r0 ps n),iv n])
 repeat' walk_at "kl"
 refine fA hcode CH BI F (L.keeps sT1) (by rfl) hqual (by decide) fun f c' pm ctv p₁ hf0 L1 hf1 hc1 hk1=>?_
 have n192:∀ b o,(∀ x,o≠.obj x)→k0 hp T1 (.tuple [iv (r0 ps n),iv n]) b=some o→p₁ b=some o:=fun b o ho e=>hk1 b o (by
  rintro rfl
  refine o0 o192 fun x hx=>?_;try clear o192
  rw [sT1 _ _ hx] at e;injection e with e;exact ho _ e.symm) e
 have eT2:=n192 _ _ (fun Z=>by simp) eT1
 have tup1:∀ b xs,hp b=some (.tuple xs)→p₁ b=some (.tuple xs):=fun b xs e=>n192 _ _ (fun Z=>by simp) (sT1 _ _ e)
 have KF:Y4 (r0 ps) p₁ fi zf:=RO.f.frame ((n192 _ _ (fun Z=>by simp) (sT1 _ _ RO.f.1)).trans RO.f.1.symm) tup1
 have KL:Y4 (A0 ps) p₁ la zl:=RO.l.frame ((n192 _ _ (fun Z=>by simp) (sT1 _ _ RO.l.1)).trans RO.l.1.symm) tup1
 repeat' walk_at "kl"
 refine Cz W (by exact dp hroom) KF.1 (KF.keys W hf1 hc1) (eF W hf1 hc1 eT2) rfl (by simp;exact gZ hn lzf) sf ?_
 refine ⟨rfl,?_⟩
 obtain ⟨k1,hk1e⟩:∃ k,k=j3 (zf.map fun z=>(r0 ps z.2:Int)) (r0 ps n):=⟨_,rfl⟩
 rw [←hk1e]
 have e2:=s0 p₁ fi (.list (T4 (zf.map fun z=>.ref z.1) k1 (.ref T1)))
 have o2:∀ b o,b≠fi→p₁ b=some o→k0 p₁ fi (.list (T4 (zf.map fun z=>.ref z.1) k1 (.ref T1))) b=some o:=fun b o hb e=>by rw [H0 _ _ hb];exact e
 generalize k0 p₁ fi (.list (T4 (zf.map fun z=>.ref z.1) k1 (.ref T1)))=p₂ at e2 o2 ⊢
 have t12:∀ b xs,p₁ b=some (.tuple xs)→p₂ b=some (.tuple xs):=fun b xs e=>o2 b _ (by rintro rfl;rw [KF.1] at e;exact R3 e) e
 have KF2:=KF.ins (p':=p₂) (k:=k1) eT2 e2 t12
 have KL2:Y4 (A0 ps) p₂ la zl:=KL.frame ((o2 _ _ nfl KL.1).trans KL.1.symm) t12
 have hsp2:=t12 _ _ (tup1 _ _ hsp)
 have L2:O4 p₂ 192 "law.<locals>.<lambda>":=by
  refine J2 (L1.is) fun ps' a b c=>?_
  refine ⟨ps',o2 _ _ (Ne.symm nfi) a,b,fun pos=>(c pos).imp id fun ⟨c,e1,e2'⟩=>⟨c,e1,o2 _ _ (by rintro rfl;rw [KF.1] at e2';exact R3 e2') e2'⟩⟩
 repeat' walk_at "kl"
 refine ⟨by simp,fun T3 hT3=>?_⟩
 have sT3:=m0.set (o:=.tuple [iv (A0 ps n),iv n]) hT3
 have eT3:=s0 p₂ T3 (.tuple [iv (A0 ps n),iv n])
 have o192':∃ o,p₂ 192=some (.obj o):=by refine z0 (L2.is) fun ps e Z=>?_;exact ⟨_,e⟩
 repeat' walk_at "kl"
 refine fA hcode CH BI F (L2.keeps sT3) (by rfl) hqual (by decide) fun f3 c3 pm3 ctv3 p₃ hf3 L3 hfo3 hc3 hk3=>?_
 have n192':∀ b o,(∀ x,o≠.obj x)→k0 p₂ T3 (.tuple [iv (A0 ps n),iv n]) b=some o→p₃ b=some o:=fun b o ho e=>hk3 b o (by
  rintro rfl
  refine o0 o192' fun x hx=>?_;try clear o192'
  rw [sT3 _ _ hx] at e;injection e with e;exact ho _ e.symm) e
 have eT4:=n192' _ _ (fun Z=>by simp) eT3
 have tup3:∀ b xs,p₂ b=some (.tuple xs)→p₃ b=some (.tuple xs):=fun b xs e=>n192' _ _ (fun Z=>by simp) (sT3 _ _ e)
 have KF3:=KF2.frame ((n192' _ _ (fun Z=>by simp) (sT3 _ _ KF2.1)).trans KF2.1.symm) tup3
 have KL3:=KL2.frame ((n192' _ _ (fun Z=>by simp) (sT3 _ _ KL2.1)).trans KL2.1.symm) tup3
 repeat' walk_at "kl"
 refine Cw W (by exact dp hroom) KL3.1 (KL3.keys W hfo3 hc3) (eF W hfo3 hc3 eT4) rfl (by simp;exact gZ hn lzl) sl ?_
 refine ⟨rfl,J7 ?_⟩
 obtain ⟨k2,hk2e⟩:∃ k,k=C2 (zl.map fun z=>(A0 ps z.2:Int)) (A0 ps n):=⟨_,rfl⟩
 rw [←hk2e]
 have e4:=s0 p₃ la (.list (T4 (zl.map fun z=>.ref z.1) k2 (.ref T3)))
 have o4:∀ b o,b≠la→p₃ b=some o→k0 p₃ la (.list (T4 (zl.map fun z=>.ref z.1) k2 (.ref T3))) b=some o:=fun b o hb e=>by rw [H0 _ _ hb];exact e
 generalize k0 p₃ la (.list (T4 (zl.map fun z=>.ref z.1) k2 (.ref T3)))=p₄ at e4 o4 ⊢
 have t34:∀ b xs,p₃ b=some (.tuple xs)→p₄ b=some (.tuple xs):=fun b xs e=>o4 b _ (by rintro rfl;rw [KL3.1] at e;exact R3 e) e
 have KL4:=KL3.ins (p':=p₄) (k:=k2) eT4 e4 t34
 have KF4:=KF3.frame ((o4 _ _ (Ne.symm nfl) KF3.1).trans KF3.1.symm) t34
 have L4:O4 p₄ 192 "law.<locals>.<lambda>":=by
  refine J2 (L3.is) fun ps' a b c=>?_
  refine ⟨ps',o4 _ _ (Ne.symm nla) a,b,fun pos=>(c pos).imp id fun ⟨c,e1,e2'⟩=>⟨c,e1,o4 _ _ (by rintro rfl;rw [KL3.1] at e2';exact R3 e2') e2'⟩⟩
 refine h p₄ _ _ ⟨KF4,KL4,kO RO.fp,kO RO.lp,?_,?_⟩ L4 (fun b o h3 h4 h10 e=>?_) fun b o hb ho e=>?_
 ·rw [hk1e]
  exact kN RO.fs sf (p:=fun y=>decide (y < (r0 ps n:Int))) (fun a b h1 h2=>by simp at h2 ⊢;exact ij h2 h1) (fun i hi w=>by have:=memf i hi;simp at w;unfold RF;exact gY w) fun i hi w=>by have:=memf i hi;simp at w;unfold RF;exact gX w this
 ·rw [hk2e]
  exact kN RO.ls sl (p:=fun y=>decide (y≤(A0 ps n:Int))) (fun a b h1 h2=>by simp at h2 ⊢;exact bq h2 h1) (fun i hi w=>by have:=meml i hi;simp at w;unfold RL;exact gX w this) fun i hi w=>by have:=meml i hi;simp at w;unfold RL;exact gY w
 ·have b192:b≠192:=by rintro rfl;exact h10 r192
  exact o4 b o (by rintro rfl;exact h4 rla) (hk3 b o b192 (sT3 _ _ (o2 b o (by rintro rfl;exact h3 rfi) (hk1 b o b192 (sT1 _ _ e)))))
 ·have e1:=hk1 b o hb (sT1 _ _ e)
  have e2':=o2 b o (by rintro rfl;rw [KF.1] at e1;injection e1 with e1;exact ho _ e1.symm) e1
  have e3:=hk3 b o hb (sT3 _ _ e2')
  exact o4 b o (by rintro rfl;rw [KL3.1] at e3;injection e3 with e3;exact ho _ e3.symm) e3
end
section
theorem o7.frame {ps:List (Nat × Nat)} {Ls fs:List Nat} {nl:Nat} {head:Int} {p p':HP} {xts:List Addr} {stss:List (List Int)} {tt:Nat→List Addr} {mss:Nat→List Nat} (h:o7 ps Ls fs nl head p xts stss tt mss) (hl:nl≤xts.length)
  (hx:∀ T∈xts,∀ o,p T=some o→p' T=some o) (hd:∀ b i,p b=some (S5 i)→p' b=some (S5 i)) (ht:∀ b xs,p b=some (.tuple xs)→p' b=some (.tuple xs)):o7 ps Ls fs nl head p' xts stss tt mss where
 pile:=fun l hl'=>by
  obtain ⟨⟨d,e1,e2⟩,e3,e4⟩:=h.pile l hl'
  have hm:xts.getD l 0∈xts:=by rw [List.getD_eq_getElem?_getD,List.getElem?_eq_getElem (by exact gV hl hl')];exact List.getElem_mem _
  exact ⟨⟨d,hx _ hm _ e1,hd _ _ e2⟩,e3,fun k T v a b=>ht _ _ (e4 k T v a b)⟩
 on:=h.on
 st:=h.st
theorem O4.frame {p p':HP} {q:Str} (L:O4 p 192 q) (h1:∀ o,p 192=some (.obj o)→p' 192=some (.obj o)) (h2:∀ c,p c=some (Q5 q)→p' c=some (Q5 q)):O4 p' 192 q:=by
 refine J2 (L.is) fun ps a b c=>?_
 exact ⟨ps,h1 _ a,b,fun pos=>(c pos).imp id fun ⟨c,e1,e2⟩=>⟨c,e1,h2 _ e2⟩⟩
theorem o7.zero {ps:List (Nat × Nat)} {nl:Nat} {head:Int} {p:HP} {xts:List Addr} (hl:nl≤xts.length) (h:∀ T∈xts,Y2 p T head []):o7 ps [] [] nl head p xts (List.replicate nl []) (fun Z=>[]) (fun Z=>[]) where
 pile:=fun l hl'=>by
  have hm:xts.getD l 0∈xts:=by rw [List.getD_eq_getElem?_getD,List.getElem?_eq_getElem (by exact gV hl hl')];exact List.getElem_mem _
  exact ⟨h _ hm,rfl,fun k T v a b=>by exact J0 a⟩
 on:=fun l Z=>⟨.nil,.nil⟩
 st:=fun l hl'=>by rw [List.getD_eq_getElem?_getD,List.getElem?_replicate,if_pos hl'];rfl
structure nc (ps:List (Nat × Nat)) (full:Nat) (head:Int) (role:Addr→Nat) (Fix:HP) (bg en st th lv ln fi la:Addr) (bts ets rts tts xts:List Addr) (l₀:j0) (n:Nat) (l:j0) (p:HP) (Ls fs:List Nat) (bss ess rows stss:List (List Int)) (tt:Nat→List Addr) (mss:Nat→List Nat) (zf zl:List (Addr × Nat)):Prop where
 len:Ls.length=n
 good:H5 ps Ls fs full
 beg:T5 ps Ls full bss ess
 the:o6 ps Ls rows
 rb:Y0 p bg bts bss
 re:Y0 p en ets ess
 rt:Y0 p th tts rows
 rs:Y0 p st rts stss
 ls:stss.length=3*full - 2
 lv:p lv=some (.list ((L0 Ls).map iv))
 ln:p ln=some (.list ((L0 ((List.range Ls.length).map (B1 Ls fs))).map iv))
 po:o7 ps Ls fs (3*full - 2) head p xts stss tt mss
 ro:cL ps Ls.length p fi la zf zl
 lam:O4 p 192 "law.<locals>.<lambda>"
 fix:m0 Fix p
 nam:∀ (y:Str) v,l₀ y=some v→y∉(["i","span","taken","words","free","pile"]:List Str)→l y=some v
theorem CU {sts:List Addr} {n:Nat} {vs:List Value} (h:((sts.map Value.ref).zipIdx.map fun x=>[Value.int x.2 0,x.1])[n]?=some vs):∃ T,sts[n]?=some T∧vs=[iv n,.ref T]:=by
 rw [List.getElem?_map,List.getElem?_zipIdx,List.getElem?_map] at h
 cases q:sts[n]? with
 | none=>rw [q] at h;exact J0 h
 | some T=>
  rw [q] at h
  simp only [Option.map_some,Nat.zero_add] at h
  injection h with h
  exact ⟨T,rfl,h.symm⟩
theorem Al {C:Cx} (W:G1 C) (AW:K6 C) (A2:t7 C) (A3:O7 C) (CH:CodeHd C.H₀ 194 192) (BI:N9 C) {A:Around} {g:Heap} {fr:Fm} {E:Value→Shared→Prop} {loc:j0} {hp:HP} {Q:Flow→j0→HP→Prop} (LA:G5 A fr)
  {role:Addr→Nat} {Fix:HP} {bg en pl st th lv ln fi la S₁ Dm:Addr} {bts ets xts rts tts sts:List Addr} {ps:List (Nat × Nat)} {full base:Nat} {head:Int} (LY:K9 role Fix lv ln fi la bts ets tts rts xts) (sF:m0 Fix hp) (FX:ng Fix bg en pl st th bts ets xts rts tts full)
  (hP:X3 Fix S₁ sts ps) (hm:Fix Dm=some (.list ([base,base+1,base+2].map fun k=>.str (K1 k) 0))) (h113:Fix 113=some O2) (h120:Fix 120=some O2)
  (r1:Y0 hp bg bts (List.replicate full [])) (r2:Y0 hp en ets (List.replicate full [])) (r3:∀ T∈xts,Y2 hp T head []) (r4:Y0 hp st rts (List.replicate (3*full - 2) [])) (r5:Y0 hp th tts (List.replicate 24 []))
  (e1:hp lv=some (.list [])) (e2:hp ln=some (.list [])) (e3:hp fi=some (.list [])) (e4:hp la=some (.list [])) (L:O4 hp 192 "law.<locals>.<lambda>")
  (n1:loc "spans" = some (.ref S₁)) (n2:loc "begins" = some (.ref bg)) (n3:loc "ends" = some (.ref en)) (n4:loc "there" = some (.ref th)) (n5:loc "levels" = some (.ref lv)) (n6:loc "lines" = some (.ref ln)) (n7:loc "piles" = some (.ref pl)) (n8:loc "starts" = some (.ref st)) (n9:loc "firsts" = some (.ref fi)) (n10:loc "lasts" = some (.ref la)) (n11:loc "base" = some (iv base)) (n12:loc "marks" = some (.ref Dm)) (n13:loc "head" = some (iv head))
  (hpl:ps.length=10) (hpo:∀ v∈ps,v.1 < v.2∧v.1≤15∧v.2≤23) (hfm:∀ v∈ps,B4 ps v.1≤full) (hf:1≤full∧full≤10) (hb:base < 30) (hh3:1≤head∧head≤3)
  (h:∀ l p Ls fs bss ess rows stss tt mss zf zl,nc ps full head role Fix bg en st th lv ln fi la bts ets rts tts xts loc 10 l p Ls fs bss ess rows stss tt mss zf zl→I0 C A g fr E (execs ((M3 (G0 21)).drop 16) fr.env) l p Q) :
  I0 C A g fr E (execs ((M3 (G0 21)).drop 15) fr.env) loc hp Q:=by
 have LA':=LA
 obtain ⟨F,hroom,hh,hfrm,hlf,hun,hcode,hqual⟩:=LA
 have henum:=W.enumerate
 have hstl:sts.length=10:=by rw [hP.2.1,hpl]
 have hlo:∀ j,r0 ps j≤15:=fun j=>by
  unfold r0
  rw [List.getD_eq_getElem?_getD]
  cases q:ps[j]? with
  | none=>decide
  | some v=>exact (hpo v (List.mem_of_getElem? q)).2.1
 have hhi:∀ j,A0 ps j≤23:=fun j=>by
  unfold A0
  rw [List.getD_eq_getElem?_getD]
  cases q:ps[j]? with
  | none=>decide
  | some v=>exact (hpo v (List.mem_of_getElem? q)).2.2
 have hle:∀ j,r0 ps j≤A0 ps j:=fun j=>by
  delta r0 A0
  rw [List.getD_eq_getElem?_getD]
  cases q:ps[j]? with
  | none=>decide
  | some v=>exact Nat.le_of_lt (hpo v (List.mem_of_getElem? q)).1
 have hlt:∀ j,j < 10→r0 ps j < A0 ps j:=fun j hj=>by
  delta r0 A0
  rw [List.getD_eq_getElem?_getD,List.getElem?_eq_getElem (by exact q6 hj hpl)]
  exact (hpo _ (List.getElem_mem _)).1
 refine Y1 ?_
 repeat' walk_at "kl"
 refine ah hh (sF _ _ hP.1) ⟨fun n l p=>∃ Ls fs bss ess rows stss tt mss zf zl,nc ps full head role Fix bg en st th lv ln fi la bts ets rts tts xts loc n l p Ls fs bss ess rows stss tt mss zf zl,?init,?need,?turn,?fin⟩
 case init=>
  refine ⟨[],[],_,_,_,_,_,_,[],[],rfl,.zero,.zero,.zero,r1,r2,r5,r4,by exact List.length_replicate ..,e1,e2,o7.zero (by rw [FX.lx];exact Nat.le_refl _) r3,⟨⟨e3,fun z hz=>by cases hz⟩,⟨e4,fun z hz=>by cases hz⟩,.nil,.nil,.nil,.nil⟩,L,sF,fun y v e Z=>e⟩
 case need=>
  intro n l p hZ0;refine V4 hZ0 fun Ls fs bss ess rows stss tt zr0=>O8 zr0 fun mss zf zl I=>?_;clear hZ0
  exact I.fix _ _ hP.1
 case turn=>
  intro n vs l p g₃ E₃ hvs hZ0;refine V4 hZ0 fun Ls fs bss ess rows stss tt zr0=>O8 zr0 fun mss zf zl I=>?_;clear hZ0
  refine z0 (CU hvs) fun T hT hR0=>?_;subst hR0
  have hn:n < 10:=by have:=(List.getElem?_eq_some_iff.mp hT).1;exact gU hstl this
  have hlen:=I.len
  subst hlen
  have hT':Fix T=some (.tuple [iv (r0 ps Ls.length),iv (A0 ps Ls.length)]):=by
   have hk:Ls.length < ps.length:=by exact q6 hn hpl
   have:=hP.2.2 Ls.length T _ hT (List.getElem?_eq_getElem hk)
   delta r0 A0
   rw [List.getD_eq_getElem?_getD,List.getElem?_eq_getElem hk];exact this
  have rbg:=LY.fix _ _ FX.bg
  have ren:=LY.fix _ _ FX.en
  have rth:=LY.fix _ _ FX.th
  have rpl:=LY.fix _ _ FX.pl
  have rst:=LY.fix _ _ FX.st
  have rS:=LY.fix _ _ hP.1
  have r192:=LY.t192
  have xin:∀ U∈xts,role U≠0∧role U≠1∧role U≠2∧role U≠3∧role U≠4∧role U≠5∧role U≠6∧role U≠7∧role U≠8∧role U≠10:=fun U hU=>by rw [LY.xts U hU];decide
  have hxl:3*full - 2≤xts.length:=by rw [FX.lx];exact Nat.le_refl _
  have nmA:∀ (y:Str) v,loc y=some v→y∉(["i","span","taken","words","free","pile"]:List Str)→(N0 (N0 l "i" (iv Ls.length)) "span" (.ref T)) y=some v:=fun y v e hy=>I4 (fun w=>hy (by rw [w];decide)) (I4 (fun w=>hy (by rw [w];decide)) (I.nam y v e hy))
  have nI:(N0 (N0 l "i" (iv Ls.length)) "span" (.ref T)) "i" = some (iv Ls.length):=by walk_at "loc"
  have nS:(N0 (N0 l "i" (iv Ls.length)) "span" (.ref T)) "span" = some (.ref T):=by walk_at "loc"
  show I0 C A g₃ fr E₃ (execs Z5 fr.env) (N0 (N0 l "i" (iv Ls.length)) "span" (.ref T)) p _
  generalize N0 (N0 l "i" (iv Ls.length)) "span" (.ref T)=la0 at nmA nI nS ⊢
  refine ot W LA' LY (pl:=pl) (st:=st) (ps:=ps) (Ls:=Ls) (full:=full) nI nS (nmA _ _ n2 (by decide)) (nmA _ _ n3 (by decide)) (nmA _ _ n4 (by decide)) (nmA _ _ n5 (by decide)) (I.fix _ _ hT') I.rb I.re I.rt I.lv rbg ren rth I.beg I.the hle (hlt _ hn) (hhi _) hn hf (CS (by exact q6 hn hpl) hfm hf.1)
   fun k p₁ hk hFk hlow hb1 he1 ht1 hlv1 kA kB=>?_
  have F1:m0 Fix p₁:=fun b o e=>by have r:=LY.fix b o e;exact kA b o (by exact gT r) (by exact gS r) (by exact gQ r) (by exact gP r) (I.fix b o e)
  have hln1:=kA ln _ (by rw [LY.ln];decide) (by rw [LY.ln];decide) (by rw [LY.ln];decide) (by rw [LY.ln];decide) I.ln
  have hP1:=hP.mono F1
  refine oq W LA' nI (nmA _ _ n1 (by decide)) (nmA _ _ n5 (by decide)) (nmA _ _ n6 (by decide)) (nmA _ _ n11 (by decide)) (nmA _ _ n12 (by decide)) hP1 hlv1 hln1 (F1 _ _ hm) I.good hk hFk hlow (fun j hj=>hlt j (by exact gO hn hj)) hb hn hpl hf.2
   fun lb f p₂ hf3 hap hln2 kC nmB=>?_
  have F2:m0 Fix p₂:=fun b o e=>kC b o (by rintro rfl;have:=LY.fix _ _ e;rw [LY.ln] at this;cases this) (F1 b o e)
  have G:=I.good.step hFk hlow hk hf3 hap
  have kAll:∀ b o,role b≠1→role b≠2→role b≠5→role b≠6→role b≠7→p b=some o→p₂ b=some o:=fun b o h1 h2 h5 h6 h7 e=>kC b o (by rintro rfl;exact h2 LY.ln) (kA b o h1 h5 h6 h7 e)
  have kNon:∀ b o,(∀ xs,o≠.list xs)→p b=some o→p₂ b=some o:=fun b o ho e=>by
   have e1:=kB b o ho e
   exact kC b o (by rintro rfl;rw [hln1] at e1;injection e1 with e1;exact ho _ e1.symm) e1
  have PO2:o7 ps Ls fs (3*full - 2) head p₂ xts stss tt mss:=I.po.frame hxl (fun U hU o e=>by refine cn (xin U hU) fun x0 x1 x2 x3 x4 x5 x6 zr0=>V1 zr0 fun x7 x8 x10=>?_;exact kAll U o x1 x2 x5 x6 x7 e) (fun b i e=>kNon b _ (fun Z=>by unfold S5;simp) e) fun b xs e=>kNon b _ (fun Z=>by simp) e
  have rs2:Y0 p₂ st rts stss:=I.rs.frame ((kAll st _ (by exact gT rst) (by exact gN rst) (by exact gS rst) (by exact gQ rst) (by exact gP rst) I.rs.1).trans I.rs.1.symm) fun U hU o e=>by have r:=LY.rts U hU;exact kAll U o (by exact qH r) (by exact qG r) (by exact qF r) (by exact qE r) (by exact qD r) e
  have nB:∀ (y:Str) v,y∉(["taken","words","free"]:List Str)→la0 y=some v→lb y=some v:=nmB
  refine oj W AW A2 A3 LA' LY (nB _ _ (by decide) nI) (nB _ _ (by decide) nS) (nB _ _ (by decide) (nmA _ _ n7 (by decide))) (nB _ _ (by decide) (nmA _ _ n6 (by decide))) (nB _ _ (by decide) (nmA _ _ n8 (by decide))) (nB _ _ (by decide) (nmA _ _ n1 (by decide))) (nB _ _ (by decide) (nmA _ _ n13 (by decide)))
   (hP.mono F2) hln2 (F2 _ _ hT') (F2 _ _ FX.pl) rs2 rpl rst rS FX.lx I.ls FX.nx PO2 (F2 _ _ h113) (F2 _ _ h120) G I.good.fl hlo hhi (fun j hj=>hlt j (by exact gO hn hj)) hn hpl hf.2 hh3
   fun lc p₃ stss' tt' mss' PO3 rs3 kD kE nmC=>?_
  have F3:m0 Fix p₃:=fun b o e=>by have r:=LY.fix b o e;exact kD b o (by exact gM r) (by exact gK r) (F2 b o e)
  have kAll3:∀ b o,role b≠1→role b≠2→role b≠5→role b≠6→role b≠7→role b≠8→role b≠9→p b=some o→p₃ b=some o:=fun b o h1 h2 h5 h6 h7 h8 h9 e=>kD b o h8 h9 (kAll b o h1 h2 h5 h6 h7 e)
  have kNon3:∀ b o,(∀ xs,o≠.list xs)→(∀ c d xs,o≠.acc c d xs)→p b=some o→p₃ b=some o:=fun b o ho ha e=>kE b o ho ha (kNon b o ho e)
  have tup3:∀ b xs,p b=some (.tuple xs)→p₃ b=some (.tuple xs):=fun b xs e=>kNon3 b _ (fun Z=>by simp) (fun Z Z Z=>by simp) e
  have RO3:cL ps Ls.length p₃ fi la zf zl:=⟨I.ro.f.frame ((kAll3 fi _ (by rw [LY.fi];decide) (by rw [LY.fi];decide) (by rw [LY.fi];decide) (by rw [LY.fi];decide) (by rw [LY.fi];decide) (by rw [LY.fi];decide) (by rw [LY.fi];decide) I.ro.f.1).trans I.ro.f.1.symm) tup3,
   I.ro.l.frame ((kAll3 la _ (by rw [LY.la];decide) (by rw [LY.la];decide) (by rw [LY.la];decide) (by rw [LY.la];decide) (by rw [LY.la];decide) (by rw [LY.la];decide) (by rw [LY.la];decide) I.ro.l.1).trans I.ro.l.1.symm) tup3,I.ro.fp,I.ro.lp,I.ro.fs,I.ro.ls⟩
  have L3:O4 p₃ 192 "law.<locals>.<lambda>":=I.lam.frame (fun o e=>kNon3 _ _ (fun Z=>by simp) (fun Z Z Z=>by simp) e) fun c e=>kNon3 _ _ (fun Z=>by unfold Q5;nofun) (fun Z Z Z=>by unfold Q5;nofun) e
  refine oi W CH BI LA' LY (ps:=ps) (n:=Ls.length) (nmC _ _ (by decide) (nB _ _ (by decide) nI)) (nmC _ _ (by decide) (nB _ _ (by decide) nS)) (nmC _ _ (by decide) (nB _ _ (by decide) (nmA _ _ n9 (by decide)))) (nmC _ _ (by decide) (nB _ _ (by decide) (nmA _ _ n10 (by decide)))) (F3 _ _ hT') RO3 hn L3
   fun p₄ zf' zl' RO4 L4 kF kG=>?_
  have F4:m0 Fix p₄:=fun b o e=>by have r:=LY.fix b o e;exact kF b o (by exact di r) (by exact dh r) (by exact dg r) (F3 b o e)
  have hl1:(Ls++[k]).length=Ls.length+1:=by simp
  have tup4:∀ b xs,p₃ b=some (.tuple xs)→p₄ b=some (.tuple xs):=fun b xs e=>kG b _ (by
   rintro rfl
   refine z0 (L3.is) fun ps' e' Z=>?_
   rw [e] at e';exact R3 e') (fun Z=>by simp) e
  have PO4:=PO3.frame (p':=p₄) hxl (fun U hU o e=>by refine cn (xin U hU) fun x0 x1 x2 x3 x4 x5 x6 zr0=>V1 zr0 fun x7 x8 x10=>?_;exact kF U o x3 x4 x10 e) (fun b i e=>kG b _ (by
   rintro rfl
   refine z0 (L3.is) fun ps' e' Z=>?_
   rw [e] at e';unfold S5 at e';exact R3 e') (fun Z=>by unfold S5;simp) e) tup4
  have mv:∀ {a:Addr} {ts:List Addr} {rs:List (List Int)} {c:Nat},Y0 p₁ a ts rs→role a=0→(∀ U∈ts,role U=c)→c≠2→c≠3→c≠4→c≠8→c≠9→c≠10→Y0 p₄ a ts rs:=fun {a ts rs c} hR ra hU c2 c3 c4 c8 c9 c10=>by
   have go:∀ b o,role b≠2→role b≠3→role b≠4→role b≠8→role b≠9→role b≠10→p₁ b=some o→p₄ b=some o:=fun b o h2 h3 h4 h8 h9 h10 e=>kF b o h3 h4 h10 (kD b o h8 h9 (kC b o (by rintro rfl;exact h2 LY.ln) e))
   refine hR.frame ((go a _ (by exact gN ra) (by exact di ra) (by exact dh ra) (by exact gM ra) (by exact gK ra) (by exact dg ra) hR.1).trans hR.1.symm) fun U hU' o e=>?_
   have r:=hU U hU'
   exact go U o (by exact qC c2 r) (by exact qB c3 r) (by exact qA c4 r) (by exact qz c8 r) (by exact qy c9 r) (by exact qx c10 r) e
  refine ⟨Ls++[k],fs++[f],_,_,_,stss',tt',mss',zf',zl',hl1,G,I.beg.step hk,I.the.step k,mv hb1 rbg LY.bts (by decide) (by decide) (by decide) (by decide) (by decide) (by decide),mv he1 ren LY.ets (by decide) (by decide) (by decide) (by decide) (by decide) (by decide),mv ht1 rth LY.tts (by decide) (by decide) (by decide) (by decide) (by decide) (by decide),?_,?_,?_,?_,PO4,by rw [hl1];exact RO4,L4,F4,fun y v e hy=>?_⟩
  ·refine rs3.frame ((kF st _ (by exact di rst) (by exact dh rst) (by exact dg rst) rs3.1).trans rs3.1.symm) fun U hU o e=>?_
   have r:=LY.rts U hU
   exact kF U o (by exact qv r) (by exact qu r) (by exact qt r) e
  ·have h1:=rs3.2.1
   have h2:=FX.lr
   exact qr h2 h1
  ·exact kF lv _ (by rw [LY.lv];decide) (by rw [LY.lv];decide) (by rw [LY.lv];decide) (kD lv _ (by rw [LY.lv];decide) (by rw [LY.lv];decide) (kC lv _ (by intro w;have:=LY.lv;rw [w,LY.ln] at this;cases this) hlv1))
  ·exact kF ln _ (by rw [LY.ln];decide) (by rw [LY.ln];decide) (by rw [LY.ln];decide) (kD ln _ (by rw [LY.ln];decide) (by rw [LY.ln];decide) hln2)
  ·exact nmC y v (fun w=>hy (by rw [w];decide)) (nB y v (fun w=>hy (by
    simp only [List.mem_cons,List.not_mem_nil,or_false] at w ⊢
    rcases w with w | w | w <;> simp [w])) (nmA y v e hy))
 case fin=>
  intro l p g₃ E₃ hZ0;refine V4 hZ0 fun Ls fs bss ess rows stss tt zr0=>O8 zr0 fun mss zf zl I=>?_;clear hZ0
  have e:((sts.map Value.ref).zipIdx.map fun x=>[Value.int x.2 0,x.1]).length=10:=by simp [hstl]
  rw [e] at I
  refine J7 ?_
  exact h l p Ls fs bss ess rows stss tt mss zf zl I
end
section
section
variable {α:Type} {C:Cx} {A:Around} {g:Heap} {fr:Fm} {E:Value→Shared→Prop} {loc:j0} {hp:HP}
noncomputable def K5:List Int:=[9,8,7,6,5,4,3,2,1,0]
theorem cp {i:Nat} {v:Int} (h:K5[i]?=some v):i < 10∧v=9 - (i:Int):=by
 have hi:i < 10:=(List.getElem?_eq_some_iff.mp h).1
 have:∀ i:Nat,i < 10→K5[i]?=some (9 - (i:Int)):=by decide
 rw [this i hi] at h
 injection h with h
 exact ⟨hi,h.symm⟩
theorem oV (hh:A.handled=none) {I:Addr} {x:Str} {px:Pos}:H6 C A (.Name x px) [x] (.ref I) (K5.map fun v=>[.int v 0]) (fun Z=>True) fun i r=>r=k0 B2 I (V5 (9 - (i:Nat)) (10 - (i:Nat)) (-1)) where
 adv:=by
  rintro i vs r p g fr E l Q hv rfl hnd hap hok hQ s R S
  rw [List.getElem?_map] at hv
  refine z0 (Option.map_eq_some_iff.mp hv) fun v hv2 hR0=>?_;subst hR0
  refine B0 (cp hv2) fun hi hR0=>?_;subst hR0
  have hI:C0 p (k0 B2 I (V5 (9 - (i:Nat)) (10 - (i:Nat)) (-1))) I=some _:=U1 hap (s0 ..)
  have pI:p I=none:=hap I (by rw [s0];exact fun e=>nomatch e)
  refine wpAny_pyNext_range_item (R.obj hI) (by exact qq hi) fun h' hit' hs'=>⟨S,l,C0 p (k0 B2 I (V5 (9 - ((i+1:Nat):Int)) (10 - ((i+1:Nat):Int)) (-1))),?_,_,rfl,?_⟩
  ·have:=R.chg hI hs'.extBut hit' (ao':=.obj _) rfl
   rw [U4 pI,X6] at this
   have e1:(9:Int) - ((i+1:Nat):Int)=9 - (i:Int)+-1:=by exact qp
   have e2:(10:Int) - ((i+1:Nat):Int)=10 - (i:Int) - 1:=by exact qo
   rw [e1,e2];exact this
  ·exact fx (a:=()) rfl (F6 (hok x (.head _)) (hQ _ rfl (C4 (E4 _) pI)))
 stp:=by
  rintro r p g fr E l Q rfl hnd hap hQ s R S
  have hI:=U1 hap (s0 B2 I (V5 (9 - ((K5.map fun v=>[(.int v 0:Value)]).length:Nat)) (10 - ((K5.map fun v=>[(.int v 0:Value)]).length:Nat)) (-1)))
  have pI:p I=none:=hap I (by rw [s0];exact fun e=>nomatch e)
  refine wpAny_pyNext_range_end hh (R.obj hI) (by rw [List.length_map];decide) fun h' hx=>⟨S,l,C0 p B2,?_,rfl,hQ _ (E4 _)⟩
  rw [k5]
  exact R.drop1 hI hx fun b o e=>⟨(by rintro rfl;rw [pI] at e;exact J0 e),Z1 e⟩
 self:=by
  rintro i r p g fr E l Q rfl hnd hap hQ s R S
  exact wpAny_pyIter_rangeiter (R.obj (U1 hap (s0 ..))) ⟨S,l,_,R,hQ⟩
 up:=fun Z Z Z Z=>trivial
theorem Ej {Q:Value→j0→HP→Prop} (h:∀ r,hp r=none→Q (.ref r) loc (k0 hp r (M6 9 (-1) (-1)))):M0 C A g fr E (.type "range") [.int 9 0,.int (-1) 0,.int (-1) 0] [] loc hp Q:=G8 fun v u w hv hu hw=>by
 refine o0 (S0 hv) fun t hR0=>?_;subst hR0
 refine o0 (S0 hu) fun t' hR0=>?_;subst hR0
 refine o0 (S0 hw) fun t'' hR0=>?_;subst hR0
 exact fun s R S=>call_range_3 (by decide) ⟨S,loc,_,R.alloc (ao:=M6 9 (-1) (-1)) rfl ⟨_,_,_,rfl⟩,h _ R.none_at⟩ (.inl (by decide +kernel))
theorem Cq (hh:A.handled=none) {r:Addr} {x:Str} {px:Pos} {K:List (List Value)→(HP→Prop)→j0→HP→Prop} (hr:hp r=none)
  (h:K (K5.map fun v=>[.int v 0]) (fun Z=>True) loc hp):i3 C A (.Name x px) [x] (.ref r) loc (k0 hp r (M6 9 (-1) (-1))) K:=by
 refine ⟨_,_,k0 B2 r (M6 9 (-1) (-1)),hp,by rw [←U4 hr,k5],trivial,C4 (E4 _) hr,fun g fr E l p x' Q hx hnd hap hQ s R S=>?_,h⟩
 simp only [Q0 hx]
 have hpr:p r=none:=hap r (by rw [s0];exact fun e=>nomatch e)
 refine lL (R.at_ r _ (U1 hap (s0 ..))) fun t u v Z Z Z ho=>?_
 refine wpAny_pyIter_range ho (by decide +kernel) ⟨S,l,C0 p (k0 B2 s.heap.objs.size (V5 (9 - (0:Nat)) (10 - (0:Nat)) (-1))),?_,hQ _ _ _ (oV hh) rfl (C4 (E4 _) ?_)⟩
 ·have:=R.alloc (ao:=V5 (9 - (0:Nat)) (10 - (0:Nat)) (-1)) (o:={cls:=.type "range_iterator",data:=.fields #[rawInt 9,rawInt (Builtin.Range.rangeSize 9 (-1) (-1)),rawInt (-1)]}) rfl (by
   show Obj.mk _ _ _ _=Obj.mk _ _ _ _
   have:Builtin.Range.rangeSize 9 (-1) (-1)=10:=by decide +kernel
   rw [this];rfl)
  refine this.forget (fun Z Z e=>e) fun b ao e=>?_
  rw [←U4 ?_,k5] at e
  ·unfold k0 at e ⊢
   by_cases hb:b=s.heap.objs.size
   ·rwa [if_pos hb] at e ⊢
   ·rw [if_neg hb] at e ⊢;exact Z1 e
  ·cases q:p s.heap.objs.size with
   | none=>rfl
   | some o=>exact absurd (R.lt_of_hp (Z1 q)) (Nat.lt_irrefl _)
 ·cases q:p s.heap.objs.size with
  | none=>rfl
  | some o=>exact absurd (R.lt_of_hp (Z1 q)) (Nat.lt_irrefl _)
end
theorem eU {R:Nat→Nat→Prop} (ha:∀ a b,R a b→R b a→False):∀ {l₁ l₂:List Nat},l₁.Perm l₂→l₁.Pairwise R→l₂.Pairwise R→l₁=l₂
 | [],l₂,h,_,_=>by rw [List.Perm.nil_eq h]
 | x::l₁,[],h,_,_=>by have:=h.length_eq;simp at this
 | x::l₁,y::l₂,h,h1,h2=>by
  refine B0 (List.pairwise_cons.mp h1) fun a1 b1=>?_
  refine B0 (List.pairwise_cons.mp h2) fun a2 b2=>?_
  have e:x=y:=by
   refine Classical.byContradiction fun w=>?_
   have hx:x∈y::l₂:=h.mem_iff.mp (.head _)
   have hy:y∈x::l₁:=h.mem_iff.mpr (.head _)
   have hx':x∈l₂:=by
    rcases List.mem_cons.mp hx with q | q
    ·exact absurd q w
    ·exact q
   have hy':y∈l₁:=by
    rcases List.mem_cons.mp hy with q | q
    ·exact absurd q.symm w
    ·exact q
   exact ha x y (a1 y hy') (a2 x hx')
  subst e
  rw [eU ha (List.Perm.cons_inv h) b1 b2]
end
section
theorem As {C:Cx} (W:G1 C) (CH:CodeHd C.H₀ 194 192) (BI:N9 C) {A:Around} {g:Heap} {fr:Fm} {E:Value→Shared→Prop} {loc:j0} {hp:HP} {Q:Flow→j0→HP→Prop} (LA:G5 A fr)
  {S₁ fi:Addr} {sts:List Addr} {ps:List (Nat × Nat)} {zf:List (Addr × Nat)} (l1:loc "spans" = some (.ref S₁)) (l2:loc "firsts" = some (.ref fi))
  (hP:X3 hp S₁ sts ps) (KF:Y4 (r0 ps) hp fi zf) (fp:(zf.map Prod.snd).Perm (List.range 10)) (fs:(zf.map Prod.snd).Pairwise (RF ps)) (L:O4 hp 192 "law.<locals>.<lambda>") (hpl:ps.length=10)
  (h:∀ p',(∀ b o,b≠192→hp b=some o→p' b=some o)→O4 p' 192 "law.<locals>.<lambda>"→I0 C A g fr E (execs ((M3 (G0 21)).drop 17) fr.env) loc p' Q) :
  I0 C A g fr E (execs ((M3 (G0 21)).drop 16) fr.env) loc hp Q:=by
 obtain ⟨F,hroom,hh,hfrm,hlf,hun,hcode,hqual⟩:=LA
 have hrange:=W.range
 have hsorted:=W.sorted
 have o192:∃ o,hp 192=some (.obj o):=by refine z0 (L.is) fun ps e Z=>?_;exact ⟨_,e⟩
 refine Y1 ?_
 repeat' walk_at "kl"
 refine Ej fun r hr=>Q8 K5 (fun v=>[iv v]) (fun v=>.tuple [iv (r0 ps v.toNat),iv v]) (Cq hh hr ⟨rfl,by decide,fun Z Z=>trivial,?elt,?done⟩)
 case elt=>
  intro v hv g₃ fr₃ E₃ p₃ hF₃ hs₃
  refine o0 (List.mem_iff_getElem?.mp hv) fun i hi=>?_
  refine B0 (cp hi) fun hi' hR0=>?_;subst hR0
  have hP₃:=hP.mono hs₃
  dsimp only [W0,K0]
  repeat' walk_at "kl"
  refine Q9 (by intro _ _;with_unfolding_all rfl) hP₃ (by exact qn hi') (by exact qm hpl) (by exact q4 hpl) fun T hT hpT=>?_
  repeat' walk_at "kl"
  refine ⟨by simp,fun U hU=>⟨rfl,U,rfl,hU,m0.set hU,?_⟩⟩
  simp only [s0];rfl
 case done=>
  intro D ts p₁ hlts hnd hts _ hs₁ hD
  have sD:=m0.set (o:=.list (ts.map .ref)) hD
  have eD:=s0 p₁ D (.list (ts.map .ref))
  repeat' walk_at "kl"
  refine fA hcode CH BI F (L.keeps (hs₁.trans sD)) (by rfl) hqual (by decide) fun f c' pm ctv p₂ hf0 L1 hf1 hc1 hk1=>?_
  have n192:∀ b o,(∀ x,o≠.obj x)→k0 p₁ D (.list (ts.map .ref)) b=some o→p₂ b=some o:=fun b o ho e=>hk1 b o (by
   rintro rfl
   refine o0 o192 fun x hx=>?_;try clear o192
   rw [sD _ _ (hs₁ _ _ hx)] at e;injection e with e;exact ho _ e.symm) e
  have eD2:=n192 _ _ (fun Z=>by simp) eD
  have htl:ts.length=10:=hlts
  have hT2:∀ (k:Nat) T,ts[k]?=some T→p₂ T=some (.tuple [iv (r0 ps (9 - (k:Int)).toNat),iv (9 - (k:Int))]):=fun k T hT=>by
   have hk:k < 10:=by rw [←htl];exact (List.getElem?_eq_some_iff.mp hT).1
   obtain ⟨v,hv⟩:∃ v,K5[k]?=some v:=⟨_,List.getElem?_eq_getElem (show k < K5.length from hk)⟩
   refine B0 (cp hv) fun Z hR0=>?_;subst hR0
   exact n192 _ _ (fun Z=>by simp) (sD _ _ (hts k T _ hT hv))
  repeat' walk_at "kl"
  have kzg:∀ k,k < 10→(K5.map fun v=>(r0 ps v.toNat:Int)).getD k 0=(r0 ps (9 - k):Int):=fun k hk=>by
   obtain ⟨v,hv⟩:∃ v,K5[k]?=some v:=⟨_,List.getElem?_eq_getElem (show k < K5.length from hk)⟩
   refine B0 (cp hv) fun Z hR0=>?_;subst hR0
   simp only [List.getD_eq_getElem?_getD,List.getElem?_map,hv]
   show (r0 ps (9 - (k:Int)).toNat:Int)=_
   rw [show (9 - (k:Int)).toNat=9 - k by exact df]
  refine Ed (kz:=K5.map fun v=>(r0 ps v.toNat:Int)) (xs:=fun k=>[iv (r0 ps (9 - (k:Int)).toNat),iv (9 - (k:Int))]) (b1:="pair") (ts:=ts) eD2 (by rw [List.length_map];exact htl) (by rw [List.length_map];decide) (by rw [List.length_map];decide) hT2 (fun k hk=>?_) hf1 hc1 W.lim (by exact q7 hroom) rfl rfl rfl (fun v=>by rfl) (by rfl) (by rfl)
   (fun A' g' fr' E' T vs n k t a1 F hT hv=>?_) fun D2 q hq hqs hD2=>?_
  ·have hk':k < 10:=hk
   rw [kzg k hk',show (9 - (k:Int)).toNat=9 - k by exact df];rfl
  ·dsimp only [X1]
   repeat' walk_at "kl"
   exact oI (by intro _ _;with_unfolding_all rfl) hT (by decide) (by decide) hv rfl
  have hq10:∀ j∈q,j < 10:=fun j hj=>List.mem_range.mp (hq.mem_iff.mp hj)
  have heq:zf.map Prod.snd=q.map fun j=>9 - j:=by
   refine eU (R:=RF ps) (fun a b h1 h2=>by unfold RF at h1 h2;exact gJ h1 h2) ?_ fs ?_
   ·refine fp.trans (List.Perm.trans ?_ (hq.map _).symm)
    have:(List.range (K5.map fun v=>(r0 ps v.toNat:Int)).length).map (fun j=>9 - j)=(List.range 10).reverse:=by rw [List.length_map];decide
    rw [this]
    exact (List.reverse_perm _).symm
   ·rw [List.pairwise_map]
    refine hqs.imp_of_mem fun {a b} ha hb hab=>?_
    have h1:=hq10 a ha
    have h2:=hq10 b hb
    unfold RK at hab
    dsimp only at hab
    rw [kzg a h1,kzg b h2] at hab
    unfold RF;exact ql h2 hab
  have hz:∀ (i:Nat) z,zf[i]?=some z→∃ j,q[i]?=some j∧z.2=9 - j∧j < 10:=fun i z hi=>by
   have:=congrArg (fun l=>l[i]?) heq
   simp only [List.getElem?_map,hi,Option.map_some] at this
   refine z0 (Option.map_eq_some_iff.mp this.symm) fun j hj e=>?_
   exact ⟨j,hj,e.symm,hq10 j (List.mem_of_getElem? hj)⟩
  have hsub:∀ b o,b≠192→hp b=some o→k0 p₂ D2 (.list (q.map fun i=>.ref (ts.getD i 0))) b=some o:=fun b o hb e=>E1 hD2 (hk1 b o hb (sD _ _ (hs₁ _ _ e)))
  have ne192:∀ b o,(∀ x,o≠.obj x)→hp b=some o→b≠192:=fun b o ho e=>by
   rintro rfl
   refine o0 o192 fun x hx=>?_;try clear o192
   rw [hx] at e;injection e with e;exact ho _ e.symm
  refine ay (hsub fi _ (ne192 _ _ (fun Z=>by simp) KF.1) KF.1) (s0 ..) (by have:=congrArg List.length heq;simpa using this) (fun i v w a b=>?_) (by exact w8 hun) ⟨_,rfl,?_⟩
  ·rw [List.getElem?_map] at a b
   refine z0 (Option.map_eq_some_iff.mp a) fun z hz1 hR0=>?_;subst hR0
   refine J2 (hz i z hz1) fun j hj hz2 hj10=>?_
   rw [hj] at b
   injection b with b
   subst b
   have tz:=KF.2 z (List.mem_of_getElem? hz1)
   obtain ⟨U,hU⟩:∃ U,ts[j]?=some U:=⟨_,List.getElem?_eq_getElem (by exact q6 hj10 htl)⟩
   have tU:=hT2 j U hU
   refine .inr ⟨z.1,ts.getD j 0,_,rfl,rfl,hsub _ _ (ne192 _ _ (fun Z=>by simp) tz) tz,?_,fun x hx=>?_⟩
   ·rw [List.getD_eq_getElem?_getD,hU]
    show k0 p₂ D2 _ U=_
    rw [E1 hD2 tU,hz2,show (9 - (j:Int)).toNat=9 - j by exact df,show (9 - (j:Int))=((9 - j:Nat):Int) by exact qj hj10]
   ·rcases List.mem_cons.mp hx with rfl | hx
    ·exact .inl ⟨_,rfl⟩
    ·cases List.mem_singleton.mp hx;exact .inl ⟨_,rfl⟩
  ·show ite _ _ _;rw [if_neg Bool.false_ne_true]
   refine J7 ?_
   exact h _ hsub (L1.keeps fun b o e=>E1 hD2 e)
end
section
theorem lQ {key:Nat→Nat} {zs:List (Addr × Nat)} {n:Nat} (h:(zs.map Prod.snd).Perm (List.range n)) (q:Int→Bool):(zs.map fun z=>(key z.2:Int)).countP q=(List.range n).countP fun j=>q (key j):=by
 have e:(zs.map fun z=>(key z.2:Int))=(zs.map Prod.snd).map fun j=>(key j:Int):=by simp only [List.map_map];rfl
 simp only [e,List.countP_map,h.countP_eq];rfl
theorem Ds {ps:List (Nat × Nat)} {zf zl:List (Addr × Nat)} {n:Nat} (hf:(zf.map Prod.snd).Perm (List.range n)) (hl:(zl.map Prod.snd).Perm (List.range n)) (hle:∀ j,r0 ps j≤A0 ps j) (a:Nat) :
  ((j3 (zf.map fun z=>(r0 ps z.2:Int)) ((a:Int)+1):Int) - C2 (zl.map fun z=>(A0 ps z.2:Int)) a)=(R2 (r0 ps) (A0 ps) n a:Nat):=by
 delta j3 C2
 simp only [lQ hf,lQ hl]
 have:=cx (L:=fun Z=>0) hle a 0 n
 simp only [decide_true,Bool.true_and,true_and] at this
 exact this
theorem Ar {C:Cx} (W:G1 C) {A:Around} {g:Heap} {fr:Fm} {E:Value→Shared→Prop} {loc:j0} {hp:HP} {Q:Flow→j0→HP→Prop} (LA:G5 A fr)
  {fi la:Addr} {ps:List (Nat × Nat)} {zf zl:List (Addr × Nat)} (l1:loc "firsts" = some (.ref fi)) (l2:loc "lasts" = some (.ref la))
  (KF:Y4 (r0 ps) hp fi zf) (KL:Y4 (A0 ps) hp la zl) (fp:(zf.map Prod.snd).Perm (List.range 10)) (lp:(zl.map Prod.snd).Perm (List.range 10)) (fs:(zf.map Prod.snd).Pairwise (RF ps)) (ls:(zl.map Prod.snd).Pairwise (RL ps)) (hle:∀ j,r0 ps j≤A0 ps j)
  (h:∀ loc' p' Dc,m0 hp p'→p' Dc=some (.list (((List.range 24).map fun a=>(R2 (r0 ps) (A0 ps) 10 a:Int)).map iv))→loc' "counts" = some (.ref Dc)→(∀ (y:Str) v,y∉(["first","last","counts"]:List Str)→loc y=some v→loc' y=some v)→I0 C A g fr E (execs ((M3 (G0 21)).drop 19) fr.env) loc' p' Q) :
  I0 C A g fr E (execs ((M3 (G0 21)).drop 17) fr.env) loc hp Q:=by
 obtain ⟨F,hroom,hh,hfrm,hlf,hun,hcode,hqual⟩:=LA
 have hrange:=W.range
 have hgR:=W.gR
 refine o0 (W.fR) fun pmR FR=>?_
 have hgL:=W.gL
 refine o0 (W.fL) fun pmL FL=>?_
 have lzf:zf.length=10:=by have:=fp.length_eq;simpa using this
 have lzl:zl.length=10:=by have:=lp.length_eq;simpa using this
 have sf:(zf.map fun z=>(r0 ps z.2:Int)).Pairwise (·≤·):=by
  have:=fs
  rw [List.pairwise_map] at this ⊢
  exact this.imp fun {a b} h=>by unfold RF at h;exact aQ h
 have sl:(zl.map fun z=>(A0 ps z.2:Int)).Pairwise (·≤·):=by
  have:=ls
  rw [List.pairwise_map] at this ⊢
  exact this.imp fun {a b} h=>by unfold RL at h;exact aQ h
 have kf1:hp fi=some (.list ((zf.map Prod.fst).map .ref)):=by simp only [KF.1,List.map_map];rfl
 have kl1:hp la=some (.list ((zl.map Prod.fst).map .ref)):=by rw [KL.1,List.map_map];rfl
 have kT:∀ {key:Nat→Nat} {a:Addr} {zs:List (Addr × Nat)} {p:HP},Y4 key p a zs→∀ (i:Nat) (T:Addr) (v:Addr × Nat),(zs.map Prod.fst)[i]?=some T→zs[i]?=some v→p T=some (.tuple [iv (key v.2),iv v.2]):=fun {key a zs p} K i T v e1 e2=>by
  rw [List.getElem?_map,e2] at e1
  injection e1 with e1
  rw [←e1];exact K.2 v (List.mem_of_getElem? e2)
 refine Y1 ?_
 repeat' walk_at "kl"
 refine W4 zf (fun z=>[iv (r0 ps z.2),iv z.2]) (fun z=>iv (r0 ps z.2)) (bS hh kf1 (by exact List.length_map ..) (kT KF) fun need hneed=>⟨rfl,by exact q4 lzf,?elt,?done⟩)
 case elt=>
  intro z hz g₃ fr₃ E₃ hF₃
  dsimp only [W0,K0]
  repeat' walk_at "kl"
  exact ⟨rfl,m0.rfl,rfl⟩
 case done=>
  intro D1 hD1
  have s1:=m0.set (o:=.list (zf.map fun z=>iv (r0 ps z.2))) hD1
  have e1:k0 hp D1 (.list (zf.map fun z=>iv (r0 ps z.2))) D1=some (.list ((zf.map fun z=>(r0 ps z.2:Int)).map iv)):=by simp only [s0,List.map_map];rfl
  have KL1:=KL.frame (p':=k0 hp D1 (.list (zf.map fun z=>iv (r0 ps z.2)))) ((s1 _ _ KL.1).trans KL.1.symm) fun b xs e=>s1 _ _ e
  have kl2:=s1 _ _ kl1
  generalize k0 hp D1 (.list (zf.map fun z=>iv (r0 ps z.2)))=p₁ at s1 e1 KL1 kl2 ⊢
  repeat' walk_at "kl"
  refine W4 zl (fun z=>[iv (A0 ps z.2),iv z.2]) (fun z=>iv (A0 ps z.2)) (bS hh kl2 (by exact List.length_map ..) (kT KL1) fun need hneed=>⟨rfl,by exact q4 lzl,?elt2,?done2⟩)
  case elt2=>
   intro z hz g₃ fr₃ E₃ hF₃
   dsimp only [W0,K0]
   repeat' walk_at "kl"
   exact ⟨rfl,m0.rfl,rfl⟩
  case done2=>
   intro D2 hD2
   have s2:=m0.set (o:=.list (zl.map fun z=>iv (A0 ps z.2))) hD2
   have e2:k0 p₁ D2 (.list (zl.map fun z=>iv (A0 ps z.2))) D2=some (.list ((zl.map fun z=>(A0 ps z.2:Int)).map iv)):=by simp only [s0,List.map_map];rfl
   generalize k0 p₁ D2 (.list (zl.map fun z=>iv (A0 ps z.2)))=p₂ at s2 e2 ⊢
   have e1':=s2 _ _ e1
   repeat' walk_at "kl"
   refine ⟨by simp,fun T hT=>⟨T,_,_,rfl,s0 ..,?_⟩⟩
   have sT:=m0.set (o:=.tuple [.ref D1,.ref D2]) hT
   show I0 _ _ _ _ _ _ _ (k0 p₂ T (.tuple [.ref D1,.ref D2])) _
   generalize k0 p₂ T (.tuple [.ref D1,.ref D2])=p₃ at sT ⊢
   have e3:=sT _ _ e1'
   have e4:=sT _ _ e2
   repeat' walk_at "kl"
   refine k6 fun r hr=>W4 (O0 0 24) (fun v=>[iv v]) (fun v=>iv (R2 (r0 ps) (A0 ps) 10 v.toNat)) (j5 hh hr (by decide) (by decide) ⟨rfl,by decide,?elt3,?done3⟩)
   case elt3=>
    intro v hv g₃ fr₃ E₃ hF₃
    refine B0 (Y3.mp hv) fun v1 v2=>?_
    dsimp only [W0,K0]
    repeat' walk_at "kl"
    refine mC W (by exact q7 hroom) e3 (by rw [List.length_map];exact gI lzf) sf ?_
    repeat' walk_at "kl"
    refine fv W (by exact q7 hroom) e4 (by rw [List.length_map];exact gI lzl) sl ?_
    repeat' walk_at "kl"
    have:=Ds fp lp hle v.toNat
    rw [show ((v.toNat:Nat):Int)=v by exact bh v1] at this
    exact ⟨rfl,m0.rfl,by rw [this]⟩
   case done3=>
    intro D3 hD3
    have e5:(O0 0 24).map (fun v=>iv (R2 (r0 ps) (A0 ps) 10 v.toNat))=((List.range 24).map fun a=>(R2 (r0 ps) (A0 ps) 10 a:Int)).map iv:=by
     have:O0 0 24=(List.range 24).map fun a:Nat=>(a:Int):=by decide
     simp only [this,List.map_map,List.map_map]
     exact List.map_congr_left fun a Z=>by show iv (R2 _ _ 10 ((a:Int)).toNat)=_;simp only [Int.toNat_natCast];rfl
    refine h _ _ D3 (s1.trans (s2.trans (sT.trans (m0.set hD3)))) (by rw [s0,e5]) (by walk_at "loc") fun y v hy e=>?_
    simp only [List.mem_cons,not_or] at hy
    refine P1 hy fun y1 y2 y3 Z=>?_;try clear hy
    exact I4 y3 (I4 y2 (I4 y1 e))
end
section
theorem Aq {C:Cx} (W:G1 C) {A:Around} {g:Heap} {fr:Fm} {E:Value→Shared→Prop} {loc:j0} {hp:HP} {Q:Flow→j0→HP→Prop} (LA:G5 A fr)
  {la S₁ Dc th:Addr} {sts tts:List Addr} {ps:List (Nat × Nat)} {zl:List (Addr × Nat)} {rows:List (List Int)} {Ls:List Nat} (l1:loc "lasts" = some (.ref la)) (l2:loc "spans" = some (.ref S₁)) (l3:loc "counts" = some (.ref Dc)) (l4:loc "there" = some (.ref th))
  (hP:X3 hp S₁ sts ps) (KL:Y4 (A0 ps) hp la zl) (lp:(zl.map Prod.snd).Perm (List.range 10)) (ls:(zl.map Prod.snd).Pairwise (RL ps)) (hpl:ps.length=10)
  (hDc:hp Dc=some (.list (((List.range 24).map fun a=>(R2 (r0 ps) (A0 ps) 10 a:Int)).map iv))) (rt:Y0 hp th tts rows) (TH:o6 ps Ls rows) (hL:Ls.length=10)
  (h:∀ p',m0 hp p'→I0 C A g fr E (execs ((M3 (G0 21)).drop 20) fr.env) loc p' Q) :
  I0 C A g fr E (execs ((M3 (G0 21)).drop 19) fr.env) loc hp Q:=by
 obtain ⟨F,hroom,hh,hfrm,hlf,hun,hcode,hqual⟩:=LA
 have henum:=W.enumerate
 have hsorted:=W.sorted
 have hlen:=W.len
 have hstl:sts.length=10:=by rw [hP.2.1,hpl]
 refine Y1 ?_
 repeat' walk_at "kl"
 refine m9 (ah hh hP.1 ?en) fun v l p hz=>Q8 sts.zipIdx (fun z=>[iv z.2,.ref z.1]) (fun z=>.tuple [iv (A0 ps z.2),iv z.2]) hz
 case en=>
  refine ⟨by rw [List.zipIdx_map,List.map_map];rfl,by simp;exact q4 hstl,fun p' hs=>hs _ _ hP.1,?elt,?done⟩
  case elt=>
   intro z hz g₃ fr₃ E₃ p₃ hF₃ hs₃
   obtain ⟨T,k⟩:=z
   refine o0 (List.mem_iff_getElem?.mp hz) fun j hj=>?_
   rw [List.getElem?_zipIdx] at hj
   refine z0 (Option.map_eq_some_iff.mp hj) fun T' hT' e=>?_
   injection e with e1 e2
   subst e1
   have e3:j=k:=by exact N6 e2
   subst e3
   have hk:j < ps.length:=by simp only [hpl,←hstl];exact (List.getElem?_eq_some_iff.mp hT').1
   have hT:=hs₃ _ _ (hP.2.2 j T' _ hT' (List.getElem?_eq_getElem hk))
   have eh:(ps[j]).2=A0 ps j:=by unfold A0;rw [List.getD_eq_getElem?_getD,List.getElem?_eq_getElem hk];rfl
   rw [eh] at hT
   dsimp only [W0,K0]
   repeat' walk_at "kl"
   exact ⟨by simp,fun U hU=>⟨rfl,U,rfl,hU,m0.set hU,by rw [s0]⟩⟩
  case done=>
   intro D ts p₁ hlts hnd hts _ hs₁ hD
   have sD:=hs₁.trans (m0.set (o:=.list (ts.map .ref)) hD)
   have eD:=s0 p₁ D (.list (ts.map .ref))
   have htl:ts.length=10:=by rw [hlts];simp [hstl]
   obtain ⟨pq,hpq⟩:∃ l:List (Int × Int),l=(List.range 10).map fun k:Nat=>((A0 ps k:Int),(k:Int)):=⟨_,rfl⟩
   have hpql:pq.length=10:=by rw [hpq];rfl
   have pqg:∀ k,k < 10→pq[k]?=some ((A0 ps k:Int),(k:Int)):=fun k hk=>by simp only [hpq,List.getElem?_map,List.getElem?_range hk];rfl
   have hT2:∀ (k:Nat) T x,ts[k]?=some T→pq[k]?=some x→k0 p₁ D (.list (ts.map .ref)) T=some (.tuple [iv x.1,iv x.2]):=fun k T x a b=>by
    have hk:k < 10:=by rw [←htl];exact (List.getElem?_eq_some_iff.mp a).1
    rw [pqg k hk] at b
    injection b with b;subst b
    refine E1 hD (hts k T (sts[k],k) a ?_)
    simp only [List.getElem?_zipIdx,List.getElem?_eq_getElem (by exact q6 hk hstl)];simp
   generalize k0 p₁ D (.list (ts.map .ref))=p₂ at sD eD hT2 ⊢
   repeat' walk_at "kl"
   refine Ec (ps:=pq) eD (by exact qi htl hpql) (by exact qh hpql) (by exact qg hpql) hT2 (fun x hx=>?_) fun D2 q hq hqs hD2=>?_
   ·rw [hpq] at hx
    refine z0 (List.mem_map.mp hx) fun k hk hR0=>?_;subst hR0
    have:=List.mem_range.mp hk
    dsimp only;exact qf this
   rw [hpql] at hq
   have hq10:∀ j∈q,j < 10:=fun j hj=>List.mem_range.mp (hq.mem_iff.mp hj)
   have heq:zl.map Prod.snd=q:=by
    refine eU (R:=RL ps) (fun a b h1 h2=>by unfold RL at h1 h2;exact gJ h1 h2) (lp.trans hq.symm) ls ?_
    refine hqs.imp_of_mem fun {a b} ha hb hab=>?_
    have h1:=hq10 a ha
    have h2:=hq10 b hb
    unfold RK at hab
    dsimp only at hab
    rw [List.getD_eq_getElem?_getD,List.getD_eq_getElem?_getD,pqg a h1,pqg b h2] at hab
    simp only [Option.getD_some] at hab
    unfold RL;exact qe h2 hab
   have s2:=sD.trans (m0.set (o:=.list (q.map fun i=>.ref (ts.getD i 0))) hD2)
   have e2:=s0 p₂ D2 (.list (q.map fun i=>.ref (ts.getD i 0)))
   have hT3:∀ (k:Nat) T x,ts[k]?=some T→pq[k]?=some x→k0 p₂ D2 (.list (q.map fun i=>.ref (ts.getD i 0))) T=some (.tuple [iv x.1,iv x.2]):=fun k T x a b=>E1 hD2 (hT2 k T x a b)
   generalize k0 p₂ D2 (.list (q.map fun i=>.ref (ts.getD i 0)))=p₃ at s2 e2 hT3 ⊢
   refine ay (s2 _ _ KL.1) e2 (by have:=congrArg List.length heq;simpa using this) (fun i v w a b=>?_) (by exact w8 hun) ⟨_,rfl,?_⟩
   ·rw [List.getElem?_map] at a b
    refine z0 (Option.map_eq_some_iff.mp a) fun z hz1 hR0=>?_;subst hR0
    have hj:q[i]?=some z.2:=by simp only [←heq,List.getElem?_map,hz1];rfl
    rw [hj] at b
    injection b with b
    subst b
    have hj10:=hq10 z.2 (List.mem_of_getElem? hj)
    obtain ⟨U,hU⟩:∃ U,ts[z.2]?=some U:=⟨_,List.getElem?_eq_getElem (by exact q6 hj10 htl)⟩
    refine .inr ⟨z.1,ts.getD z.2 0,_,rfl,rfl,s2 _ _ (KL.2 z (List.mem_of_getElem? hz1)),?_,fun x hx=>?_⟩
    ·rw [List.getD_eq_getElem?_getD,hU]
     exact hT3 z.2 U _ hU (pqg z.2 hj10)
    ·rcases List.mem_cons.mp hx with rfl | hx
     ·exact .inl ⟨_,rfl⟩
     ·cases List.mem_singleton.mp hx;exact .inl ⟨_,rfl⟩
   show ite _ _ _;rw [if_neg Bool.false_ne_true]
   have rt3:=rt.mono s2
   have hDc3:=s2 _ _ hDc
   repeat' walk_at "kl"
   have htt:tts.length=24:=by rw [rt3.2.1,TH.len]
   have hz3:(tts.zip rows).map Prod.fst=tts:=List.map_fst_zip (by rw [rt3.2.1];exact Nat.le_refl _)
   refine W4 (tts.zip rows) (fun z=>[.ref z.1]) (fun z=>iv z.2.length) (bT hh rt3.1 ⟨?evs,?len3,?elt3,?done3⟩)
   case evs=>
    conv=>lhs;rw [←hz3]
    rw [List.map_map,List.map_map];rfl
   case len3=>simp;exact qc htt
   case elt3=>
    intro z hz g₃ fr₃ E₃ hF₃
    obtain ⟨T,r⟩:=z
    refine o0 (List.mem_iff_getElem?.mp hz) fun k hk=>?_
    refine B0 (List.getElem?_zip_eq_some.mp hk) fun hk1 hk2=>?_
    have hT:=rt3.2.2.2 k T r hk1 hk2
    have hr:=TH.sizes r (List.mem_of_getElem? hk2)
    dsimp only [W0,K0]
    repeat' walk_at "kl"
    refine E6 hT (by simp only [List.length_map,sizeLine_eq];exact qb hL hr) ⟨rfl,m0.rfl,?_⟩
    rw [List.length_map]
   case done3=>
    intro D3 hD3
    have e3:(tts.zip rows).map (fun z=>iv z.2.length)=((List.range 24).map fun a=>(R2 (r0 ps) (A0 ps) 10 a:Int)).map iv:=by
     have z2:(tts.zip rows).map Prod.snd=rows:=List.map_snd_zip (by rw [rt3.2.1];exact Nat.le_refl _)
     have a1:(tts.zip rows).map (fun z=>iv z.2.length)=rows.map fun r=>iv r.length:=by
      conv=>rhs;rw [←z2]
      rw [List.map_map];rfl
     simp only [a1,List.map_map]
     conv=>lhs;rw [←gt [] rows]
     simp only [List.map_map,TH.len]
     refine List.map_congr_left fun a ha=>?_
     show iv ((rows.getD a []).length:Int)=iv (R2 (r0 ps) (A0 ps) 10 a:Int)
     rw [TH.size a (List.mem_range.mp ha),hL]
    refine ay (E1 hD3 hDc3) (by rw [s0,e3]) rfl gl (by exact w8 hun) ⟨_,rfl,?_⟩
    show ite _ _ _;rw [if_neg Bool.false_ne_true]
    refine J7 ?_
    exact h _ (s2.trans (m0.set hD3))
end
section
theorem lw:∀ {l₁ l₂:List Nat},l₁.Pairwise (· < ·)→l₂.Pairwise (· < ·)→(∀ x,x∈l₁↔x∈l₂)→l₁=l₂
 | [],[],_,_,_=>rfl
 | [],y::l₂,_,_,h=>by have:=(h y).mpr (.head _);cases this
 | x::l₁,[],_,_,h=>by have:=(h x).mp (.head _);cases this
 | x::l₁,y::l₂,h1,h2,h=>by
  refine B0 (List.pairwise_cons.mp h1) fun a1 b1=>?_
  refine B0 (List.pairwise_cons.mp h2) fun a2 b2=>?_
  have e:x=y:=by
   rcases List.mem_cons.mp ((h x).mp (.head _)) with q | q
   ·exact q
   ·rcases List.mem_cons.mp ((h y).mpr (.head _)) with r | r
    ·exact r.symm
    ·have:=a1 y r;have:=a2 x q;exact pZ (by assumption) this
  subst e
  rw [lw b1 b2 fun z=>?_]
  constructor
  ·intro hz
   rcases List.mem_cons.mp ((h z).mp (.tail _ hz)) with q | q
   ·have:=a1 z hz;exact (dc this q).elim
   ·exact q
  ·intro hz
   rcases List.mem_cons.mp ((h z).mpr (.tail _ hz)) with q | q
   ·have:=a2 z hz;exact (dc this q).elim
   ·exact q
theorem ft:∀ (n:Nat) (N:List Nat),N.length=n→N.Pairwise (· < ·)→∀ b,(∀ x∈N,x < b)→(N.map fun f=>2 ^ f).sum < 2 ^ b∧∀ k,(N.map fun f=>2 ^ f).sum.testBit k=decide (k∈N)
 | 0,N,hn,_,b,_=>by
  rw [List.length_eq_zero_iff.mp hn]
  exact ⟨Nat.two_pow_pos b,fun k=>by simp⟩
 | n+1,N,hn,hp,b,hb=>by
  obtain ⟨r,m,rfl⟩:∃ r m,N=r++[m]:=⟨N.dropLast,N.getLast (by rintro rfl;simp at hn),(List.dropLast_concat_getLast _).symm⟩
  refine V1 (List.pairwise_append.mp hp) fun p1 Z p3=>?_
  have hr:∀ x∈r,x < m:=fun x hx=>p3 x hx m (.head _)
  refine B0 (ft n r (by simpa using hn) p1 m hr) fun s1 s2=>?_
  have hm:m < b:=hb m (by simp)
  have e:((r++[m]).map fun f=>2 ^ f).sum=2 ^ m+(r.map fun f=>2 ^ f).sum:=by
   rw [List.map_append,List.sum_append];simp;exact pY
  have hlt:2 ^ m+(r.map fun f=>2 ^ f).sum < 2 ^ (m+1):=by simp only [Nat.pow_succ];exact pX s1
  rw [e]
  refine ⟨Nat.lt_of_lt_of_le hlt (Nat.pow_le_pow_right (by decide) hm),fun k=>?_⟩
  rcases Nat.lt_trichotomy k m with q | q | q
  ·rw [Nat.testBit_two_pow_add_gt q,s2 k]
   refine decide_eq_decide.mpr ?_
   rw [List.mem_append,List.mem_singleton]
   exact ⟨.inl,fun h=>h.resolve_right (by exact V9 q)⟩
  ·subst q
   simp only [Nat.testBit_two_pow_add_eq,Nat.testBit_lt_two_pow s1]
   simp
  ·rw [Nat.testBit_lt_two_pow (Nat.lt_of_lt_of_le hlt (Nat.pow_le_pow_right (by decide) q))]
   refine (decide_eq_false fun h=>?_).symm
   rcases List.mem_append.mp h with h | h
   ·have:=hr k h;exact pW q this
   ·rw [List.mem_singleton] at h;exact dc q h
theorem El {N:List Nat} (hp:N.Pairwise (· < ·)) (hb:∀ x∈N,x < 32):M4 (N.map fun f=>2 ^ f).sum 32=N:=by
 refine B0 (ft _ N rfl hp 32 hb) fun s1 s2=>?_
 refine lw ?_ hp fun x=>?_
 ·unfold M4
  exact List.Pairwise.filter _ (List.pairwise_lt_range)
 ·unfold M4
  rw [List.mem_filter,List.mem_range,s2,decide_eq_true_eq]
  exact ⟨fun h=>h.2,fun h=>⟨hb x h,h⟩⟩
theorem nw {N:List Nat} (hp:N.Pairwise (· < ·)) (hb:∀ x∈N,x < 32) (hne:N≠[]):w6 (N.map fun f=>2 ^ f).sum=N.map K1:=by
 unfold w6
 have e:=El hp hb
 rw [if_neg (fun w=>?_),e]
 rw [w] at e
 have:M4 0 32=[]:=by decide
 rw [this] at e
 exact hne e.symm
theorem nh {α:Type} {sts:List α} {g:Nat→Option Value}:sts.zipIdx.filterMap (fun z=>g z.2)=(List.range sts.length).filterMap g:=by
 have e:sts.zipIdx.map Prod.snd=List.range sts.length:=by simp only [List.zipIdx_map_snd,List.range_eq_range']
 simp only [←e,List.filterMap_map];rfl
theorem Ap {C:Cx} (W:G1 C) {A:Around} {g:Heap} {fr:Fm} {E:Value→Shared→Prop} {loc:j0} {hp:HP} {Q:Flow→j0→HP→Prop} (LA:G5 A fr)
  {S₁ Dc Dw ln:Addr} {sts:List Addr} {ps:List (Nat × Nat)} {Ls fs:List Nat} {full:Nat} (l1:loc "lines" = some (.ref ln)) (l2:loc "spans" = some (.ref S₁)) (l3:loc "counts" = some (.ref Dc)) (l4:loc "fullest" = some (iv full)) (l5:loc "names" = some (.ref Dw))
  (hP:X3 hp S₁ sts ps) (hpl:ps.length=10) (hL:Ls.length=10) (hln:hp ln=some (.list ((L0 ((List.range Ls.length).map (B1 Ls fs))).map iv)))
  (hDc:hp Dc=some (.list (((List.range 24).map fun a=>(R2 (r0 ps) (A0 ps) 10 a:Int)).map iv))) (hDw:hp Dw=some (.list ((List.range 32).map fun k=>.str (K1 k) 0)))
  (G:H5 ps Ls fs full) (hlt:∀ j,j < 10→r0 ps j < A0 ps j) (hlo:∀ j,r0 ps j≤15) (hf:1≤full∧full≤10) (hfull:∃ v∈ps,B4 ps v.1=full)
  (h:∀ loc' p',m0 hp p'→Q (.ret (.bool true)) loc' p') :
  I0 C A g fr E (execs ((M3 (G0 21)).drop 20) fr.env) loc hp Q:=by
 obtain ⟨F,hroom,hh,hfrm,hlf,hun,hcode,hqual⟩:=LA
 have henum:=W.enumerate
 have hsorted:=W.sorted
 have hsum:=W.sum
 have hgP:=W.gPretty
 refine o0 (W.fPretty) fun pmP FP=>?_
 have hstl:sts.length=10:=by rw [hP.2.1,hpl]
 obtain ⟨cs,hcs⟩:∃ cs:List Int,cs=(List.range 24).map fun a=>(R2 (r0 ps) (A0 ps) 10 a:Int):=⟨_,rfl⟩
 rw [←hcs] at hDc
 have csl:cs.length=24:=by rw [hcs];rfl
 have csg:∀ a,a < 24→cs[a]?=some (R2 (r0 ps) (A0 ps) 10 a:Int):=fun a ha=>by simp only [hcs,List.getElem?_map,List.getElem?_range ha];rfl
 have hin:(full:Int)∈cs:=by
  refine z0 hfull fun v hv e=>?_;try clear hfull
  refine o0 (List.mem_iff_getElem?.mp hv) fun j hj=>?_
  have:v.1=r0 ps j:=by unfold r0;rw [List.getD_eq_getElem?_getD,hj];rfl
  have h15:=hlo j
  have:=csg v.1 (by exact pV h15 this)
  rw [←hpl,lP,e] at this
  exact List.mem_of_getElem? this
 obtain ⟨c,hc⟩:∃ c,c=cs.idxOf (full:Int):=⟨_,rfl⟩
 have hc24:c < 24:=by simp only [hc,←csl];exact List.idxOf_lt_length_iff.mpr hin
 have hcov:R2 (r0 ps) (A0 ps) 10 c=full:=by
  have e1:=csg c hc24
  have e2:cs[c]?=some (full:Int):=by
   simp only [hc,List.getElem?_eq_getElem (List.idxOf_lt_length_iff.mpr hin),List.getElem_idxOf]
  rw [e2] at e1;injection e1 with e1;exact pU e1
 refine Y1 ?_
 repeat' walk_at "kl"
 refine m9 (ah hh hP.1 ?en) fun v l p hz=>j7 sts.zipIdx (fun z=>[iv z.2,.ref z.1]) (fun z=>if (r0 ps z.2:Int)≤c∧(c:Int) < A0 ps z.2 then some (iv (B1 Ls fs z.2)) else none) hz
 case en=>
  refine ⟨by rw [List.zipIdx_map,List.map_map];rfl,by simp;exact q4 hstl,?elt,?done⟩
  case elt=>
   intro z hz g₃ fr₃ E₃ hF₃
   obtain ⟨T,k⟩:=z
   refine o0 (List.mem_iff_getElem?.mp hz) fun j hj=>?_
   rw [List.getElem?_zipIdx] at hj
   refine z0 (Option.map_eq_some_iff.mp hj) fun T' hT' e=>?_
   injection e with e1 e2
   subst e1
   have e3:j=k:=by exact N6 e2
   subst e3
   have hk:j < ps.length:=by simp only [hpl,←hstl];exact (List.getElem?_eq_some_iff.mp hT').1
   have hT:=hP.2.2 j T' _ hT' (List.getElem?_eq_getElem hk)
   have eh:(ps[j]).2=A0 ps j:=by unfold A0;rw [List.getD_eq_getElem?_getD,List.getElem?_eq_getElem hk];rfl
   have el:(ps[j]).1=r0 ps j:=by unfold r0;rw [List.getD_eq_getElem?_getD,List.getElem?_eq_getElem hk];rfl
   rw [eh,el] at hT
   dsimp only [W0,K0]
   repeat' walk_at "kl"
   refine ⟨_,B6 PySem.F.slot_list_index PySem.F.type_list_index hDc,?_⟩
   repeat' walk_at "kl"
   refine ⟨S4,zV hDc (by exact pS csl) hin ?_⟩
   simp only [←hc]
   repeat' walk_at "kl"
   by_cases h1:(r0 ps j:Int)≤c
   ·rw [if_pos (by simpa using h1)]
    repeat' walk_at "kl"
    refine ⟨rfl,m0.rfl,?_⟩
    by_cases h2:(c:Int) < A0 ps j
    ·rw [if_pos (by simpa using h2)]
     intro g₅ E₅
     repeat' walk_at "kl"
     refine sub_int (by intro _ _;with_unfolding_all rfl) hln (by exact q0) (by simp [L0];exact gH hL hpl hk) (by simp only [List.length_map,List.length_range];exact q4 hL) ?_
     rw [Int.toNat_natCast,bM (by exact gH hL hpl hk)]
     exact ⟨rfl,m0.rfl,if_pos ⟨h1,h2⟩⟩
    ·rw [if_neg (by simpa using h2)]
     exact if_neg fun h=>h2 h.2
   ·rw [if_neg (by simpa using h1)]
    refine ⟨rfl,m0.rfl,?_⟩
    rw [if_neg (by decide)]
    exact if_neg fun h=>h1 h.1
  case done=>
   intro D hD
   repeat' walk_at "kl"
   rw [nh (g:=fun k=>if (r0 ps k:Int)≤c∧(c:Int) < A0 ps k then some (iv (B1 Ls fs k)) else none),bX (fun k:Nat=>(r0 ps k:Int)≤c∧(c:Int) < A0 ps k) (fun k=>iv (B1 Ls fs k)),hstl]
   obtain ⟨H,hH⟩:∃ H:List Nat,H=((List.range 10).filter fun k=>decide ((r0 ps k:Int)≤c∧(c:Int) < A0 ps k)).map (B1 Ls fs):=⟨_,rfl⟩
   have sD:=m0.set (o:=.list (((List.range 10).filter fun k=>decide ((r0 ps k:Int)≤c∧(c:Int) < A0 ps k)).map fun k=>iv (B1 Ls fs k))) hD
   have eD:k0 hp D (.list (((List.range 10).filter fun k=>decide ((r0 ps k:Int)≤c∧(c:Int) < A0 ps k)).map fun k=>iv (B1 Ls fs k))) D=some (.list ((L0 H).map iv)):=by
    rw [s0,hH,L0,List.map_map,List.map_map];rfl
   generalize k0 hp D (.list (((List.range 10).filter fun k=>decide ((r0 ps k:Int)≤c∧(c:Int) < A0 ps k)).map fun k=>iv (B1 Ls fs k)))=p₁ at sD eD ⊢
   have hHlen:H.length≤10:=by rw [hH,List.length_map];exact Nat.le_trans (List.length_filter_le _ _) (by exact Nat.le_refl _)
   have hHlt:∀ x∈H,x < 32:=fun x hx=>by
    rw [hH] at hx
    refine z0 (List.mem_map.mp hx) fun k hk hR0=>?_;subst hR0
    have hk':=List.mem_range.mp (List.mem_filter.mp hk).1
    have:=jV G (j:=k) (by exact q6 hk' hL)
    exact pR this hf
   have hHnd:H.Nodup:=by
    rw [hH]
    refine List.pairwise_map.mpr (List.Pairwise.imp_of_mem (fun {a b} ha hb hab=>?_) (List.Pairwise.filter _ (List.nodup_range (n:=10))))
    intro e
    refine B0 (List.mem_filter.mp ha) fun a1 a2=>?_
    refine B0 (List.mem_filter.mp hb) fun b1 b2=>?_
    have a1':=List.mem_range.mp a1
    have b1':=List.mem_range.mp b1
    simp only [decide_eq_true_eq] at a2 b2
    exact jT G (fun j hj=>hlt j (by exact gU hL hj)) (by exact q6 a1' hL) (by exact q6 b1' hL) hab e ⟨by exact gG b2 a2,by exact gG a2 b2⟩
   have hHne:H≠[]:=by
    intro w
    have:((List.range 10).filter fun k=>decide ((r0 ps k:Int)≤c∧(c:Int) < A0 ps k)).length=full:=by
     simp only [←List.countP_eq_length_filter,←hcov]
     unfold R2
     exact List.countP_congr fun k Z=>by simp only [decide_eq_true_eq];exact pQ
    have e2:=congrArg List.length w
    rw [hH,List.length_map,this] at e2
    simp at e2;exact pP e2 hf
   repeat' walk_at "kl"
   refine Ee eD (by simp [L0];exact pO hHlen) fun D2 ns' hpm hso hD2=>?_
   obtain ⟨N,hN,hNm,hNs⟩:∃ N:List Nat,ns'=L0 N∧(∀ x,x∈N↔x∈H)∧N.Pairwise (· < ·):=by
    refine ⟨ns'.map Int.toNat,?_,fun x=>?_,?_⟩
    ·simp only [L0,List.map_map]
     conv=>lhs;rw [←List.map_id ns']
     refine List.map_congr_left fun x hx=>?_
     refine z0 (List.mem_map.mp (hpm.mem_iff.mp hx)) fun y Z hR0=>?_;subst hR0
     rfl
    ·rw [List.mem_map]
     constructor
     ·intro hZ0;refine z0 hZ0 fun y hy hR0=>?_;clear hZ0;subst hR0
      refine z0 (List.mem_map.mp (hpm.mem_iff.mp hy)) fun z hz hR0=>?_;subst hR0
      exact hz
     ·intro hx
      exact ⟨x,hpm.mem_iff.mpr (List.mem_map.mpr ⟨x,hx,rfl⟩),rfl⟩
    ·have hnd:ns'.Nodup:=hpm.nodup_iff.mpr (List.pairwise_map.mpr (hHnd.imp fun {a b} hab w=>hab (by exact bo w)))
     rw [List.pairwise_map]
     have:=hso.and hnd
     refine this.imp_of_mem fun {a b} ha hb hab=>?_
     refine z0 (List.mem_map.mp (hpm.mem_iff.mp ha)) fun y Z hR0=>?_;subst hR0
     refine z0 (List.mem_map.mp (hpm.mem_iff.mp hb)) fun z Z hR0=>?_;subst hR0
     have h1:=hab.1
     have h2:=hab.2
     simp only [Int.toNat_natCast]
     exact pN hab
   subst hN
   have hNlt:∀ x∈N,x < 32:=fun x hx=>hHlt x ((hNm x).mp hx)
   have hNne:N≠[]:=fun w=>hHne (by
    cases q:H with
    | nil=>rfl
    | cons x r=>have:=(hNm x).mpr (by rw [q];exact .head _);rw [w] at this;cases this)
   have hNlen:N.length≤10:=by
    have:=hpm.length_eq
    simp [L0] at this;exact pM hHlen this
   have s2:=sD.trans (m0.set (o:=.list ((L0 N).map iv)) hD2)
   have e2:=s0 p₁ D2 (.list ((L0 N).map iv))
   generalize k0 p₁ D2 (.list ((L0 N).map iv))=p₂ at s2 e2 ⊢
   have hDw2:=s2 _ _ hDw
   repeat' walk_at "kl"
   refine W4 (L0 N) (fun v=>[iv v]) (fun v=>iv (1*2 ^ v.toNat)) (V6 hh e2 ⟨rfl,by simp [L0];exact gF hNlen,?elt2,?done2⟩)
   case elt2=>
    intro v hv g₃ fr₃ E₃ hF₃
    refine z0 (List.mem_map.mp hv) fun x hx hR0=>?_;subst hR0
    have:=hNlt x hx
    dsimp only [W0,K0]
    repeat' walk_at "kl"
    refine bB (by exact q0) (by exact pL this) (by decide) ?_
    exact ⟨rfl,m0.rfl,rfl⟩
   case done2=>
    intro D3 hD3
    have s3:=s2.trans (m0.set (o:=.list ((L0 N).map fun v=>iv (1*2 ^ v.toNat))) hD3)
    have e3:k0 p₂ D3 (.list ((L0 N).map fun v=>iv (1*2 ^ v.toNat))) D3=some (.list ((N.map fun f=>((2 ^ f:Nat):Int)).map iv)):=by
     simp only [s0,L0,List.map_map,List.map_map]
     refine congrArg (fun l=>some (AO.list l)) (List.map_congr_left fun f Z=>?_)
     show iv (1*2 ^ ((f:Int)).toNat)=iv ((2 ^ f:Nat):Int)
     simp only [Int.toNat_natCast];push_cast;rw [Int.one_mul]
    have e4:=m0.set (o:=.list ((L0 N).map fun v=>iv (1*2 ^ v.toNat))) hD3 _ _ e2
    generalize k0 p₂ D3 (.list ((L0 N).map fun v=>iv (1*2 ^ v.toNat)))=p₃ at s3 e3 e4 ⊢
    repeat' walk_at "kl"
    refine fk hh e3 ?_
    simp only [gb]
    repeat' walk_at "kl"
    refine jy W (by exact q7 hroom) hh (ft _ N rfl hNs 32 hNlt).1 fun p₄ hs4=>?_
    rw [nw hNs hNlt hNne]
    have e5:=hs4 _ _ e4
    have hDw4:=hs4 _ _ (s3 _ _ hDw)
    repeat' walk_at "kl"
    refine ⟨_,bH PySem.F.slot_str_join PySem.F.type_str_join,?_⟩
    repeat' walk_at "kl"
    refine W4 (L0 N) (fun v=>[iv v]) (fun v=>.str (K1 v.toNat) 0) (V6 hh e5 ⟨rfl,by simp [L0];exact gF hNlen,?elt3,?done3⟩)
    case elt3=>
     intro v hv g₃ fr₃ E₃ hF₃
     refine z0 (List.mem_map.mp hv) fun x hx hR0=>?_;subst hR0
     have:=hNlt x hx
     dsimp only [W0,K0]
     repeat' walk_at "kl"
     refine M5 (by intro _ _;with_unfolding_all rfl) hDw4 (by exact q0) (Int.lt_trans (Int.ofNat_lt.mpr this) (by decide)) (x:=.str (K1 x) 0) (by simp only [Int.toNat_natCast,List.getElem?_map,List.getElem?_range (by exact pK this)];rfl) ?_
     exact ⟨rfl,m0.rfl,by simp only [Int.toNat_natCast]⟩
    case done3=>
     intro D5 hD5
     have e6:k0 p₄ D5 (.list ((L0 N).map fun v=>.str (K1 v.toNat) 0)) D5=some (.list ((N.map K1).map fun y=>.str y 0)):=by
      simp only [s0,L0,List.map_map,List.map_map]
      refine congrArg (fun l=>some (AO.list l)) (List.map_congr_left fun f Z=>?_)
      show Value.str (K1 ((f:Int)).toNat) 0=_
      simp only [Int.toNat_natCast];rfl
     repeat' walk_at "kl"
     refine ⟨S4,jP e6 (by decide +kernel) (by rw [List.length_map];exact pJ hNlen) (fun y hy=>?_) ?_⟩
     ·refine z0 (List.mem_map.mp hy) fun x hx hR0=>?_;subst hR0
      have:=cO (hNlt x hx);exact aa this
     refine DB ?_
     rw [beq_self_eq_true]
     exact h _ _ (s3.trans (hs4.trans (m0.set hD5)))
end
section
theorem Av {C:Cx} (W:G1 C) (AW:K6 C) (A2:t7 C) (A3:O7 C) (CH:CodeHd C.H₀ 194 192) (BI:N9 C) (hstop:Q1 C "StopIteration" (.type "StopIteration")) {A:Around} {g:Heap} {fr:Fm} {E:Value→Shared→Prop} {hp:HP} {Q:Flow→j0→HP→Prop} {sa:Addr} {xs:List Int} (LA:G5 A fr)
  {vs:Array Value} {n:Nat} (ha:g.get? sa=some {cls:=.type "list",data:=.seq vs n}) (hvs:vs.toList.map nm=xs.map iv) (hsz:xs.length≤63) (h113:hp 113=some O2) (h120:hp 120=some O2) (L:O4 hp 192 "law.<locals>.<lambda>")
  (h:∀ loc' p',p' 113=some O2→p' 120=some O2→(∃ ps,p' 192=some (.obj (tabObj ps)))→Q (.ret (.bool true)) loc' p') :
  I0 C A g fr E (execs (M3 (G0 21)) fr.env) (X1 [("script",.ref sa)] fun Z=>none) hp Q:=by
 refine Ay W LA ha hvs hsz fun loc1 p1 Dc Dn cells ns a1 a2 a3 a4 a5 a6 a7 s1=>?_
 refine Ax W hstop LA a1 a3 a2 a4 a5 a6 a7 fun loc2 p2 S₁ sts ps full base head Dw Dm b1 b2 b3 b4 b5 b6 hP hpl hpo hfx hfm hb hh3 hDw hDm s2=>?_
 have s12:=s1.trans s2
 refine z0 (L.is) fun tab ht Z=>?_
 have hf:1≤full∧full≤10:=by
  refine z0 hfx fun v hv e=>?_;try clear hfx
  rw [←e]
  refine ⟨List.countP_pos_iff.mpr ⟨v,hv,?_⟩,by rw [←hpl];exact List.countP_le_length⟩
  have:=hpo v hv
  simp;exact pH this
 refine Aw W A3 LA b2 b4 hf (s12 _ _ ht) fun loc3 p3 role Fix bg en pl st th lv ln fi la bts ets xts rts tts LY sF kF k192 FX r1 r2 r3 r4 r5 e1 e2 e3 e4 nm c1 c2 c3 c4 c5 c6 c7 c8 c9=>?_
 have n192:∀ {b:Addr} {o:AO},p2 b=some o→(∀ x,o≠.obj x)→b≠192:=fun {b o} e ho=>by
  rintro rfl
  rw [s12 _ _ ht] at e;injection e with e;exact ho _ e.symm
 have kf:∀ {b:Addr} {o:AO},p2 b=some o→(∀ x,o≠.obj x)→Fix b=some o:=fun {b o} e ho=>kF b o (n192 e ho) e
 have hPF:X3 Fix S₁ sts ps:=⟨kf hP.1 (fun Z=>by simp),hP.2.1,fun k T v x y=>kf (hP.2.2 k T v x y) (fun Z=>by simp)⟩
 have hDmF:=kf hDm (fun Z=>by simp)
 have hDwF:=kf hDw (fun Z=>by simp)
 have f113:Fix 113=some O2:=kf (s12 _ _ h113) (fun Z=>by unfold O2;simp)
 have f120:Fix 120=some O2:=kf (s12 _ _ h120) (fun Z=>by unfold O2;simp)
 have L3:O4 p3 192 "law.<locals>.<lambda>":=by
  refine J2 (L.is) fun t2 x1 x2 x3=>?_
  have:tab=t2:=by
   rw [ht] at x1;injection x1 with x1;injection x1 with x1
   unfold tabObj at x1
   injection x1 with _ _ x1 _
   injection x1
  subst this
  exact ⟨tab,k192,x2,fun pos=>(x3 pos).imp id fun ⟨c,y1,y2⟩=>⟨c,y1,sF _ _ (kf (s12 _ _ y2) (fun Z=>by unfold Q5;nofun))⟩⟩
 have m1:=nm _ _ b1 (by decide)
 have m2:=nm _ _ b2 (by decide)
 have m3:=nm _ _ b3 (by decide)
 have m4:=nm _ _ b4 (by decide)
 have m5:=nm _ _ b5 (by decide)
 have m6:=nm _ _ b6 (by decide)
 refine Al W AW A2 A3 CH BI LA LY sF FX hPF hDmF f113 f120 r1 r2 r3 r4 r5 e1 e2 e3 e4 L3 m1 c1 c2 c5 c6 c7 c3 c4 c8 c9 m3 m6 m4 hpl hpo hfm hf hb hh3 fun l p Ls fs bss ess rows stss tt mss zf zl I=>?_
 have hlo:∀ j,r0 ps j≤15:=fun j=>by
  unfold r0
  rw [List.getD_eq_getElem?_getD]
  cases q:ps[j]? with
  | none=>decide
  | some v=>exact (hpo v (List.mem_of_getElem? q)).2.1
 have hle:∀ j,r0 ps j≤A0 ps j:=fun j=>by
  delta r0 A0
  rw [List.getD_eq_getElem?_getD]
  cases q:ps[j]? with
  | none=>decide
  | some v=>exact Nat.le_of_lt (hpo v (List.mem_of_getElem? q)).1
 have hlt:∀ j,j < 10→r0 ps j < A0 ps j:=fun j hj=>by
  delta r0 A0
  rw [List.getD_eq_getElem?_getD,List.getElem?_eq_getElem (by exact q6 hj hpl)]
  exact (hpo _ (List.getElem_mem _)).1
 have n:∀ (y:Str) v,loc3 y=some v→y∉(["i","span","taken","words","free","pile"]:List Str)→l y=some v:=I.nam
 have hL:=I.len
 have RO:=I.ro
 rw [hL] at RO
 have hPp:=hPF.mono I.fix
 refine As W CH BI LA (n _ _ m1 (by decide)) (n _ _ c8 (by decide)) hPp RO.f RO.fp RO.fs I.lam hpl fun p4 k4 L4=>?_
 have N6:∀ {b:Addr} {o:AO},p b=some o→(∀ x,o≠.obj x)→p4 b=some o:=fun {b o} e ho=>k4 b o (by
  rintro rfl
  refine z0 (I.lam.is) fun t2 x1 Z=>?_
  rw [x1] at e;injection e with e;exact ho _ e.symm) e
 have tup4:∀ b xs,p b=some (.tuple xs)→p4 b=some (.tuple xs):=fun b xs e=>N6 e (fun Z=>by simp)
 have KF4:=RO.f.frame ((N6 RO.f.1 (fun Z=>by simp)).trans RO.f.1.symm) tup4
 have KL4:=RO.l.frame ((N6 RO.l.1 (fun Z=>by simp)).trans RO.l.1.symm) tup4
 refine Ar W LA (n _ _ c8 (by decide)) (n _ _ c9 (by decide)) KF4 KL4 RO.fp RO.lp RO.fs RO.ls hle fun l5 p5 Dk s5 hDk o1 o2=>?_
 have n5:∀ (y:Str) v,loc3 y=some v→y∉(["i","span","taken","words","free","pile"]:List Str)→y∉(["first","last","counts"]:List Str)→l5 y=some v:=fun y v e h1 h2=>o2 y v h2 (n y v e h1)
 have fix5:∀ {b:Addr} {o:AO},Fix b=some o→(∀ x,o≠.obj x)→p5 b=some o:=fun {b o} e ho=>s5 _ _ (N6 (I.fix _ _ e) ho)
 have hP5:X3 p5 S₁ sts ps:=⟨fix5 hPF.1 (fun Z=>by simp),hPF.2.1,fun k T v x y=>fix5 (hPF.2.2 k T v x y) (fun Z=>by simp)⟩
 have KL5:=KL4.frame ((s5 _ _ KL4.1).trans KL4.1.symm) fun b xs e=>s5 _ _ e
 have rt5:Y0 p5 th tts rows:=⟨s5 _ _ (N6 I.rt.1 (fun Z=>by simp)),I.rt.2.1,I.rt.2.2.1,fun k T r x y=>s5 _ _ (N6 (I.rt.2.2.2 k T r x y) (fun Z=>by simp))⟩
 refine Aq W LA (n5 _ _ c9 (by decide) (by decide)) (n5 _ _ m1 (by decide) (by decide)) o1 (n5 _ _ c5 (by decide) (by decide)) hP5 KL5 RO.lp RO.ls hpl hDk rt5 I.the hL fun p6 s6=>?_
 refine Ap W LA (Ls:=Ls) (fs:=fs) (n5 _ _ c7 (by decide) (by decide)) (n5 _ _ m1 (by decide) (by decide)) o1 (n5 _ _ m2 (by decide) (by decide)) (n5 _ _ m5 (by decide) (by decide)) (hP5.mono s6) hpl hL (s6 _ _ (s5 _ _ (N6 I.ln (fun Z=>by simp)))) (s6 _ _ hDk) (s6 _ _ (fix5 hDwF (fun Z=>by simp))) I.good hlt hlo hf hfx fun loc' p' s7=>h loc' p' (s7 _ _ (s6 _ _ (fix5 f113 (fun Z=>by unfold O2;simp)))) (s7 _ _ (s6 _ _ (fix5 f120 (fun Z=>by unfold O2;simp)))) (by
  refine z0 (L4.is) fun tq z Z=>?_
  exact ⟨tq,s7 _ _ (s6 _ _ (s5 _ _ z))⟩)
end
section
noncomputable def C1 (K:Frag) (a:Addr) (x:Str):Option Value:=match K.lookup a with
 | some o=>(match o.data with | .dict es _=>nsFind es x | _=>none)
 | none=>none
noncomputable def W6 (K:Frag) (a:Addr):Bool:=match K.lookup a with
 | some o=>(match o.data with | .dict es _=>es.toList.all (fun e=>match e.key with | .str _ _=>true | _=>false) | _=>false)
 | none=>false
theorem H8 {K:Frag} {h:Heap} (X:K.In h) {a:Addr} (e:W6 K a=true):h.Ns a (C1 K a):=by
 unfold W6 at e
 cases q:K.lookup a with
 | none=>rw [q] at e;exact Y5 e
 | some o=>
  rw [q] at e
  have ho:=X a o q
  have i1:h.isNs a=true:=by
   unfold Heap.isNs;rw [ho]
   dsimp only at e ⊢
   cases hd:o.data with
   | dict es ep=>rw [hd] at e;dsimp only at e ⊢;rw [←Array.all_toList];exact e
   | _=>rw [hd] at e;exact Y5 e
  have i2:h.nsMap a=C1 K a:=by
   funext x
   delta Heap.nsMap C1
   rw [ho,q];rfl
  rw [←i2]
  exact .of_isNs i1
noncomputable def i4 (K:Frag) (f code:Addr) (st:Stmt) (name:Str) (dfl kw:Value) (clo:List (Str × Addr)) (ct:Value):Prop:=
 ∃ o pm oc vs t,K.lookup f=some o∧o.data=.func (U0 st name dfl kw (.ref code) pm clo ct)∧K.lookup code=some oc∧oc.data=.fields vs∧vs[1]?=some (.str name t)
theorem A4 {C:Cx} {K:Frag} (X:K.In C.H₀) {f code:Addr} {st:Stmt} {name:Str} {dfl kw:Value} {clo:List (Str × Addr)} {ct:Value} (h:i4 K f code st name dfl kw clo ct) (h1:(Z6 st).isCoroutine=false) (h2:(Z6 st).isGenerator=false) (h3:(Z6 st).kind=.function):∃ pm,j4 C f (U0 st name dfl kw (.ref code) pm clo ct):=by
 refine e8 h fun o pm oc vs t e1 e2 zr0=>V1 zr0 fun e3 e4 e5=>?_;try clear h
 exact ⟨pm,⟨o,X _ _ e1,e2⟩,h1,h2,h3,code,oc,vs,t,rfl,X _ _ e3,e4,e5⟩
theorem o5 {C:Cx} {K:Frag} (X:K.In C.H₀) (n3:W6 K 3=true) {x:Str} {v:Value} (h:C1 K 3 x=some v):Q1 C x v:=⟨.inl ⟨_,H8 X n3,h⟩⟩
theorem J5 {C:Cx} {K:Frag} (X:K.In C.H₀) (n3:W6 K 3=true) (n0:W6 K 0=true) {x:Str} {v:Value} (h:C1 K 3 x=none) (h':C1 K 0 x=some v):Q1 C x v:=⟨.inr ⟨_,_,H8 X n3,h,H8 X n0,h'⟩⟩
noncomputable def aI (K:Frag) (a b:Addr):Prop:=(∃ t n,K.lookup a=some ⟨.type "tuple",none,.seq #[.int 0 t,.none] n,#[]⟩)∧∃ h t n,K.lookup b=some ⟨.type "dict",none,.dict #[⟨h,.str "key" t,.none⟩] n,#[]⟩
theorem cr {C:Cx} {K:Frag} (X:K.In C.H₀) {a b:Addr} (h:aI K a b):N7 C a b:=by
 obtain ⟨⟨t,n,e⟩,h,t',n',e'⟩:=h
 exact ⟨⟨t,n,X _ _ e⟩,⟨h,t',n',X _ _ e'⟩⟩
noncomputable def ll (es:Array DictEntry):Bool:=
 es.toList.all (fun e=>match e.key with | .int k _=>e.hash == hashInt k | _=>false) &&
 (List.range 32).all fun i=>match (es.toList.find? fun e=>Value.isInt (2 ^ i) e.key).map DictEntry.val with
  | some (Value.str s _)=>decide (i < 10) && s == G9.getD i Str.empty
  | none=>!decide (i < 10)
  | _=>false
noncomputable def nf (K:Frag):Prop:=∃ o es ep,K.lookup 58=some o∧o.ExactDict∧o.data=.dict es ep∧ll es=true
structure KF (K:Frag):Prop where
 fl:nf K
 n3:W6 K 3=true
 n0:W6 K 0=true
 nS:W6 K cStatics=true
 lim:C1 K cStatics "sys.recursionlimit" = none
 g1:C1 K 3 "bisect_right" = some (.ref 39)
 g2:C1 K 3 "bisect_left" = some (.ref 57)
 g3:C1 K 3 "insort_right" = some (.ref 30)
 g4:C1 K 3 "insort_left" = some (.ref 48)
 g5:C1 K 3 "_law_read" = some (.ref 160)
 g6:C1 K 3 "_law_names" = some (.ref 165)
 g7:C1 K 3 "_law_level" = some (.ref 170)
 g8:C1 K 3 "_law_place" = some (.ref 175)
 g9:C1 K 3 "_law_due" = some (.ref 180)
 g10:C1 K 3 "_law_met" = some (.ref 185)
 g11:C1 K 3 "_law_text" = some (.ref 190)
 g12:C1 K 3 "_parse_varint" = some (.ref 72)
 g13:C1 K 3 "pretty_flags" = some (.ref 65)
 g14:C1 K 3 "COMPILER_FLAG_NAMES" = some (.ref 58)
 g15:C1 K 3 "_Accumulator" = some (.ref 151)
 g16:∃ t,C1 K 3 "EMPTYSTRING" = some (.str Str.empty t)
 g17:C1 K 3 "__builtins__" = some (.ref 4)
 b1:C1 K 3 "len" = none∧C1 K 0 "len" = some (.builtin "len")
 b2:C1 K 3 "max" = none∧C1 K 0 "max" = some (.builtin "max")
 b3:C1 K 3 "range" = none∧C1 K 0 "range" = some (.type "range")
 b4:C1 K 3 "zip" = none∧C1 K 0 "zip" = some (.type "zip")
 b5:C1 K 3 "chr" = none∧C1 K 0 "chr" = some (.builtin "chr")
 b6:C1 K 3 "hex" = none∧C1 K 0 "hex" = some (.builtin "hex")
 b7:C1 K 3 "sum" = none∧C1 K 0 "sum" = some (.builtin "sum")
 b8:C1 K 3 "enumerate" = none∧C1 K 0 "enumerate" = some (.type "enumerate")
 b9:C1 K 3 "iter" = none∧C1 K 0 "iter" = some (.builtin "iter")
 b10:C1 K 3 "next" = none∧C1 K 0 "next" = some (.builtin "next")
 b11:C1 K 3 "sorted" = none∧C1 K 0 "sorted" = some (.builtin "sorted")
 b12:C1 K 3 "str" = none∧C1 K 0 "str" = some (.type "str")
 b13:C1 K 3 "super" = none∧C1 K 0 "super" = some (.type "super")
 b14:C1 K 3 "StopIteration" = none∧C1 K 0 "StopIteration" = some (.type "StopIteration")
 o4:∃ o,K.lookup 4=some o∧o.cls=.type "module"∧o.dict=some builtinsNs∧o.data=.plain
 f1:i4 K 57 56 (G0 5) "bisect_left" (.ref 49) (.ref 50) [] .none
 f2:i4 K 39 38 (G0 3) "bisect_right" (.ref 31) (.ref 32) [] .none
 f3:i4 K 30 29 (G0 2) "insort_right" (.ref 22) (.ref 23) [] .none
 f4:i4 K 48 47 (G0 4) "insort_left" (.ref 40) (.ref 41) [] .none
 f5:i4 K 160 159 (G0 14) "_law_read" .none .none [] .none
 f6:i4 K 165 164 (G0 15) "_law_names" .none .none [] .none
 f7:i4 K 170 169 (G0 16) "_law_level" .none .none [] .none
 f8:i4 K 175 174 (G0 17) "_law_place" .none .none [] .none
 f9:i4 K 180 179 (G0 18) "_law_due" .none .none [] .none
 f10:i4 K 185 184 (G0 19) "_law_met" .none .none [] .none
 f11:i4 K 190 189 (G0 20) "_law_text" .none .none [] .none
 f12:i4 K 72 71 (G0 9) "_parse_varint" .none .none [] .none
 f13:i4 K 65 64 (G0 8) "pretty_flags" .none .none [] .none
 f14:i4 K 195 194 (G0 21) "law" .none .none [] .none
 a1:i4 K 96 95 (W3 1) "_Accumulator.push" .none .none [] .none
 a2:i4 K 104 103 (W3 2) "_Accumulator.pop_from" (.ref 97) .none [] .none
 a3:i4 K 118 117 (W3 4) "_Accumulator.__len__" .none .none [] .none
 a4:i4 K 125 124 (W3 5) "_Accumulator.__str__" .none .none [] .none
 a5:i4 K 148 147 (W3 8) "_Accumulator.part_count" .none .none [("__class__",76)] (.ref 141)
 a6:i4 K 89 88 (W3 0) "_Accumulator.__init__" (.ref 81) .none [("__class__",76)] (.ref 82)
 d1:aI K 49 50
 d2:aI K 31 32
 d3:aI K 22 23
 d4:aI K 40 41
 t1:∃ t n,K.lookup 97=some ⟨.type "tuple",none,.seq #[.int 0 t] n,#[]⟩
 t2:∃ t n,K.lookup 81=some ⟨.type "tuple",none,.seq #[.int 0 t] n,#[]⟩
 cell:∃ o,K.lookup 76=some o∧o.data=.cell (some (.ref 151))
 c1:codeHdIn K 117 113=true
 c2:codeHdIn K 124 120=true
 c3:codeHdIn K 194 192=true
 k1:∃ o vs tf,K.lookup 147=some o∧o.data=.fields vs∧vs[2]?=some (.str "/claim/cut.py" tf)
 k2:∃ o vs tf,K.lookup 88=some o∧o.data=.fields vs∧vs[2]?=some (.str "/claim/cut.py" tf)
 acc:H4 K
 acc2:aK K
noncomputable def W7 (K:Frag):Frag:=K.filter fun p=>!(p.1 == 113 || p.1 == 120 || p.1 == 192)
noncomputable def I2:HP:=fun b=>if b=113 then some O2 else if b=120 then some O2 else if b=192 then some (.obj (tabObj #[])) else none
theorem ed:∀ {K:Frag} {a:Addr} {o:Obj},(W7 K).lookup a=some o→K.lookup a=some o∧I2 a=none
 | [],a,o,e=>by exact J0 e
 | (b,ob)::K,a,o,e=>by
  unfold W7 at e
  rw [List.filter_cons] at e
  split at e
  ·rename_i hb
   simp only [List.lookup_cons] at e ⊢
   split at e
   ·rename_i hab
    have hab':a=b:=by simpa using hab
    subst hab'
    refine ⟨e,?_⟩
    unfold I2
    simp only [Bool.not_eq_true',Bool.or_eq_false_iff,beq_eq_false_iff_ne,ne_eq] at hb
    rw [if_neg hb.1.1,if_neg hb.1.2,if_neg hb.2]
   ·exact ed e
  ·rename_i hb
   refine B0 (ed e) fun x y=>?_
   refine ⟨?_,y⟩
   simp only [List.lookup_cons]
   split
   ·rename_i hab
    have hab':a=b:=by simpa using hab
    subst hab'
    exfalso
    apply hb
    unfold I2 at y
    simp only [Bool.not_eq_true',Bool.or_eq_false_iff,beq_eq_false_iff_ne,ne_eq]
    refine ⟨⟨fun h=>?_,fun h=>?_⟩,fun h=>?_⟩ <;> · subst h;exact B5 y
   ·exact x
theorem zL {K:Frag} {h:Heap} (X:K.In h):(W7 K).In (H1 h I2):=fun a o e=>by
 refine B0 (ed e) fun x y=>?_
 rw [t4 y]
 exact X a o x
theorem me {C:Cx} {K:Frag} (X:K.In C.H₀) {c P:Addr} (e:codeHdIn K c P=true):M9 C c P:=by
 refine V4 (codeHd_of_K X e) fun o vs file tf flags tg inF zr0=>i6 zr0 fun text tt h0 h1 h2 h3 h4 zr1=>F9 zr1 fun h5 h6 h7 h8 h9=>?_
 exact ⟨⟨o,vs,file,tf,flags,tg,inF,text,tt,h0,h1,h2,h4,h5,h6,h7,h8,h9⟩⟩
theorem CL {C:Cx} {K:Frag} (X:K.In C.H₀) (h:nf K):∃ f:Int→Option Value,C.H₀.MapOf (intKind C.prog C.w) 58 f∧∀ i:Nat,i < 32→(f (2 ^ i)).map nm=if i < 10 then some (.str (G9.getD i Str.empty) 0) else none:=by
 refine eY h fun o es ep e1 e2 e3 e4=>?_;try clear h
 unfold ll at e4
 rw [Bool.and_eq_true,List.all_eq_true,List.all_eq_true] at e4
 refine B0 e4 fun e4 e5=>?_
 refine ⟨fun k=>findBy (intKind C.prog C.w).is es k,⟨o,es,ep,X _ _ e1,e2,e3,fun e he=>?_,fun k=>rfl⟩,fun i hi=>?_⟩
 ·have q:=e4 e (Array.mem_toList_iff.mpr he)
  cases hk:e.key with
  | int k t=>
   rw [hk] at q
   exact ⟨k,by show Value.isInt k (.int k t)=true;exact if_pos rfl,(beq_iff_eq.mp q:e.hash=hashInt k)⟩
  | _=>rw [hk] at q;exact Y5 q
 ·have q:=e5 i (List.mem_range.mpr hi)
  show ((es.find? fun e=>Value.isInt (2 ^ i) e.key).map DictEntry.val).map nm=_
  rw [←Array.find?_toList]
  generalize (es.toList.find? fun e=>Value.isInt (2 ^ i) e.key).map DictEntry.val=r at q ⊢
  cases r with
  | none=>rw [Bool.not_eq_true',decide_eq_false_iff_not] at q;rw [if_neg q];rfl
  | some v=>
   cases v with
   | str s t=>
    rw [Bool.and_eq_true,decide_eq_true_eq,beq_iff_eq] at q
    rw [if_pos q.1,←q.2];rfl
   | _=>exact Y5 q
theorem nG {C:Cx} {K:Frag} (X:K.In C.H₀) (F:KF K):G1 C where
 lim:=⟨_,H8 X F.nS,F.lim⟩
 len:=J5 X F.n3 F.n0 F.b1.1 F.b1.2
 max:=J5 X F.n3 F.n0 F.b2.1 F.b2.2
 range:=J5 X F.n3 F.n0 F.b3.1 F.b3.2
 fL:=A4 X F.f1 rfl rfl rfl
 dL:=cr X F.d1
 fIR:=A4 X F.f3 rfl rfl rfl
 dIR:=cr X F.d3
 fIL:=A4 X F.f4 rfl rfl rfl
 dIL:=cr X F.d4
 gR:=o5 X F.n3 F.g1
 gL:=o5 X F.n3 F.g2
 zip:=J5 X F.n3 F.n0 F.b4.1 F.b4.2
 gIR:=o5 X F.n3 F.g3
 gIL:=o5 X F.n3 F.g4
 fLevel:=A4 X F.f7 rfl rfl rfl
 chr:=J5 X F.n3 F.n0 F.b5.1 F.b5.2
 hex:=J5 X F.n3 F.n0 F.b6.1 F.b6.2
 sum:=J5 X F.n3 F.n0 F.b7.1 F.b7.2
 enumerate:=J5 X F.n3 F.n0 F.b8.1 F.b8.2
 iter:=J5 X F.n3 F.n0 F.b9.1 F.b9.2
 next:=J5 X F.n3 F.n0 F.b10.1 F.b10.2
 sorted:=J5 X F.n3 F.n0 F.b11.1 F.b11.2
 strT:=J5 X F.n3 F.n0 F.b12.1 F.b12.2
 fMet:=A4 X F.f10 rfl rfl rfl
 fText:=A4 X F.f11 rfl rfl rfl
 fNames:=A4 X F.f6 rfl rfl rfl
 fPlace:=A4 X F.f8 rfl rfl rfl
 fRead:=A4 X F.f5 rfl rfl rfl
 fVarint:=A4 X F.f12 rfl rfl rfl
 fPretty:=A4 X F.f13 rfl rfl rfl
 gRead:=o5 X F.n3 F.g5
 gNames:=o5 X F.n3 F.g6
 gLevel:=o5 X F.n3 F.g7
 gPlace:=o5 X F.n3 F.g8
 gDue:=o5 X F.n3 F.g9
 gMet:=o5 X F.n3 F.g10
 gText:=o5 X F.n3 F.g11
 gVarint:=o5 X F.n3 F.g12
 gPretty:=o5 X F.n3 F.g13
 gFlags:=o5 X F.n3 F.g14
 gAcc:=o5 X F.n3 F.g15
 flagsM:=CL X F.fl
 fDue:=A4 X F.f9 rfl rfl rfl
 fR:=A4 X F.f2 rfl rfl rfl
 dR:=cr X F.d2
theorem FI {C:Cx} {K:Frag} (X:K.In C.H₀) (F:KF K):K6 C where
 K:=⟨K,X,F.acc⟩
 fPush:=A4 X F.a1 rfl rfl rfl
 fPop:=A4 X F.a2 rfl rfl rfl
 dPop:=let ⟨t,n,e⟩:=F.t1;⟨t,n,X _ _ e⟩
 fLen:=A4 X F.a3 rfl rfl rfl
 fStr:=A4 X F.a4 rfl rfl rfl
theorem FU {C:Cx} {K:Frag} (X:K.In C.H₀) (F:KF K):t7 C where
 bi:=let ⟨o,e,a,b,c⟩:=F.o4;⟨⟨_,o,H8 X F.n3,F.g17,X _ _ e,a,b,c⟩⟩
 cLen:=me X F.c1
 cStr:=me X F.c2
 gEmpty:=let ⟨t,e⟩:=F.g16;⟨t,o5 X F.n3 e⟩
theorem md {C:Cx} {K:Frag} (X:K.In C.H₀) {c:Addr} (hfile:((C.prog.main.file:Str) == "/claim/cut.py")=true) (h:∃ o vs tf,K.lookup c=some o∧o.data=.fields vs∧vs[2]?=some (.str "/claim/cut.py" tf)):cN C c:=
 let ⟨o,vs,tf,e,a,b⟩:=h;⟨o,vs,_,tf,X _ _ e,a,b,hfile⟩
theorem FS {C:Cx} {K:Frag} (X:K.In C.H₀) (F:KF K) (hfile:((C.prog.main.file:Str) == "/claim/cut.py")=true) (htop:(C.prog.main.scope.names.lookup ("super":Str)).isSome=false):O7 C where
 K:=⟨K,X,F.acc,F.acc2⟩
 fCount:=A4 X F.a5 rfl rfl rfl
 fInit:=A4 X F.a6 rfl rfl rfl
 dInit:=let ⟨t,n,e⟩:=F.t2;⟨t,n,X _ _ e⟩
 cell:=let ⟨o,e,a⟩:=F.cell;⟨o,X _ _ e,a⟩
 gSuper:=J5 X F.n3 F.n0 F.b13.1 F.b13.2
 gAcc:=o5 X F.n3 F.g15
 cCount:=md X hfile F.k1
 cInit:=md X hfile F.k2
 top:=htop
theorem Ep {C:Cx} {K:Frag} (X:K.In C.H₀) (F:KF K):N9 C:=
 let ⟨o,e,a,b,c⟩:=F.o4;⟨⟨_,H8 X F.n3,⟨4,o,F.g17,by decide,by decide,by decide,X _ _ e,a,b,c⟩⟩⟩
theorem pp {C:Cx} {hp:HP} {s s':Shared} {fd:FuncData} {f:Addr} {binds:List (Str × Value)} (hb:C.H₀=H1 s.heap hp) (hat:∀ b ao,hp b=some ao→∃ o,s.heap.get? b=some o∧ao.is o)
  (hkind:∀ x∈binds,fd.scope.names.lookup x.1=some .local∨fd.scope.names.lookup x.1=some .cell)
  (x:InCallC s (callEnvC fd s.heap.objs.size f).locals (bindL (callEnvC fd s.heap.objs.size f).kindOf binds fun Z=>none) (callEnvC fd s.heap.objs.size f).cells
   (bindC (callEnvC fd s.heap.objs.size f).kindOf binds fun Z=>none) s') :
  F0 C.H₀ (H1 s.heap hp) (K3 fd s.heap.objs.size f) (X1 binds fun Z=>none) hp s'.heap:=by
 have fresh:∀ b,s.heap.objs.size≤b→(H1 s.heap hp).get? b=none:=fun b hb=>by
  cases q:(H1 s.heap hp).get? b with
  | none=>rfl
  | some o=>exact absurd (Heap.lt_size (z6 q).1) (Nat.not_lt.mpr hb)
 have habove:∀ y c,(callEnvC fd s.heap.objs.size f).cells.lookup y=some c→s.heap.objs.size < c:=fun y c l=>x.above y c (mem_of_lookup l)
 refine ⟨fun b o e=>x.toInCall.keep b o (z6 e).1,fun b o e=>hb▸e,fun y v e=>?_,⟨_,x.toInCall.ns⟩,fresh _ (Nat.le_refl _),fun y c Z l=>fresh _ (Nat.le_of_lt (habove y c l)),fun y c l=>?_,fun y z c l l'=>?_,fun b ao e=>?_⟩
 ·have:=cD (kindOf:=(callEnvC fd s.heap.objs.size f).kindOf) binds (fun Z=>none) (fun Z=>none) (fun Z=>none) hkind (fun Z Z e=>by exact J0 e) y v e
  rcases this with ⟨a,v',b,c⟩ | ⟨a,v',b,c⟩
  ·exact .inl ⟨a,_,v',x.toInCall.ns,b,c⟩
  ·have hs:=cellsFrom_some (x:=y) fd.scope.names (s.heap.objs.size+1) [] (.inl a)
   refine o0 (Option.isSome_iff_exists.mp hs) fun cc hc=>?_
   have hc':(callEnvC fd s.heap.objs.size f).cells.lookup y=some cc:=hc
   have z:=x.cell y cc hc'
   rw [b] at z
   exact .inr ⟨.inl a,cc,v',hc',z,c⟩
 ·exact ⟨Nat.ne_of_gt (habove y c l),_,x.cell y c l⟩
 ·exact name_of_addr x.apart (mem_of_lookup l) (mem_of_lookup l')
 ·refine z0 (hat b ao e) fun o ho hi=>?_
  have hb:=Heap.lt_size ho
  exact ⟨P7 e,Nat.ne_of_lt hb,fun y c l=>Nat.ne_of_lt (Nat.lt_trans hb (habove y c l)),o,x.toInCall.keep b o ho,hi⟩
theorem An {prog:Program} {w:World} {K:Frag} {s:Shared} {a:Addr} {xs:List Int} {vs:Array Value} {n:Nat} {E:Value→Shared→Prop} (X:K.In s.heap) (F:KF (W7 K)) (hfile:((prog.main.file:Str) == "/claim/cut.py")=true)
  (htop:(prog.main.scope.names.lookup ("super":Str)).isSome=false) (t1:s.heap.get? 113=some (tabObj #[])) (t2:s.heap.get? 120=some (tabObj #[])) (t3:s.heap.get? 192=some (tabObj #[])) (hg:AllBare s.gens)
  (ha:s.heap.get? a=some {cls:=.type "list",data:=.seq vs n}) (hvs:vs.toList.map nm=xs.map iv) (hsz:xs.length≤63) :
  wpAny (model prog w) callerA (call (.ref 195) [.ref a]) (fun v s'=>v=.bool true∧OldK s.heap s'.heap∧s'.os=s.os∧AllBare s'.gens) E s:=by
 let C:Cx:=⟨prog,w,H1 s.heap I2,s.os⟩
 have X':(W7 K).In C.H₀:=zL X
 have hk:∀ b o,C.H₀.get? b=some o→s.heap.get? b=some o:=fun b o e=>(z6 e).1
 have n0:∀ b ao,I2 b=some ao→∃ o,s.heap.get? b=some o∧o=tabObj #[]∧ao.is o:=fun b ao e=>by
  unfold I2 at e
  have tA:O2.is (tabObj #[]):=⟨#[],rfl,trivial⟩
  split at e
  ·rename_i hb;cases e;exact ⟨_,hb▸t1,rfl,tA⟩
  ·split at e
   ·rename_i hb;cases e;exact ⟨_,hb▸t2,rfl,tA⟩
   ·split at e
    ·rename_i hb;cases e;exact ⟨_,hb▸t3,rfl,rfl⟩
    ·exact J0 e
 have hna:I2 a=none:=by
  cases q:I2 a with
  | none=>rfl
  | some ao=>
   refine J2 (n0 a ao q) fun o e r Z=>?_
   rw [ha] at e;cases e;cases r
 refine o0 (A4 (C:=C) X' F.f14 rfl rfl rfl) fun pm FA=>?_
 refine z0 (FA.at_) fun o ho hd=>?_
 have W:=nG (C:=C) X' F
 have hkind:∀ x∈[(("script":Str),Value.ref a)],(Z6 (G0 21)).names.lookup x.1=some .local∨(Z6 (G0 21)).names.lookup x.1=some .cell:=fun x hx=>by
  cases hx with
  | head=>first | exact .inl rfl | exact .inr rfl
  | tail _ h=>cases h
 refine wpAny_call (codeAny_call_function (by decide) (hk _ _ ho) hd FA.co FA.gen rfl (FA.code.keeps hk) ((kp_binds E5 fun S=>by rfl:BindsTo s _ ⟨[.ref a],[]⟩ [("script",.ref a)]) _ _ _ _ ?_))
 refine wpAny_newFunctionEnv_cells FA.kind (fun x hx=>(hkind x hx).imp id fun e=>⟨e,cellsFrom_some _ _ _ (.inl e)⟩) fun env he s' x=>?_
 subst he
 refine ⟨(W.lim.keeps hk).keeps x.toInCall.keep,codeAny_func ?_⟩
 have R':=pp (C:=C) (fd:=U0 (G0 21) "law" .none .none (.ref 194) pm [] .none) rfl (fun b ao e=>let ⟨o,e1,_,e3⟩:=n0 b ao e;⟨o,e1,e3⟩) hkind x
 have LA:G5 (callerA.deeper (callEnvC (U0 (G0 21) "law" .none .none (.ref 194) pm [] .none) s.heap.objs.size 195)) (K3 (U0 (G0 21) "law" .none .none (.ref 194) pm [] .none) s.heap.objs.size 195):=by
  refine ⟨N8 (U0 (G0 21) "law" .none .none (.ref 194) pm [] .none) _ _ rfl rfl rfl ?_,(by decide:1+claimMargin+1+20 < recursionLimit),rfl,rfl,rfl,(by decide:4+3+100 < cLine),rfl,?_⟩
  ·show (Z6 (G0 21)).names.all (fun x=>x.2 != .free)=true
   decide +kernel
  ·show (("law":Str)++(".<locals>.":Str))++("<lambda>":Str)=("law.<locals>.<lambda>":Str)
   decide +kernel
 refine wpAny_mono (Av (C:=C) W (FI X' F) (FU X' F) (FS X' F hfile htop) (codeHd_of_K X' F.c3) (Ep X' F) (J5 X' F.n3 F.n0 F.b14.1 F.b14.2) LA (g:=H1 s.heap I2) (sa:=a) (vs:=vs) (n:=n) (xs:=xs) ((t4 hna).trans ha) hvs hsz rfl rfl
  ⟨#[],rfl,trivial,fun pos=>.inl rfl⟩ (Q:=fun fl Z p=>fl=.ret (.bool true)∧p 113=some O2∧p 120=some O2∧∃ ps,p 192=some (.obj (tabObj ps))) (fun Z Z u1 u2 u3=>⟨rfl,u1,u2,u3⟩) s' R' (r8 (C:=C) ⟨rfl,hg⟩ x)) (fun fl s'' hq=>?_) fun Z Z e=>e
 obtain ⟨⟨S1,S2⟩,l',p',R'',hfl,u1,u2,ps3,u3⟩:=hq
 have hfl:fl=.ret (.bool true):=by
  cases fl with
  | ret v=>injection hfl with e;rw [bE e]
  | _=>cases hfl
 subst hfl
 refine ⟨rfl,?_,S1,S2⟩
 have at1:∃ ps,s''.heap.get? 113=some (tabObj ps):=by refine fh (R''.at_ _ _ u1) fun ps Z Z Z e Z=>?_;exact ⟨ps,e⟩
 have at2:∃ ps,s''.heap.get? 120=some (tabObj ps):=by refine fh (R''.at_ _ _ u2) fun ps Z Z Z e Z=>?_;exact ⟨ps,e⟩
 have at3:∃ ps,s''.heap.get? 192=some (tabObj ps):=by refine Q2 (R''.at_ _ _ u3) fun Z Z Z o e hR0=>?_;subst hR0;exact ⟨ps3,e⟩
 have tabs:∀ b ao,I2 b=some ao→∃ ps,s''.heap.get? b=some (tabObj ps):=fun b ao e=>by
  unfold I2 at e
  split at e
  ·rename_i hb;exact hb▸at1
  ·split at e
   ·rename_i hb;exact hb▸at2
   ·split at e
    ·rename_i hb;exact hb▸at3
    ·exact J0 e
 have J8:∀ b ao,I2 b=some ao→isCodeTable s.heap b:=fun b ao e=>by
  have tt:∀ {c P:Addr},codeHdIn (W7 K) c P=true→isCodeTable s.heap P:=fun {c P} e=>by
   refine V4 (codeHd_of_K X' e) fun o vs Z Z Z Z Z zr0=>lE zr0 fun Z Z h0 h1 h2 h3 Z=>?_
   exact ⟨c,o,vs,hk _ _ h0,h1,h2,h3⟩
  unfold I2 at e
  split at e
  ·rename_i hb;exact hb▸tt F.c1
  ·split at e
   ·rename_i hb;exact hb▸tt F.c2
   ·split at e
    ·rename_i hb;exact hb▸tt F.c3
    ·exact J0 e
 refine ⟨fun b o e=>?_,fun b o e=>?_⟩
 ·cases q:I2 b with
  | none=>exact .inl (R''.keep b o ((t4 q).trans e))
  | some ao=>
   refine J2 (n0 b ao q) fun o' e1 e2 Z=>?_
   rw [e] at e1;injection e1 with e1;subst e1;subst e2
   refine o0 (tabs b ao q) fun ps e3=>?_
   exact .inr (.inl ⟨J8 b ao q,rfl,#[],ps,rfl,by rw [e3];simp [tabObj]⟩)
 ·cases q:I2 b with
  | none=>exact ⟨o,R''.keep b o ((t4 q).trans e)⟩
  | some ao=>refine o0 (tabs b ao q) fun ps e3=>?_;exact ⟨_,e3⟩
theorem Ao {c:ClaimW} {cl:Str→Option Addr} {mean:ExcName→Option Value} {args:List WData} {s₁ s':Shared} {v:Value} (h:v=.bool true∧OldK s₁.heap s'.heap∧s'.os=s₁.os∧AllBare s'.gens) (hr:∀ cls,c.raises args cls=false)
  (hp:c.post args (.bool true) args=true):GoodWG c cl mean args s₁ (.ok (.ret v)) s':=by
 refine P1 h fun hR0 O e b=>?_;try clear h;subst hR0
 exact ⟨.inl ⟨_,_,[],rfl,hr,ReadsW.bool true,hp,fun Z=>⟨List.nodup_nil,fun Z hm=>(nomatch hm)⟩⟩,O,e,b⟩
theorem kL:∀ {vs:List Value} {ns:List Int},IntsAre vs ns→vs.toArray.toList.map nm=ns.map iv
 | _,_,.nil=>rfl
 | _,_,.cons n t h=>by
  have ih:=kL h
  simp only [List.map_cons] at ih ⊢
  rw [ih]
  rfl
theorem Ag {K:Params→Frag} {prog:Program} {w:World} {s:Shared} {a:Addr} {xs:List Int} {vs:List Value} {c:ClaimW} {cl:Str→Option Addr} {mean:ExcName→Option Value} {args:List WData} {E:Value→Shared→Prop} (X:(K w.params).In s.heap) (F:∀ P,KF (W7 (K P)))
  (hT:∀ P,(K P).lookup 113=some (tabObj #[])∧(K P).lookup 120=some (tabObj #[])∧(K P).lookup 192=some (tabObj #[])) (hfile:((prog.main.file:Str) == "/claim/cut.py")=true) (htop:(prog.main.scope.names.lookup ("super":Str)).isSome=false)
  (hg:s.gens=#[]) (ha:s.heap.get? a=some {cls:=.type "list",data:=.seq vs.toArray}) (hvs:IntsAre vs xs) (hsz:¬(63:Int) < xs.length) (hr:∀ cls,c.raises args cls=false) (hp:c.post args (.bool true) args=true) :
  wpAny (model prog w) callerA (call (.ref 195) [.ref a]) (fun v s'=>GoodWG c cl mean args s (.ok (.ret v)) s') E s:=
 wpAny_mono (An X (F _) hfile htop (X _ _ (hT _).1) (X _ _ (hT _).2.1) (X _ _ (hT _).2.2) (by rw [hg];exact AllBare.empty) ha (kL hvs) (by exact pG hsz)) (fun Z Z h=>Ao h hr hp) fun Z Z e=>e
end
section
set_option maxHeartbeats 4000000 in
theorem CE (P:Params):KF (W7 (Y6 P)):=
 {fl:=⟨_,_,_,rfl,⟨rfl,rfl,rfl⟩,rfl,by kernel_rfl⟩
  n3:=by kernel_rfl
  n0:=by kernel_rfl
  nS:=by kernel_rfl
  lim:=by kernel_rfl
  g1:=by kernel_rfl
  g2:=by kernel_rfl
  g3:=by kernel_rfl
  g4:=by kernel_rfl
  g5:=by kernel_rfl
  g6:=by kernel_rfl
  g7:=by kernel_rfl
  g8:=by kernel_rfl
  g9:=by kernel_rfl
  g10:=by kernel_rfl
  g11:=by kernel_rfl
  g12:=by kernel_rfl
  g13:=by kernel_rfl
  g14:=by kernel_rfl
  g15:=by kernel_rfl
  g16:=⟨_,rfl⟩
  g17:=by kernel_rfl
  b1:=⟨by kernel_rfl,by kernel_rfl⟩
  b2:=⟨by kernel_rfl,by kernel_rfl⟩
  b3:=⟨by kernel_rfl,by kernel_rfl⟩
  b4:=⟨by kernel_rfl,by kernel_rfl⟩
  b5:=⟨by kernel_rfl,by kernel_rfl⟩
  b6:=⟨by kernel_rfl,by kernel_rfl⟩
  b7:=⟨by kernel_rfl,by kernel_rfl⟩
  b8:=⟨by kernel_rfl,by kernel_rfl⟩
  b9:=⟨by kernel_rfl,by kernel_rfl⟩
  b10:=⟨by kernel_rfl,by kernel_rfl⟩
  b11:=⟨by kernel_rfl,by kernel_rfl⟩
  b12:=⟨by kernel_rfl,by kernel_rfl⟩
  b13:=⟨by kernel_rfl,by kernel_rfl⟩
  b14:=⟨by kernel_rfl,by kernel_rfl⟩
  o4:=⟨_,rfl,rfl,rfl,rfl⟩
  f1:=⟨_,_,_,_,_,rfl,rfl,rfl,rfl,rfl⟩
  f2:=⟨_,_,_,_,_,rfl,rfl,rfl,rfl,rfl⟩
  f3:=⟨_,_,_,_,_,rfl,rfl,rfl,rfl,rfl⟩
  f4:=⟨_,_,_,_,_,rfl,rfl,rfl,rfl,rfl⟩
  f5:=⟨_,_,_,_,_,rfl,rfl,rfl,rfl,rfl⟩
  f6:=⟨_,_,_,_,_,rfl,rfl,rfl,rfl,rfl⟩
  f7:=⟨_,_,_,_,_,rfl,rfl,rfl,rfl,rfl⟩
  f8:=⟨_,_,_,_,_,rfl,rfl,rfl,rfl,rfl⟩
  f9:=⟨_,_,_,_,_,rfl,rfl,rfl,rfl,rfl⟩
  f10:=⟨_,_,_,_,_,rfl,rfl,rfl,rfl,rfl⟩
  f11:=⟨_,_,_,_,_,rfl,rfl,rfl,rfl,rfl⟩
  f12:=⟨_,_,_,_,_,rfl,rfl,rfl,rfl,rfl⟩
  f13:=⟨_,_,_,_,_,rfl,rfl,rfl,rfl,rfl⟩
  f14:=⟨_,_,_,_,_,rfl,rfl,rfl,rfl,rfl⟩
  a1:=⟨_,_,_,_,_,rfl,rfl,rfl,rfl,rfl⟩
  a2:=⟨_,_,_,_,_,rfl,rfl,rfl,rfl,rfl⟩
  a3:=⟨_,_,_,_,_,rfl,rfl,rfl,rfl,rfl⟩
  a4:=⟨_,_,_,_,_,rfl,rfl,rfl,rfl,rfl⟩
  a5:=⟨_,_,_,_,_,rfl,rfl,rfl,rfl,rfl⟩
  a6:=⟨_,_,_,_,_,rfl,rfl,rfl,rfl,rfl⟩
  d1:=⟨⟨_,_,rfl⟩,⟨_,_,_,rfl⟩⟩
  d2:=⟨⟨_,_,rfl⟩,⟨_,_,_,rfl⟩⟩
  d3:=⟨⟨_,_,rfl⟩,⟨_,_,_,rfl⟩⟩
  d4:=⟨⟨_,_,rfl⟩,⟨_,_,_,rfl⟩⟩
  t1:=⟨_,_,rfl⟩
  t2:=⟨_,_,rfl⟩
  cell:=⟨_,rfl,rfl⟩
  c1:=by kernel_rfl
  c2:=by kernel_rfl
  c3:=by kernel_rfl
  k1:=⟨_,_,_,rfl,rfl,rfl⟩
  k2:=⟨_,_,_,rfl,rfl,rfl⟩
  acc:=
   {ga:=by kernel_rfl
    gattr:=by kernel_rfl
    push:=by kernel_rfl
    popf:=by kernel_rfl
    len:=by kernel_rfl
    str:=by kernel_rfl
    pcount:=by kernel_rfl
    init:=by kernel_rfl
    append:=by kernel_rfl
    getitem:=by kernel_rfl
    setitem:=by kernel_rfl
    iter:=by kernel_rfl
    tf:=fun f hf=>by
     simp only [List.mem_cons,List.not_mem_nil,or_false] at hf
     rcases hf with rfl | rfl | rfl | rfl | rfl | rfl <;> kernel_rfl
    sub:=by kernel_rfl
    deque:=by kernel_rfl
    size:=by intros;kernel_rfl}
  acc2:=
   {obj:=⟨_,_,_,_,rfl,rfl,rfl,rfl,rfl⟩
    has:=by kernel_rfl
    noSize:=by kernel_rfl
    sa:=by kernel_rfl
    opq:=by kernel_rfl
    call:=by kernel_rfl
    typ:=by kernel_rfl}}
theorem pi {w:World} {s:Shared} (y:R9 s=ai w):(Y6 w.params).In s.heap:=Frag.in_of (Fx _) y
theorem zI {K:Frag} {h:Heap} {mg:Str→Option Value} (X:K.In h) (hns:h.Ns mainGlobals mg) (n3:W6 K 3=true) (x:Str):mg x=C1 K 3 x:=by
 exact (congrFun hns.eq_nsMap x).trans (congrFun (H8 X n3).eq_nsMap x).symm
theorem jY (P:Params):W6 (Y6 P) 3=true∧C1 (Y6 P) 3 "law" = some (.ref 195):=⟨by kernel_rfl,by kernel_rfl⟩
theorem oC (P:Params):(Y6 P).lookup 113=some (tabObj #[])∧(Y6 P).lookup 120=some (tabObj #[])∧(Y6 P).lookup 192=some (tabObj #[]):=⟨by kernel_rfl,by kernel_rfl,by kernel_rfl⟩
theorem Ae {prog:Program} {w:World} {s₀ s:Shared} {a fa:Addr} {xs:List Int} {vs:List Value} {c:ClaimW} {cl:Str→Option Addr} {mean:ExcName→Option Value} {args:List WData} {E:Value→Shared→Prop} {mg:Str→Option Value} (y:R9 s₀=ai w)
  (hkeep:∀ b o,s₀.heap.get? b=some o→s.heap.get? b=some o) (hns:s.heap.Ns mainGlobals mg) (hmg:mg "law" = some (.ref fa)) (hfile:((prog.main.file:Str) == "/claim/cut.py")=true) (htop:(prog.main.scope.names.lookup ("super":Str)).isSome=false)
  (hg:s.gens=#[]) (ha:s.heap.get? a=some {cls:=.type "list",data:=.seq vs.toArray}) (hvs:IntsAre vs xs) (hsz:¬(63:Int) < xs.length) (hr:∀ cls,c.raises args cls=false) (hp:c.post args (.bool true) args=true) :
  wpAny (model prog w) callerA (call (.ref fa) [.ref a]) (fun v s'=>GoodWG c cl mean args s (.ok (.ret v)) s') E s:=by
 have X:=(pi y).keeps hkeep
 have e:=(hmg.symm.trans (zI X hns (jY _).1 "law")).trans (jY _).2
 injection e with e
 injection e with e
 subst e
 exact Ag (K:=Y6) X CE oC hfile htop hg ha hvs hsz hr hp
end
end Mine
end
theorem PySem.Challenge.cw_kl0459_01_holds : PySem.Challenge.rw_kl0459_01.Holds :=
 Mine.CG @Mine.Ae
