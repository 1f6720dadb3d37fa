import PyProof.Rows.All
import Wide.All
import OpenK.AllK
import Wide.FinOn
import PySem.Challenge.RW_pg0248_01
set_option Elab.async false
set_option linter.unusedVariables false
set_option linter.unusedSimpArgs false
set_option maxRecDepth 100000
set_option maxHeartbeats 8000000
section
open PySem PySem.W PyProof.Rows
namespace Mine
noncomputable def topS (i:Nat):Stmt:=PySem.Challenge.pw_pg0248_01.main.body.getD i (.Pass ⟨0,0,0,0⟩)
noncomputable def zni (i j:Nat):Stmt:=match topS i with
  | .ClassDef _ _ _ b ..=>b.getD j (.Pass ⟨0,0,0,0⟩)
  | s=>s
noncomputable def fO (st:Stmt) (q m:Str) (mt:Nat) (c:Addr):Obj:=match st with
  | .FunctionDef n p b _ _ _ sc ..=>{cls:=.type "function",data:=.func {name:=n,qualname:=q,params:=p,body:=.stmts b,scope:=sc,globals:=3,closure:=[],defaults:=.none,kwdefaults:=.none,pyModule:=.str m mt,code:=.ref c}}
  | _=>⟨.none,none,.dict #[] 0,#[]⟩
noncomputable def cO (n:Str) (a d:Addr) (t u:Nat):Obj:=⟨.type "type",none,.cls ⟨n,[.type "object"],[.ref a,.type "object"],d,n,true,[],[],false,none,false⟩,#[none,none,some (.str n t),some (.str n u),some (.builtin "object.__new__"),some (.bool true)]⟩
noncomputable def eK (P:Params) (x:Str) (t:Nat) (v:Value):DictEntry:=⟨PyData.keyHash P x,.str x t,v⟩
noncomputable def Kf:Params→Frag:=fun P=>[
  (2,⟨.none,none,.dict #[] 0,#[]⟩),
  (3,⟨.type "dict",none,.dict #[eK P "__name__" 165 (.str "law_pg0248_01" 409),eK P "__doc__" 166 .none,eK P "__package__" 167 .none,eK P "__loader__" 168 (.builtin "__main__.__loader__#opaque"),eK P "__spec__" 169 .none,eK P "__annotations__" 170 (.ref 6),eK P "__builtins__" 171 (.ref 4),eK P "__file__" 173 (.str "/claim/cut.py" 172),eK P "__cached__" 174 .none,eK P "_wall" 193 (.ref 21),eK P "heappush" 203 (.ref 28),eK P "heappop" 212 (.ref 35),eK P "heapify" 221 (.ref 42),eK P "_siftdown" 233 (.ref 49),eK P "_siftup" 246 (.ref 56),eK P "_netrclex" 306 (.ref 94),eK P "Whitespace" 408 (.ref 160),eK P "_law_lexer" 421 (.ref 171),eK P "_law_totals" 431 (.ref 178),eK P "_law_spelled" 437 (.ref 183),eK P "_law_columns" 449 (.ref 190),eK P "_law_less" 455 (.ref 195),eK P "_law_lead" 463 (.ref 202),eK P "_law_labelled" 469 (.ref 207),eK P "_law_plan_by_line" 475 (.ref 212),eK P "_law_plan_by_heap" 481 (.ref 217),eK P "_law_most_pairs" 494 (.ref 224),eK P "law" 500 (.ref 229)] 28,#[]⟩),
  (27,⟨.type "code",none,.fields #[(.str "heappush" 196),(.str "heappush" 197),(.str "/claim/cut.py" 198),(.int 5 0),(.int 2 0),(.int 0 0),(.int 0 0),(.int 3 0),(.ref 22),(.bool true),(.int 181 0),(.ref 23),.none,(.ref 24),(.ref 25),(.ref 26),(.int 201 0),(.int 5 0),(.str "/claim/cut.py" 202)],#[]⟩),
  (28,fO (topS 2) "heappush" "cpy313.heapq" 194 27),
  (34,⟨.type "code",none,.fields #[(.str "heappop" 204),(.str "heappop" 205),(.str "/claim/cut.py" 206),(.int 8 0),(.int 1 0),(.int 0 0),(.int 0 0),(.int 3 0),(.ref 29),(.bool true),(.int 181 0),(.ref 30),.none,(.ref 31),(.ref 32),(.ref 33),(.int 210 0),(.int 8 0),(.str "/claim/cut.py" 211)],#[]⟩),
  (35,fO (topS 3) "heappop" "cpy313.heapq" 194 34),
  (41,⟨.type "code",none,.fields #[(.str "heapify" 213),(.str "heapify" 214),(.str "/claim/cut.py" 215),(.int 16 0),(.int 1 0),(.int 0 0),(.int 0 0),(.int 3 0),(.ref 36),(.bool true),(.int 181 0),(.ref 37),.none,(.ref 38),(.ref 39),(.ref 40),(.int 219 0),(.int 16 0),(.str "/claim/cut.py" 220)],#[]⟩),
  (42,fO (topS 4) "heapify" "cpy313.heapq" 194 41),
  (48,⟨.type "code",none,.fields #[(.str "_siftdown" 222),(.str "_siftdown" 223),(.str "/claim/cut.py" 224),(.int 20 0),(.int 3 0),(.int 0 0),(.int 0 0),(.int 3 0),(.ref 43),(.bool true),(.int 181 0),(.ref 44),.none,(.ref 45),(.ref 46),(.ref 47),(.int 231 0),(.int 20 0),(.str "/claim/cut.py" 232)],#[]⟩),
  (49,fO (topS 5) "_siftdown" "cpy313.heapq" 194 48),
  (55,⟨.type "code",none,.fields #[(.str "_siftup" 234),(.str "_siftup" 235),(.str "/claim/cut.py" 236),(.int 31 0),(.int 2 0),(.int 0 0),(.int 0 0),(.int 3 0),(.ref 50),(.bool true),(.int 181 0),(.ref 51),.none,(.ref 52),(.ref 53),(.ref 54),(.int 244 0),(.int 31 0),(.str "/claim/cut.py" 245)],#[]⟩),
  (56,fO (topS 6) "_siftup" "cpy313.heapq" 194 55),
  (69,⟨.type "code",none,.fields #[(.str "__init__" 261),(.str "_netrclex.__init__" 262),(.str "/claim/cut.py" 263),(.int 48 0),(.int 2 0),(.int 0 0),(.int 0 0),(.int 3 0),(.ref 64),(.bool true),(.int 181 0),(.ref 65),.none,(.ref 66),(.ref 67),(.ref 68),(.int 266 0),(.int 48 0),(.str "/claim/cut.py" 267)],#[]⟩),
  (70,fO (zni 8 0) "_netrclex.__init__" "cpy313.netrc" 247 69),
  (76,⟨.type "code",none,.fields #[(.str "_read_char" 269),(.str "_netrclex._read_char" 270),(.str "/claim/cut.py" 271),(.int 54 0),(.int 1 0),(.int 0 0),(.int 0 0),(.int 3 0),(.ref 71),(.bool true),(.int 181 0),(.ref 72),.none,(.ref 73),(.ref 74),(.ref 75),(.int 274 0),(.int 54 0),(.str "/claim/cut.py" 275)],#[]⟩),
  (77,fO (zni 8 1) "_netrclex._read_char" "cpy313.netrc" 247 76),
  (83,⟨.type "code",none,.fields #[(.str "get_token" 277),(.str "_netrclex.get_token" 278),(.str "/claim/cut.py" 279),(.int 60 0),(.int 1 0),(.int 0 0),(.int 0 0),(.int 3 0),(.ref 78),(.bool true),(.int 181 0),(.ref 79),.none,(.ref 80),(.ref 81),(.ref 82),(.int 284 0),(.int 60 0),(.str "/claim/cut.py" 285)],#[]⟩),
  (84,fO (zni 8 2) "_netrclex.get_token" "cpy313.netrc" 247 83),
  (90,⟨.type "code",none,.fields #[(.str "push_token" 287),(.str "_netrclex.push_token" 288),(.str "/claim/cut.py" 289),(.int 87 0),(.int 2 0),(.int 0 0),(.int 0 0),(.int 3 0),(.ref 85),(.bool true),(.int 181 0),(.ref 86),.none,(.ref 87),(.ref 88),(.ref 89),(.int 292 0),(.int 87 0),(.str "/claim/cut.py" 293)],#[]⟩),
  (91,fO (zni 8 3) "_netrclex.push_token" "cpy313.netrc" 247 90),
  (93,⟨.type "dict",none,.dict #[eK P "__module__" 256 (.str "cpy313.netrc" 247),eK P "__firstlineno__" 260 (.int 46 259),eK P "__init__" 268 (.ref 70),eK P "_read_char" 276 (.ref 77),eK P "get_token" 286 (.ref 84),eK P "push_token" 294 (.ref 91),eK P "__static_attributes__" 299 (.ref 92),eK P "__dict__" 301 (.ref 95),eK P "__weakref__" 303 (.ref 96),eK P "__doc__" 304 .none] 4,#[]⟩),
  (94,cO "_netrclex" 94 93 249 257),
  (114,⟨.type "code",none,.fields #[(.str "__init__" 326),(.str "Whitespace.__init__" 327),(.str "/claim/cut.py" 328),(.int 93 0),(.int 2 0),(.int 0 0),(.int 0 0),(.int 3 0),(.ref 109),(.bool true),(.int 181 0),(.ref 110),.none,(.ref 111),(.ref 112),(.ref 113),(.int 338 0),(.int 93 0),(.str "/claim/cut.py" 339)],#[]⟩),
  (115,fO (zni 10 1) "Whitespace.__init__" "cpy313.tabnanny" 307 114),
  (121,⟨.type "code",none,.fields #[(.str "longest_run_of_spaces" 341),(.str "Whitespace.longest_run_of_spaces" 342),(.str "/claim/cut.py" 343),(.int 116 0),(.int 1 0),(.int 0 0),(.int 0 0),(.int 3 0),(.ref 116),(.bool true),(.int 181 0),(.ref 117),.none,(.ref 118),(.ref 119),(.ref 120),(.int 347 0),(.int 116 0),(.str "/claim/cut.py" 348)],#[]⟩),
  (122,fO (zni 10 2) "Whitespace.longest_run_of_spaces" "cpy313.tabnanny" 307 121),
  (128,⟨.type "code",none,.fields #[(.str "indent_level" 350),(.str "Whitespace.indent_level" 351),(.str "/claim/cut.py" 352),(.int 120 0),(.int 2 0),(.int 0 0),(.int 0 0),(.int 3 0),(.ref 123),(.bool true),(.int 181 0),(.ref 124),.none,(.ref 125),(.ref 126),(.ref 127),(.int 359 0),(.int 120 0),(.str "/claim/cut.py" 360)],#[]⟩),
  (129,fO (zni 10 3) "Whitespace.indent_level" "cpy313.tabnanny" 307 128),
  (149,⟨.type "code",none,.fields #[(.str "less" 378),(.str "Whitespace.less" 379),(.str "/claim/cut.py" 380),(.int 133 0),(.int 2 0),(.int 0 0),(.int 0 0),(.int 3 0),(.ref 144),(.bool true),(.int 181 0),(.ref 145),.none,(.ref 146),(.ref 147),(.ref 148),(.int 385 0),(.int 133 0),(.str "/claim/cut.py" 386)],#[]⟩),
  (150,fO (zni 10 6) "Whitespace.less" "cpy313.tabnanny" 307 149),
  (159,⟨.type "dict",none,.dict #[eK P "__module__" 316 (.str "cpy313.tabnanny" 307),eK P "__firstlineno__" 320 (.int 90 319),eK P "S" 324 (.str " " 322),eK P "T" 325 (.str "\t" 323),eK P "__init__" 340 (.ref 115),eK P "longest_run_of_spaces" 349 (.ref 122),eK P "indent_level" 361 (.ref 129),eK P "equal" 369 (.ref 136),eK P "not_equal_witness" 377 (.ref 143),eK P "less" 387 (.ref 150),eK P "not_less_witness" 395 (.ref 157),eK P "__static_attributes__" 401 (.ref 158),eK P "__dict__" 403 (.ref 161),eK P "__weakref__" 405 (.ref 162),eK P "__doc__" 406 .none] 4,#[]⟩),
  (160,cO "Whitespace" 160 159 309 317),
  (170,⟨.type "code",none,.fields #[(.str "_law_lexer" 411),(.str "_law_lexer" 412),(.str "/claim/cut.py" 413),(.int 147 0),(.int 1 0),(.int 0 0),(.int 0 0),(.int 3 0),(.ref 165),(.bool true),(.int 181 0),(.ref 166),.none,(.ref 167),(.ref 168),(.ref 169),(.int 419 0),(.int 147 0),(.str "/claim/cut.py" 420)],#[]⟩),
  (171,fO (topS 12) "_law_lexer" "law_pg0248_01" 409 170),
  (177,⟨.type "code",none,.fields #[(.str "_law_totals" 422),(.str "_law_totals" 423),(.str "/claim/cut.py" 424),(.int 157 0),(.int 2 0),(.int 0 0),(.int 0 0),(.int 3 0),(.ref 172),(.bool true),(.int 181 0),(.ref 173),.none,(.ref 174),(.ref 175),(.ref 176),(.int 429 0),(.int 157 0),(.str "/claim/cut.py" 430)],#[]⟩),
  (178,fO (topS 13) "_law_totals" "law_pg0248_01" 409 177),
  (182,⟨.type "code",none,.fields #[(.str "_law_spelled" 432),(.str "_law_spelled" 433),(.str "/claim/cut.py" 434),(.int 162 0),(.int 2 0),(.int 0 0),(.int 0 0),(.int 3 0),(.ref 179),(.bool true),(.int 181 0),(.ref 180),.none,.none,.none,(.ref 181),(.int 435 0),(.int 162 0),(.str "/claim/cut.py" 436)],#[]⟩),
  (183,fO (topS 14) "_law_spelled" "law_pg0248_01" 409 182),
  (189,⟨.type "code",none,.fields #[(.str "_law_columns" 438),(.str "_law_columns" 439),(.str "/claim/cut.py" 440),(.int 165 0),(.int 2 0),(.int 0 0),(.int 0 0),(.int 3 0),(.ref 184),(.bool true),(.int 181 0),(.ref 185),.none,(.ref 186),(.ref 187),(.ref 188),(.int 447 0),(.int 165 0),(.str "/claim/cut.py" 448)],#[]⟩),
  (190,fO (topS 15) "_law_columns" "law_pg0248_01" 409 189),
  (194,⟨.type "code",none,.fields #[(.str "_law_less" 450),(.str "_law_less" 451),(.str "/claim/cut.py" 452),(.int 176 0),(.int 2 0),(.int 0 0),(.int 0 0),(.int 3 0),(.ref 191),(.bool true),(.int 181 0),(.ref 192),.none,.none,.none,(.ref 193),(.int 453 0),(.int 176 0),(.str "/claim/cut.py" 454)],#[]⟩),
  (195,fO (topS 16) "_law_less" "law_pg0248_01" 409 194),
  (201,⟨.type "code",none,.fields #[(.str "_law_lead" 456),(.str "_law_lead" 457),(.str "/claim/cut.py" 458),(.int 178 0),(.int 1 0),(.int 0 0),(.int 0 0),(.int 3 0),(.ref 196),(.bool true),(.int 181 0),(.ref 197),.none,(.ref 198),(.ref 199),(.ref 200),(.int 461 0),(.int 178 0),(.str "/claim/cut.py" 462)],#[]⟩),
  (202,fO (topS 17) "_law_lead" "law_pg0248_01" 409 201),
  (206,⟨.type "code",none,.fields #[(.str "_law_labelled" 464),(.str "_law_labelled" 465),(.str "/claim/cut.py" 466),(.int 184 0),(.int 1 0),(.int 0 0),(.int 0 0),(.int 3 0),(.ref 203),(.bool true),(.int 181 0),(.ref 204),.none,.none,.none,(.ref 205),(.int 467 0),(.int 184 0),(.str "/claim/cut.py" 468)],#[]⟩),
  (207,fO (topS 18) "_law_labelled" "law_pg0248_01" 409 206),
  (211,⟨.type "code",none,.fields #[(.str "_law_plan_by_line" 470),(.str "_law_plan_by_line" 471),(.str "/claim/cut.py" 472),(.int 198 0),(.int 4 0),(.int 0 0),(.int 0 0),(.int 3 0),(.ref 208),(.bool true),(.int 181 0),(.ref 209),.none,.none,.none,(.ref 210),(.int 473 0),(.int 198 0),(.str "/claim/cut.py" 474)],#[]⟩),
  (212,fO (topS 19) "_law_plan_by_line" "law_pg0248_01" 409 211),
  (216,⟨.type "code",none,.fields #[(.str "_law_plan_by_heap" 476),(.str "_law_plan_by_heap" 477),(.str "/claim/cut.py" 478),(.int 217 0),(.int 2 0),(.int 0 0),(.int 0 0),(.int 3 0),(.ref 213),(.bool true),(.int 181 0),(.ref 214),.none,.none,.none,(.ref 215),(.int 479 0),(.int 217 0),(.str "/claim/cut.py" 480)],#[]⟩),
  (217,fO (topS 20) "_law_plan_by_heap" "law_pg0248_01" 409 216),
  (223,⟨.type "code",none,.fields #[(.str "_law_most_pairs" 482),(.str "_law_most_pairs" 483),(.str "/claim/cut.py" 484),(.int 234 0),(.int 1 0),(.int 0 0),(.int 0 0),(.int 3 0),(.ref 218),(.bool true),(.int 181 0),(.ref 219),.none,(.ref 220),(.ref 221),(.ref 222),(.int 492 0),(.int 234 0),(.str "/claim/cut.py" 493)],#[]⟩),
  (224,fO (topS 21) "_law_most_pairs" "law_pg0248_01" 409 223),
  (228,⟨.type "code",none,.fields #[(.str "law" 495),(.str "law" 496),(.str "/claim/cut.py" 497),(.int 245 0),(.int 1 0),(.int 0 0),(.int 0 0),(.int 3 0),(.ref 225),(.bool true),(.int 181 0),(.ref 226),.none,.none,.none,(.ref 227),(.int 498 0),(.int 245 0),(.str "/claim/cut.py" 499)],#[]⟩),
  (229,fO (topS 22) "law" "law_pg0248_01" 409 228)]
noncomputable abbrev asK:List Nat:=[2,3,27,28,34,35,41,42,48,49,55,56,69,70,76,77,83,84,90,91,93,94,114,115,121,122,128,129,149,150,159,160,170,171,177,178,182,183,189,190,194,195,201,202,206,207,211,212,216,217,223,224,228,229]
noncomputable def qv:Program:=view PySem.Challenge.rw_pg0248_01.row.prog [0,2,3,4,5,6,8,10,12,13,14,15,16,17,18,19,20,21,22]
theorem asK_eq:∀ P,asK = (Kf P).map (·.1):=fun P=>by kernel_rfl
noncomputable def Hk:Hook:=kmHook Kf asK asK_eq [166]
noncomputable def hdG (b:Bool):Prop:=∀ w:World,(fencedOpening treeTable PySem.Challenge.rw_pg0248_01.row.prog w 2848).map (fun s₀=>(topFrom treeTable PySem.Challenge.rw_pg0248_01.row.prog (w.withFollow "special-get-raises" b) 2848 s₀).map (fun s=>(openSeen qv [Str.ofString "Whitespace"] (importedModules PySem.Challenge.rw_pg0248_01.row.prog.main.body) (fun s=>xlAt qv [] s && recOk (RowW.records PySem.Challenge.rw_pg0248_01.row.toRowW) s) true s,Hk.obs s))) = some (some (openGood qv [Str.ofString "Whitespace"],Hk.val (w.withFollow "special-get-raises" b)))
theorem hdF:hdG false:=fun w=>by kernel_rfl
theorem hdT:hdG true:=fun w=>by kernel_rfl
theorem both {A B:Type} {x:Option A} {f g:A→Option B} {a b:B} (h1:x.map f = some (some a)) (h2:x.map g = some (some b)):x.map (fun s=>(f s,g s)) = some (some a,some b):=by
  obtain ⟨s,e,e1⟩:=Option.map_eq_some_iff.mp h1
  rw [e] at h2 ⊢
  have e2:g s = some b:=Option.some.inj h2
  show some (f s,g s) = _
  rw [e1,e2]
theorem left0:LeftO PySem.Challenge.rw_pg0248_01.row.prog qv [Str.ofString "Whitespace"] (fun s=>xlAt qv [] s && recOk (RowW.records PySem.Challenge.rw_pg0248_01.row.toRowW) s) Hk.obs Hk.val 2848 :=
  LeftO.of_split "special-get-raises" (fun w=>both (hdF w) (hdT w))
end Mine
end
section
open PySem PySem.W PyProof.Rows PySem.Calls
namespace Mine
inductive AV where
  | none
  | bool (b:Bool)
  | int (i:Int)
  | str (cs:List Nat)
  | tup (xs:List AV)
  | fl (xs:List AV)
  | rng (a b:Int)
  | loc (n:Nat)
  | val (v:Value)
  | obj (c:Nat) (fs:List AV)
  | strm (n:Nat) (txt:List Nat)
inductive AO where
  | list (xs:List AV)
  | inst (c:Nat) (fs:List (Option AV))
  | citer (lex:Nat) (live:Bool)
structure Hp where
  H:Nat→Option AO
  N:Nat
structure Cfg where
  prog:Program
  w:World
  base:Heap
  os:OsState
  cls:Nat→Addr
  fld:Nat→List Str
  P:Addr
  q1:Str
  q2:Str
  K:Frag
  readf:Addr
  strm:List (Addr × Obj)→Addr→Addr→List Nat→Prop
  tb:Addr→Addr→Array Value
noncomputable abbrev Ren:=Nat→Option (Addr × Addr)
noncomputable def Lv (ρ:Ren) (hp:Hp) (a:Addr):Prop:=∃ n m,hp.H n≠none∧ρ n = some (m,a)
noncomputable def zfo (ns:List Str) (es:List DictEntry):Prop:=∀ e∈es,∃ nm t,nm∈ns∧e.key = .str nm t
noncomputable def zko:Value→Option Str
  | .str nm _=>some nm
  | _=>none
noncomputable def zjm (es:List DictEntry):Prop:=(es.map fun e=>zko e.key).Nodup
noncomputable def zjq (es:List DictEntry) (x:Str) (v:Value):Prop:=getL x es = some (some v)
mutual
inductive VR (C:Cfg) (ρ:Ren) (L:Addr→Prop) (h:Heap):AV→Value→Prop
  | none:VR C ρ L h .none .none
  | bool (b:Bool):VR C ρ L h (.bool b) (.bool b)
  | int (i:Int) (t:Tok):VR C ρ L h (.int i) (.int i t)
  | str (cs:List Nat) (t:Tok):VR C ρ L h (.str cs) (.str ⟨cs.toArray⟩ t)
  | tup {a:Addr} {n:Nat} {xs:List AV} {vs:List Value}:h.get? a = some ({cls:=.type "tuple",data:=.seq vs.toArray n}:Obj)→¬ L a→VRs C ρ L h xs vs→VR C ρ L h (.tup xs) (.ref a)
  | fl {a:Addr} {n:Nat} {xs:List AV} {vs:List Value}:h.get? a = some (listOf vs.toArray n)→¬ L a→VRs C ρ L h xs vs→VR C ρ L h (.fl xs) (.ref a)
  | rng {r:Addr} {a b:Int} {t u v:Tok}:IsRange h r a b 1 t u v→¬ L r→VR C ρ L h (.rng a b) (.ref r)
  | loc {n:Nat} {a x:Addr}:ρ n = some (a,x)→VR C ρ L h (.loc n) (.ref a)
  | val (v:Value):VR C ρ L h (.val v) v
  | obj {c:Nat} {a dx:Addr} {n:Nat} {es:List DictEntry} {fs:List AV} {vs:List Value}:h.get? a = some (instObj (C.cls c) dx)→h.get? dx = some (dictOf es n)→¬ L a→¬ L dx→
      zfo (C.fld c) es→VRs C ρ L h fs vs→(∀ (i:Nat) x v,(C.fld c)[i]? = some x→vs[i]? = some v→zjq es x v)→VR C ρ L h (.obj c fs) (.ref a)
  | strm {n:Nat} {txt:List Nat} {a l x:Addr} {fz:List (Addr × Obj)}:C.strm fz a l txt→ρ n = some (l,x)→(∀ p∈fz,h.get? p.1 = some p.2∧¬ L p.1∧p.1≠C.P)→VR C ρ L h (.strm n txt) (.ref a)
inductive VRs (C:Cfg) (ρ:Ren) (L:Addr→Prop) (h:Heap):List AV→List Value→Prop
  | nil:VRs C ρ L h [] []
  | cons {x:AV} {xs:List AV} {v:Value} {vs:List Value}:VR C ρ L h x v→VRs C ρ L h xs vs→VRs C ρ L h (x ::xs) (v ::vs)
end
structure Up (C:Cfg) (ρ ρ':Ren) (L L':Addr→Prop) (h h':Heap):Prop where
  ext:∀ n p,ρ n = some p→ρ' n = some p
  keep:∀ b o,h.get? b = some o→¬ L b→b≠C.P→h'.get? b = some o
  live:∀ b,L' b→L b∨h.get? b = none
  tab:∃ ps,h.get? C.P = some (tabObj ps)
theorem neP {C:Cfg} {h:Heap} {b:Addr} {o:Obj} (ht:∃ ps,h.get? C.P = some (tabObj ps)) (e:h.get? b = some o) (hc:o.cls≠.none):b≠C.P:=by
  rintro rfl
  obtain ⟨ps,q⟩:=ht
  rw [q] at e
  cases e
  exact hc rfl
inductive WV (C:Cfg) (ρ:Ren) (L:Addr→Prop) (h:Heap) (ow:Option Value) (v:AV):Prop
  | mk (w:Value) (e:ow = some w) (r:VR C ρ L h v w):WV C ρ L h ow v
inductive FV (C:Cfg) (ρ:Ren) (L:Addr→Prop) (h:Heap) (es:List DictEntry) (x:Str) (v:AV):Prop
  | mk (w:Value) (e:zjq es x w) (r:VR C ρ L h v w):FV C ρ L h es x v
inductive VRs.ConsI (C:Cfg) (ρ:Ren) (L:Addr→Prop) (h:Heap) (x:AV) (xs:List AV):List Value→Prop
  | mk (v:Value) (vs:List Value) (a:VR C ρ L h x v) (b:VRs C ρ L h xs vs):VRs.ConsI C ρ L h x xs (v ::vs)
inductive VR.TupI (C:Cfg) (ρ:Ren) (L:Addr→Prop) (h:Heap) (xs:List AV):Value→Prop
  | mk (a:Addr) (n:Nat) (vs:List Value) (e:h.get? a = some ({cls:=.type "tuple",data:=.seq vs.toArray n}:Obj)) (l:¬ L a) (r:VRs C ρ L h xs vs):VR.TupI C ρ L h xs (.ref a)
inductive VR.FlI (C:Cfg) (ρ:Ren) (L:Addr→Prop) (h:Heap) (xs:List AV):Value→Prop
  | mk (a:Addr) (n:Nat) (vs:List Value) (e:h.get? a = some (listOf vs.toArray n)) (l:¬ L a) (r:VRs C ρ L h xs vs):VR.FlI C ρ L h xs (.ref a)
inductive VR.RngI (L:Addr→Prop) (h:Heap) (a b:Int):Value→Prop
  | mk (x:Addr) (t u v:Tok) (e:IsRange h x a b 1 t u v) (l:¬ L x):VR.RngI L h a b (.ref x)
inductive VR.LocI (ρ:Ren) (n:Nat):Value→Prop
  | mk (a x:Addr) (e:ρ n = some (a,x)):VR.LocI ρ n (.ref a)
inductive VR.IntI (i:Int):Value→Prop
  | mk (t:Tok):VR.IntI i (.int i t)
inductive VR.StrI (cs:List Nat):Value→Prop
  | mk (t:Tok):VR.StrI cs (.str ⟨cs.toArray⟩ t)
inductive VR.ObjI (C:Cfg) (ρ:Ren) (L:Addr→Prop) (h:Heap) (c:Nat) (fs:List AV):Value→Prop
  | mk (a dx:Addr) (n:Nat) (es:List DictEntry) (vs:List Value) (h1:h.get? a = some (instObj (C.cls c) dx)) (h2:h.get? dx = some (dictOf es n)) (h3:¬ L a) (h4:¬ L dx) (h5:zfo (C.fld c) es) (h6:VRs C ρ L h fs vs) (h7:∀ (i:Nat) x v,(C.fld c)[i]? = some x→vs[i]? = some v→zjq es x v):VR.ObjI C ρ L h c fs (.ref a)
inductive VR.StrmI (C:Cfg) (ρ:Ren) (L:Addr→Prop) (h:Heap) (n:Nat) (txt:List Nat):Value→Prop
  | mk (a l x:Addr) (fz:List (Addr × Obj)) (h1:C.strm fz a l txt) (h2:ρ n = some (l,x)) (h3:∀ p∈fz,h.get? p.1 = some p.2∧¬ L p.1∧p.1≠C.P):VR.StrmI C ρ L h n txt (.ref a)
section
variable {C:Cfg} {ρ ρ':Ren} {L L':Addr→Prop} {h h':Heap}
theorem VRs.nilI {ws:List Value} (r:VRs C ρ L h [] ws):ws = []:=by cases r; rfl
theorem VRs.consI {x:AV} {xs:List AV} {ws:List Value} (r:VRs C ρ L h (x ::xs) ws):VRs.ConsI C ρ L h x xs ws:=by cases r with | cons a b=>exact ⟨_,_,a,b⟩
theorem VR.noneI {w:Value} (r:VR C ρ L h .none w):w = .none:=by cases r; rfl
theorem VR.boolI {b:Bool} {w:Value} (r:VR C ρ L h (.bool b) w):w = .bool b:=by cases r; rfl
theorem VR.intI {i:Int} {w:Value} (r:VR C ρ L h (.int i) w):VR.IntI i w:=by cases r with | int _ t=>exact ⟨t⟩
theorem VR.strI {cs:List Nat} {w:Value} (r:VR C ρ L h (.str cs) w):VR.StrI cs w:=by cases r with | str _ t=>exact ⟨t⟩
theorem VR.tupI {xs:List AV} {w:Value} (r:VR C ρ L h (.tup xs) w):VR.TupI C ρ L h xs w:=by cases r with | tup a b c=>exact ⟨_,_,_,a,b,c⟩
theorem VR.flI {xs:List AV} {w:Value} (r:VR C ρ L h (.fl xs) w):VR.FlI C ρ L h xs w:=by cases r with | fl a b c=>exact ⟨_,_,_,a,b,c⟩
theorem VR.rngI {a b:Int} {w:Value} (r:VR C ρ L h (.rng a b) w):VR.RngI L h a b w:=by cases r with | rng e l=>exact ⟨_,_,_,_,e,l⟩
theorem VR.locI {n:Nat} {w:Value} (r:VR C ρ L h (.loc n) w):VR.LocI ρ n w:=by cases r with | loc a=>exact ⟨_,_,a⟩
theorem VR.objI {c:Nat} {fs:List AV} {w:Value} (r:VR C ρ L h (.obj c fs) w):VR.ObjI C ρ L h c fs w:=by cases r with | obj a b c d e f g=>exact ⟨_,_,_,_,_,a,b,c,d,e,f,g⟩
theorem VR.strmI {n:Nat} {txt:List Nat} {w:Value} (r:VR C ρ L h (.strm n txt) w):VR.StrmI C ρ L h n txt w:=by cases r with | strm a b c=>exact ⟨_,_,_,_,a,b,c⟩
theorem VR.map (hE:∀ n p,ρ n = some p→ρ' n = some p) (hK:∀ a o,h.get? a = some o→¬ L a→o.cls≠.none∨a≠C.P→h'.get? a = some o∧¬ L' a) {x:AV} {v:Value} (r:VR C ρ L h x v):VR C ρ' L' h' x v :=
  VR.rec (motive_1:=fun x v _=>VR C ρ' L' h' x v) (motive_2:=fun xs vs _=>VRs C ρ' L' h' xs vs) .none .bool .int .str
    (fun e n _ r=>have k:=hK _ _ e n (.inl nofun); .tup k.1 k.2 r) (fun e n _ r=>have k:=hK _ _ e n (.inl nofun); .fl k.1 k.2 r)
    (fun e n=>have k:=hK _ _ e n (.inl nofun); .rng k.1 k.2) (fun e=>.loc (hE _ _ e)) .val
    (fun e e2 n n2 k _ f r=>have k1:=hK _ _ e n (.inl nofun); have k2:=hK _ _ e2 n2 (.inl nofun); .obj k1.1 k2.1 k1.2 k2.2 k r f)
    (fun e1 e2 f=>.strm e1 (hE _ _ e2) fun p hp=>have f:=f p hp; have k:=hK _ _ f.1 f.2.1 (.inr f.2.2); ⟨k.1,k.2,f.2.2⟩) .nil (fun _ _ a r=>.cons a r) r
theorem VRs.map (hE:∀ n p,ρ n = some p→ρ' n = some p) (hK:∀ a o,h.get? a = some o→¬ L a→o.cls≠.none∨a≠C.P→h'.get? a = some o∧¬ L' a) {xs:List AV}:∀ {vs:List Value},VRs C ρ L h xs vs→VRs C ρ' L' h' xs vs:=by
  induction xs with
  | nil=>exact fun r=>(VRs.nilI r) ▸ .nil
  | cons x xs ih =>
    intro vs r
    obtain ⟨_,_,a,b⟩:=VRs.consI r
    exact .cons (a.map hE hK) (ih b)
theorem Up.old (U:Up C ρ ρ' L L' h h') (a:Addr) (o:Obj) (e:h.get? a = some o) (n:¬ L a) (k:o.cls≠.none∨a≠C.P):h'.get? a = some o∧¬ L' a :=
  ⟨U.keep a o e n (k.elim (neP U.tab e) id),fun q=>(U.live a q).elim n fun z=>by rw [z] at e; exact nomatch e⟩
theorem VR.up (U:Up C ρ ρ' L L' h h') {x:AV} {v:Value} (r:VR C ρ L h x v):VR C ρ' L' h' x v:=r.map U.ext U.old
theorem VRs.up (U:Up C ρ ρ' L L' h h') {xs:List AV} {vs:List Value} (r:VRs C ρ L h xs vs):VRs C ρ' L' h' xs vs:=r.map U.ext U.old
theorem VR.weak (U:∀ b,L' b→L b) {x:AV} {v:Value} (r:VR C ρ L h x v):VR C ρ L' h x v:=r.map (fun _ _ e=>e) fun _ _ e n _=>⟨e,fun q=>n (U _ q)⟩
theorem VRs.weak (U:∀ b,L' b→L b) {xs:List AV} {vs:List Value} (r:VRs C ρ L h xs vs):VRs C ρ L' h xs vs:=r.map (fun _ _ e=>e) fun _ _ e n _=>⟨e,fun q=>n (U _ q)⟩
end
section
variable {C:Cfg} {ρ:Ren} {L:Addr→Prop} {h:Heap} {xs ys:List AV} {vs ws:List Value} {x:AV} {v:Value}
theorem VRs.length (r:VRs C ρ L h xs vs):xs.length = vs.length:=by
  induction xs generalizing vs with
  | nil=>cases r; rfl
  | cons a xs ih=>cases r with | cons _ r=>simp [ih r]
theorem VRs.append (r:VRs C ρ L h xs vs) (q:VRs C ρ L h ys ws):VRs C ρ L h (xs++ys) (vs++ws):=by
  induction xs generalizing vs with
  | nil=>cases r; exact q
  | cons a xs ih=>cases r with | cons a r=>exact .cons a (ih r)
theorem VRs.get (r:VRs C ρ L h xs vs) {i:Nat} (e:xs[i]? = some x):∃ v,vs[i]? = some v∧VR C ρ L h x v:=by
  induction xs generalizing vs i with
  | nil=>cases r; cases e
  | cons a xs ih =>
    cases r with
    | cons a r =>
      cases i with
      | zero=>simp at e; subst e; exact ⟨_,rfl,a⟩
      | succ i=>simpa using ih r (by simpa using e)
theorem VRs.get' (r:VRs C ρ L h xs vs) {i:Nat} (e:vs[i]? = some v):∃ x,xs[i]? = some x∧VR C ρ L h x v:=by
  induction xs generalizing vs i with
  | nil=>cases r; cases e
  | cons a xs ih =>
    cases r with
    | cons a r =>
      cases i with
      | zero=>simp at e; subst e; exact ⟨_,rfl,a⟩
      | succ i=>simpa using ih r (by simpa using e)
theorem VRs.set (r:VRs C ρ L h xs vs) (q:VR C ρ L h x v) (i:Nat):VRs C ρ L h (xs.set i x) (vs.set i v):=by
  induction xs generalizing vs i with
  | nil=>cases r; exact .nil
  | cons a xs ih =>
    cases r with
    | cons a r =>
      cases i with
      | zero=>exact .cons q r
      | succ i=>exact .cons a (ih r i)
theorem VRs.eraseIdx (r:VRs C ρ L h xs vs) (i:Nat):VRs C ρ L h (xs.eraseIdx i) (vs.eraseIdx i):=by
  induction xs generalizing vs i with
  | nil=>cases r; exact .nil
  | cons a xs ih =>
    cases r with
    | cons a r =>
      cases i with
      | zero=>exact r
      | succ i=>exact .cons a (ih r i)
theorem VRs.dropLast (r:VRs C ρ L h xs vs):VRs C ρ L h xs.dropLast vs.dropLast:=by
  rw [← List.eraseIdx_length_sub_one,← List.eraseIdx_length_sub_one,r.length]
  exact r.eraseIdx _
end
inductive OR (C:Cfg) (ρ:Ren) (L:Addr→Prop) (h:Heap):AO→Addr→Addr→Prop
  | list {a:Addr} {n:Nat} {xs:List AV} {vs:List Value}:h.get? a = some (listOf vs.toArray n)→VRs C ρ L h xs vs→OR C ρ L h (.list xs) a a
  | inst {c:Nat} {a dx:Addr} {n:Nat} {es:List DictEntry} {fs:List (Option AV)}:h.get? a = some (instObj (C.cls c) dx)→¬ L a→h.get? dx = some (dictOf es n)→zfo (C.fld c) es→zjm es→
      (∀ (i:Nat) x f,(C.fld c)[i]? = some x→fs[i]? = some (some f)→FV C ρ L h es x f)→OR C ρ L h (.inst c fs) a dx
  | live {n:Nat} {I q lx dx:Addr} {t:Tok}:h.get? I = some {cls:=.type "callable_iterator",dict:=none,data:=.fields #[.ref q,.str ⟨#[]⟩ t,.bool false],slots:=#[]}→h.get? q = some (methodObj (.ref C.readf) (.ref lx))→¬ L q→ρ n = some (lx,dx)→OR C ρ L h (.citer n true) I I
  | dead {n:Nat} {I:Addr}:h.get? I = some {cls:=.type "callable_iterator",dict:=none,data:=.fields #[.none,.none,.bool true],slots:=#[]}→OR C ρ L h (.citer n false) I I
theorem OR.up {C:Cfg} {ρ ρ':Ren} {L L':Addr→Prop} {h h':Heap} {o:AO} {m x:Addr} (U:Up C ρ ρ' L L' h h') (kx:∀ ob,h.get? x = some ob→h'.get? x = some ob) (r:OR C ρ L h o m x):OR C ρ' L' h' o m x:=by
  cases r with
  | list e r=>exact .list (kx _ e) (VRs.up U r)
  | inst e n2 e3 ks ln r=>exact .inst (U.keep _ _ e n2 (neP U.tab e (by simp))) (fun q=>(U.live _ q).elim n2 fun z=>by rw [z] at e; cases e) (kx _ e3) ks ln fun i x f h1 h2=>let ⟨v,a,b⟩:=r i x f h1 h2; ⟨v,a,VR.up U b⟩
  | live e e2 n r=>exact .live (kx _ e) (U.keep _ _ e2 n (neP U.tab e2 (by simp))) (fun q=>(U.live _ q).elim n fun z=>by rw [z] at e2; cases e2) (U.ext _ _ r)
  | dead e=>exact .dead (kx _ e)
theorem OR.weak {C:Cfg} {ρ:Ren} {L L':Addr→Prop} {h:Heap} {o:AO} {m x:Addr} (hw:∀ b,L' b→L b) (r:OR C ρ L h o m x):OR C ρ L' h o m x:=by
  cases r with
  | list e r=>exact .list e (VRs.weak hw r)
  | inst e n2 e3 ks ln r=>exact .inst e (fun q=>n2 (hw _ q)) e3 ks ln fun i x f h1 h2=>let ⟨v,a,b⟩:=r i x f h1 h2; ⟨v,a,VR.weak hw b⟩
  | live e e2 n r=>exact .live e e2 (fun q=>n (hw _ q)) r
  | dead e=>exact .dead e
theorem OR.at_ {C:Cfg} {ρ:Ren} {L:Addr→Prop} {h:Heap} {o:AO} {m x:Addr} (r:OR C ρ L h o m x):(∃ ob,h.get? x = some ob∧ob.cls≠.none)∧∃ ob,h.get? m = some ob∧ob.cls≠.none:=by
  cases r with
  | list e _=>exact ⟨⟨_,e,by simp⟩,_,e,by simp⟩
  | inst e _ e2 _ _ _=>exact ⟨⟨_,e2,by simp⟩,_,e,by simp⟩
  | live e _ _ _=>exact ⟨⟨_,e,by simp⟩,_,e,by simp⟩
  | dead e=>exact ⟨⟨_,e,by simp⟩,_,e,by simp⟩
inductive CRec (h:Heap) (c:Addr) (q:Str):Prop
  | mk (o:Obj) (vs:Array Value) (t:Tok) (e:h.get? c = some o) (d:o.data = .fields vs) (g:vs[1]? = some (.str q t)):CRec h c q
theorem crec {h:Heap} {c:Addr} {q:Str} (r:h.CodeRec (.ref c) q):CRec h c q:=by
  obtain ⟨_,o,vs,t,e0,e,d,g⟩:=r
  exact Value.ref.inj e0 ▸ ⟨o,vs,t,e,d,g⟩
theorem CRec.of {h:Heap} {c:Addr} {q:Str} (r:CRec h c q):h.CodeRec (.ref c) q:=by
  obtain ⟨o,vs,t,e,d,g⟩:=r
  exact ⟨c,o,vs,t,rfl,e,d,g⟩
inductive TabTwo (C:Cfg) (L:Addr→Prop) (h:Heap) (ps:Array Value):Prop
  | mk (c1 c2:Addr) (e:ps = C.tb c1 c2) (r1:h.CodeRec (.ref c1) C.q1) (r2:h.CodeRec (.ref c2) C.q2) (n1:¬ L c1) (n2:¬ L c2) (p1:c1≠C.P) (p2:c2≠C.P):TabTwo C L h ps
noncomputable def zrv (C:Cfg) (L:Addr→Prop) (h:Heap) (ps:Array Value):Prop:=ps = #[]∨TabTwo C L h ps
theorem zrv.up {C:Cfg} {L L':Addr→Prop} {h h':Heap} {ps:Array Value} (t:zrv C L h ps) (k:∀ a o,h.get? a = some o→¬ L a→a≠C.P→h'.get? a = some o∧¬ L' a):zrv C L' h' ps:=by
  refine t.imp id fun t=>?_
  obtain ⟨c1,c2,e,r1,r2,n1,n2,p1,p2⟩:=t
  obtain ⟨o1,v1,t1,e1,d1,g1⟩:=crec r1
  obtain ⟨o2,v2,t2,e2,d2,g2⟩:=crec r2
  have k1:=k c1 o1 e1 n1 p1
  have k2:=k c2 o2 e2 n2 p2
  exact ⟨c1,c2,e,CRec.of ⟨o1,v1,t1,k1.1,d1,g1⟩,CRec.of ⟨o2,v2,t2,k2.1,d2,g2⟩,k1.2,k2.2,p1,p2⟩
structure WR (C:Cfg) (G:Addr→Prop) (ρ:Ren) (hp:Hp) (s:Shared):Prop where
  obj:∀ n o,hp.H n = some o→∃ m x,ρ n = some (m,x)∧OR C ρ (fun b=>Lv ρ hp b∨G b) s.heap o m x
  inj:∀ n k m x m',hp.H n≠none→hp.H k≠none→ρ n = some (m,x)→ρ k = some (m',x)→n = k
  top:∀ n,hp.N≤n→hp.H n = none∧ρ n = none
  nb:∀ b,Lv ρ hp b→C.base.get? b = none
  ng:∀ b,Lv ρ hp b→¬ G b
  gt:∀ b,G b→∃ o,s.heap.get? b = some o
  gb:∀ b,G b→C.base.get? b = none
  keep:∀ b o,C.base.get? b = some o→s.heap.get? b = some o
  gens:s.gens = #[]
  os:s.os = C.os
  tab:∃ ps,s.heap.get? C.P = some (tabObj ps)∧zrv C (fun b=>Lv ρ hp b∨G b) s.heap ps
noncomputable abbrev Own (ρ:Ren) (hp:Hp) (G:Addr→Prop):Addr→Prop:=fun b=>Lv ρ hp b∨G b
structure Step (C:Cfg) (G X:Addr→Prop) (ρ:Ren) (hp:Hp) (s:Shared) (ρ':Ren) (hp':Hp) (s':Shared):Prop where
  wr:WR C G ρ' hp' s'
  ext:∀ n p,ρ n = some p→ρ' n = some p
  nx:hp.N≤hp'.N
  keep:∀ b o,s.heap.get? b = some o→¬ Lv ρ hp b→b≠C.P→¬ X b→s'.heap.get? b = some o
  there:∀ b o,s.heap.get? b = some o→∃ o',s'.heap.get? b = some o'
  live:∀ b,Lv ρ' hp' b→Lv ρ hp b∨s.heap.get? b = none
section
variable {C:Cfg} {G G' X X':Addr→Prop} {ρ ρ₁ ρ₂ ρ':Ren} {hp hp₁ hp₂ hp':Hp} {s s₁ s₂ s':Shared}
theorem WR.tabAt (W:WR C G ρ hp s):∃ ps,s.heap.get? C.P = some (tabObj ps):=let ⟨ps,e,_⟩:=W.tab; ⟨ps,e⟩
theorem Step.up (S:Step C G X ρ hp s ρ' hp' s') (W:WR C G ρ hp s) (hX:∀ b,X b→G b):Up C ρ ρ' (Own ρ hp G) (Own ρ' hp' G) s.heap s'.heap where
  ext:=S.ext
  keep:=fun b o e n p=>S.keep b o e (fun q=>n (.inl q)) p fun q=>n (.inr (hX _ q))
  live:=fun b q=>q.elim (fun q=>(S.live b q).imp .inl id) fun q=>.inl (.inr q)
  tab:=W.tabAt
theorem Step.refl (W:WR C G ρ hp s):Step C G X ρ hp s ρ hp s:=⟨W,fun _ _ e=>e,Nat.le_refl _,fun _ _ e _ _ _=>e,fun _ o e=>⟨o,e⟩,fun _ q=>.inl q⟩
theorem Step.trans (S:Step C G X ρ hp s ρ₁ hp₁ s₁) (T:Step C G X ρ₁ hp₁ s₁ ρ₂ hp₂ s₂):Step C G X ρ hp s ρ₂ hp₂ s₂ where
  wr:=T.wr
  ext:=fun n p e=>T.ext n p (S.ext n p e)
  nx:=Nat.le_trans S.nx T.nx
  keep:=fun b o e n p x=>T.keep b o (S.keep b o e n p x) (fun q=>(S.live b q).elim n fun z=>by rw [z] at e; cases e) p x
  there:=fun b o e=>let ⟨o₁,e₁⟩:=S.there b o e; T.there b o₁ e₁
  live:=fun b q=>(T.live b q).elim (S.live b) fun z=>.inr (by
    cases e:s.heap.get? b with
    | none=>rfl
    | some o=>obtain ⟨o₁,e₁⟩:=S.there b o e; rw [z] at e₁; cases e₁)
theorem Step.weak (S:Step C G X ρ hp s ρ' hp' s') (h:∀ b,X b→X' b):Step C G X' ρ hp s ρ' hp' s' :=
  ⟨S.wr,S.ext,S.nx,fun b o e n p x=>S.keep b o e n p fun q=>x (h _ q),S.there,S.live⟩
theorem Step.none (S:Step C G (fun _=>False) ρ hp s ρ' hp' s'):Step C G X ρ hp s ρ' hp' s':=S.weak fun _ q=>q.elim
theorem WR.same (W:WR C G ρ hp s) {h':Heap} {tk:Nat} (k:∀ b o,s.heap.get? b = some o→h'.get? b = some o):WR C G ρ hp {s with heap:=h',toks:=tk}:=by
  have U:Up C ρ ρ (Own ρ hp G) (Own ρ hp G) s.heap h':=⟨fun _ _ e=>e,fun b o e _ _=>k b o e,fun _ q=>.inl q,W.tabAt⟩
  refine ⟨fun n o e=>?_,W.inj,W.top,W.nb,W.ng,fun b q=>(W.gt b q).imp fun o e=>k b o e,W.gb,fun b o e=>k b o (W.keep b o e),W.gens,W.os,?_⟩
  · obtain ⟨m,x,e1,r⟩:=W.obj n o e
    refine ⟨m,x,e1,?_⟩
    exact r.up U (k x)
  · obtain ⟨ps,e,t⟩:=W.tab
    exact ⟨ps,k _ _ e,t.up fun a o e n _=>⟨k a o e,n⟩⟩
theorem Step.same (W:WR C G ρ hp s) {h':Heap} {tk:Nat} (k:∀ b o,s.heap.get? b = some o→h'.get? b = some o):Step C G X ρ hp s ρ hp {s with heap:=h',toks:=tk} :=
  ⟨W.same k,fun _ _ e=>e,Nat.le_refl _,fun b o e _ _ _=>k b o e,fun b o e=>⟨o,k b o e⟩,fun _ q=>.inl q⟩
end
inductive Home where
  | ns (a:Addr) (x:Str)
  | cell (c:Addr)
  | fz (c d:Addr)
noncomputable def Home.addr:Home→Addr
  | .ns a _=>a
  | .cell c=>c
  | .fz _ d=>d
noncomputable abbrev Loc:=List (Option AV)
noncomputable def zet (C:Cfg) (ρ:Ren) (L:Addr→Prop) (h:Heap):Home→Option AV→Prop
  | .ns a x,o=>∃ m,h.Ns a m∧∀ v,o = some v→WV C ρ L h (m x) v
  | .cell c,o=>∃ ow,h.IsCell c ow∧∀ v,o = some v→WV C ρ L h ow v
  | .fz c d,o=>(¬ L c∧c≠C.P∧d≠C.P)∧∃ ow,h.IsCell c ow∧∀ v,o = some v→WV C ρ L h ow v
structure LR (C:Cfg) (G:Addr→Prop) (homes:List Home) (ρ:Ren) (hp:Hp) (loc:Loc) (h:Heap):Prop where
  len:loc.length = homes.length
  at_:∀ (i:Nat) hm ov,homes[i]? = some hm→loc[i]? = some ov→zet C ρ (Own ρ hp G) h hm ov
  g:∀ hm∈homes,G hm.addr
  nd:homes.Pairwise (·≠·)
noncomputable def Xh (homes:List Home) (b:Addr):Prop:=∃ hm∈homes,hm.addr = b
theorem LR.xg {C:Cfg} {G:Addr→Prop} {homes:List Home} {ρ:Ren} {hp:Hp} {loc:Loc} {h:Heap} (R:LR C G homes ρ hp loc h):∀ b,Xh homes b→G b:=fun _ ⟨hm,m,e⟩=>e ▸ R.g hm m
theorem zet.upF {C:Cfg} {ρ ρ':Ren} {L L':Addr→Prop} {h h':Heap} (U:Up C ρ ρ' L L' h h') {c d:Addr} {ov:Option AV} (x:zet C ρ L h (.fz c d) ov):zet C ρ' L' h' (.fz c d) ov:=by
  obtain ⟨⟨n1,n2,n3⟩,ow,n,r⟩:=x
  obtain ⟨o,e,q⟩:=n
  exact ⟨⟨fun z=>(U.live _ z).elim n1 (fun z=>by rw [z] at e; cases e),n2,n3⟩,ow,⟨o,U.keep _ _ e n1 n2,q⟩,fun v e=>let ⟨w,a,b⟩:=r v e; ⟨w,a,VR.up U b⟩⟩
theorem zet.up {C:Cfg} {ρ ρ':Ren} {L L':Addr→Prop} {h h':Heap} (U:Up C ρ ρ' L L' h h') (k:∀ o,h.get? hm.addr = some o→h'.get? hm.addr = some o) {ov:Option AV} (x:zet C ρ L h hm ov):zet C ρ' L' h' hm ov:=by
  cases hm with
  | ns a x' =>
    obtain ⟨m,n,r⟩:=x
    exact ⟨m,n.at' k,fun v e=>let ⟨w,a,b⟩:=r v e; ⟨w,a,VR.up U b⟩⟩
  | cell c =>
    obtain ⟨ow,n,r⟩:=x
    refine ⟨ow,?_,fun v e=>let ⟨w,a,b⟩:=r v e; ⟨w,a,VR.up U b⟩⟩
    obtain ⟨o,e,d⟩:=n
    exact ⟨o,k o e,d⟩
  | fz c d=>exact zet.upF U x
theorem zet.neP {C:Cfg} {ρ:Ren} {L:Addr→Prop} {h:Heap} {hm:Home} {ov:Option AV} (x:zet C ρ L h hm ov) (ht:∃ ps,h.get? C.P = some (tabObj ps)):hm.addr≠C.P:=by
  intro q
  obtain ⟨ps,ht⟩:=ht
  cases hm with
  | ns a x' =>
    obtain ⟨m,⟨o,es,ep,e,d,_⟩,_⟩:=x
    rw [show a = C.P from q,ht] at e
    cases e; cases d
  | cell c =>
    obtain ⟨ow,⟨o,e,d⟩,_⟩:=x
    rw [show c = C.P from q,ht] at e
    cases e; cases d
  | fz c d=>exact x.1.2.2 q
theorem LR.home {C:Cfg} {G:Addr→Prop} {homes:List Home} {ρ:Ren} {hp:Hp} {loc:Loc} {h:Heap} (R:LR C G homes ρ hp loc h) {hm:Home} (m:hm∈homes):∃ ov,zet C ρ (Own ρ hp G) h hm ov:=by
  obtain ⟨i,hi,e⟩:=List.getElem_of_mem m
  refine ⟨loc[i]'(by rw [R.len]; exact hi),R.at_ i hm _ (by rw [List.getElem?_eq_getElem hi,e]) (by rw [List.getElem?_eq_getElem])⟩
theorem LR.step {C:Cfg} {G X:Addr→Prop} {homes:List Home} {ρ ρ':Ren} {hp hp':Hp} {loc:Loc} {s s':Shared} (R:LR C G homes ρ hp loc s.heap) (W:WR C G ρ hp s)
    (S:Step C G X ρ hp s ρ' hp' s') (hX:∀ b,X b→G b) (hx:∀ hm∈homes,¬ X hm.addr):LR C G homes ρ' hp' loc s'.heap:=by
  refine ⟨R.len,fun i hm ov e1 e2=>?_,R.g,R.nd⟩
  have hh:=R.at_ i hm ov e1 e2
  have hm':=List.mem_of_getElem? e1
  exact hh.up (S.up W hX) fun o e=>S.keep _ o e (fun q=>W.ng _ q (R.g _ hm')) (hh.neP W.tabAt) (hx _ hm')
theorem LR.step0 {C:Cfg} {G:Addr→Prop} {homes:List Home} {ρ ρ':Ren} {hp hp':Hp} {loc:Loc} {s s':Shared} (R:LR C G homes ρ hp loc s.heap) (W:WR C G ρ hp s)
    (S:Step C G (fun _=>False) ρ hp s ρ' hp' s'):LR C G homes ρ' hp' loc s'.heap:=R.step W S (fun _ q=>q.elim) (fun _ _ q=>q)
structure AOk (k:Nat) (A:Around):Prop where
  hd:A.handled = none
  dp:A.depth + k≤690
  un:A.units + 20 * k≤9000
theorem AOk.deeper {k:Nat} {A:Around} (a:AOk (k + 1) A) (env:Env):AOk k (A.deeper env):=⟨a.hd,by have:=a.dp; simp only [Around.deeper]; omega,by have:=a.un; simp only [Around.deeper]; omega⟩
theorem AOk.le {k j:Nat} {A:Around} (a:AOk k A) (h:j≤k):AOk j A:=⟨a.hd,by have:=a.dp; omega,by have:=a.un; omega⟩
theorem AOk.room {k:Nat} {A:Around} (a:AOk k A):A.depth < recursionLimit:=by have:=a.dp; simp only [recursionLimit]; omega
theorem AOk.line {k:Nat} {A:Around} (a:AOk k A):A.units + 100 < cLine:=by have:=a.un; simp only [cLine]; omega
noncomputable def noE:Value→Shared→Prop:=fun _ _=>False
noncomputable abbrev ME:=Loc→Hp→Option (AV × Hp)
noncomputable abbrev MB:=Loc→Hp→Option (Bool × Hp)
noncomputable abbrev MEs:=Loc→Hp→Option (List AV × Hp)
inductive Fl where
  | nx | br | ct
  | rt (v:AV)
noncomputable abbrev MS:=Loc→Hp→Option (Fl × Loc × Hp)
inductive FlR (C:Cfg) (ρ:Ren) (L:Addr→Prop) (h:Heap):Fl→Flow→Prop
  | nx:FlR C ρ L h .nx .next
  | br:FlR C ρ L h .br .brk
  | ct:FlR C ρ L h .ct .cont
  | rt {v:AV} {w:Value}:VR C ρ L h v w→FlR C ρ L h (.rt v) (.ret w)
inductive EPost (C:Cfg) (G:Addr→Prop) (ρ:Ren) (hp:Hp) (s:Shared) (v:AV) (hp':Hp) (w:Value) (s':Shared):Prop
  | mk (ρ':Ren) (a:Step C G (fun _=>False) ρ hp s ρ' hp' s') (b:VR C ρ' (Own ρ' hp' G) s'.heap v w):EPost C G ρ hp s v hp' w s'
inductive BPost (C:Cfg) (G:Addr→Prop) (ρ:Ren) (hp:Hp) (s:Shared) (v:Bool) (hp':Hp) (w:Bool) (s':Shared):Prop
  | mk (ρ':Ren) (a:Step C G (fun _=>False) ρ hp s ρ' hp' s') (b:v = w):BPost C G ρ hp s v hp' w s'
inductive EsPost (C:Cfg) (G:Addr→Prop) (ρ:Ren) (hp:Hp) (s:Shared) (v:List AV) (hp':Hp) (w:List Value) (s':Shared):Prop
  | mk (ρ':Ren) (a:Step C G (fun _=>False) ρ hp s ρ' hp' s') (b:VRs C ρ' (Own ρ' hp' G) s'.heap v w):EsPost C G ρ hp s v hp' w s'
noncomputable def SimE (C:Cfg) (k:Nat) (homes:List Home) (t:Sem Value) (m:ME):Prop :=
  ∀ A G,AOk k A→∀ loc hp v hp',m loc hp = some (v,hp')→∀ ρ s,WR C G ρ hp s→LR C G homes ρ hp loc s.heap→wpAny (model C.prog C.w) A t (EPost C G ρ hp s v hp') noE s
noncomputable def SimB (C:Cfg) (k:Nat) (homes:List Home) (t:Sem Bool) (m:MB):Prop :=
  ∀ A G,AOk k A→∀ loc hp v hp',m loc hp = some (v,hp')→∀ ρ s,WR C G ρ hp s→LR C G homes ρ hp loc s.heap→wpAny (model C.prog C.w) A t (BPost C G ρ hp s v hp') noE s
noncomputable def zhe (C:Cfg) (k:Nat) (homes:List Home) (t:Sem (List Value)) (m:MEs):Prop :=
  ∀ A G,AOk k A→∀ loc hp v hp',m loc hp = some (v,hp')→∀ ρ s,WR C G ρ hp s→LR C G homes ρ hp loc s.heap→wpAny (model C.prog C.w) A t (EsPost C G ρ hp s v hp') noE s
inductive SPost (C:Cfg) (G:Addr→Prop) (homes:List Home) (ρ:Ren) (hp:Hp) (s:Shared) (f:Fl) (loc':Loc) (hp':Hp) (fw:Flow) (s':Shared):Prop
  | mk (ρ':Ren) (a:Step C G (Xh homes) ρ hp s ρ' hp' s') (b:LR C G homes ρ' hp' loc' s'.heap) (c:FlR C ρ' (Own ρ' hp' G) s'.heap f fw):SPost C G homes ρ hp s f loc' hp' fw s'
noncomputable def SimS (C:Cfg) (k:Nat) (homes:List Home) (t:Sem Flow) (m:MS):Prop :=
  ∀ A G,AOk k A→∀ loc hp f loc' hp',m loc hp = some (f,loc',hp')→∀ ρ s,WR C G ρ hp s→LR C G homes ρ hp loc s.heap→wpAny (model C.prog C.w) A t (SPost C G homes ρ hp s f loc' hp') noE s
noncomputable abbrev Fn:=List AV→Hp→Option (AV × Hp)
noncomputable def SimF (C:Cfg) (k:Nat) (f:Value) (m:Fn):Prop :=
  ∀ A G,AOk k A→∀ args hp v hp',m args hp = some (v,hp')→∀ ρ s vs,WR C G ρ hp s→VRs C ρ (Own ρ hp G) s.heap args vs→wpAny (model C.prog C.w) A (call f vs) (EPost C G ρ hp s v hp') noE s
noncomputable def SimO (C:Cfg) (k:Nat) (t:Value→Value→Sem Value) (m:AV→AV→Hp→Option (AV × Hp)):Prop :=
  ∀ A G,AOk k A→∀ x y hp v hp',m x y hp = some (v,hp')→∀ ρ s a b,WR C G ρ hp s→VR C ρ (Own ρ hp G) s.heap x a→VR C ρ (Own ρ hp G) s.heap y b→wpAny (model C.prog C.w) A (t a b) (EPost C G ρ hp s v hp') noE s
noncomputable def SimO1 (C:Cfg) (k:Nat) (t:Value→Sem Value) (m:AV→Hp→Option (AV × Hp)):Prop :=
  ∀ A G,AOk k A→∀ x hp v hp',m x hp = some (v,hp')→∀ ρ s a,WR C G ρ hp s→VR C ρ (Own ρ hp G) s.heap x a→wpAny (model C.prog C.w) A (t a) (EPost C G ρ hp s v hp') noE s
theorem zde {α:Type} {M:Model} {A:Around} {t:Sem α} {Q Q':α→Shared→Prop} {E':Value→Shared→Prop} {s:Shared} (h:wpAny M A t Q noE s) (hQ:∀ a s,Q a s→Q' a s):wpAny M A t Q' E' s :=
  wpAny_mono h hQ fun _ _ e=>e.elim
section
variable {C:Cfg} {G:Addr→Prop} {ρ:Ren} {hp hp':Hp} {s s0:Shared} {M:Model} {A:Around} {E':Value→Shared→Prop} {homes:List Home}
theorem zco {t:Sem Value} {v:AV} {Q:Value→Shared→Prop} (h:wpAny M A t (EPost C G ρ hp s0 v hp') noE s) (k:∀ w s₁ ρ₁,Step C G (fun _=>False) ρ hp s0 ρ₁ hp' s₁→VR C ρ₁ (Own ρ₁ hp' G) s₁.heap v w→Q w s₁):wpAny M A t Q E' s:=zde h fun w s₁ ⟨_,a,b⟩=>k w s₁ _ a b
theorem zmq {t:Sem Bool} {v:Bool} {Q:Bool→Shared→Prop} (h:wpAny M A t (BPost C G ρ hp s0 v hp') noE s) (k:∀ w s₁ ρ₁,Step C G (fun _=>False) ρ hp s0 ρ₁ hp' s₁→v = w→Q w s₁):wpAny M A t Q E' s:=zde h fun w s₁ ⟨_,a,b⟩=>k w s₁ _ a b
theorem zlx {t:Sem (List Value)} {v:List AV} {Q:List Value→Shared→Prop} (h:wpAny M A t (EsPost C G ρ hp s0 v hp') noE s) (k:∀ w s₁ ρ₁,Step C G (fun _=>False) ρ hp s0 ρ₁ hp' s₁→VRs C ρ₁ (Own ρ₁ hp' G) s₁.heap v w→Q w s₁):wpAny M A t Q E' s:=zde h fun w s₁ ⟨_,a,b⟩=>k w s₁ _ a b
theorem zra {t:Sem Flow} {f:Fl} {loc':Loc} {Q:Flow→Shared→Prop} (h:wpAny M A t (SPost C G homes ρ hp s0 f loc' hp') noE s) (k:∀ w s₁ ρ₁,Step C G (Xh homes) ρ hp s0 ρ₁ hp' s₁→LR C G homes ρ₁ hp' loc' s₁.heap→FlR C ρ₁ (Own ρ₁ hp' G) s₁.heap f w→Q w s₁):wpAny M A t Q E' s:=zde h fun w s₁ ⟨_,a,b,c⟩=>k w s₁ _ a b c
end
inductive OR.InstI (C:Cfg) (ρ:Ren) (L:Addr→Prop) (h:Heap) (c:Nat) (fs:List (Option AV)) (m x:Addr):Prop
  | mk (n:Nat) (es:List DictEntry) (a:h.get? m = some (instObj (C.cls c) x)) (b:¬ L m) (d:h.get? x = some (dictOf es n)) (e:zfo (C.fld c) es) (f:zjm es)
    (g:∀ (i:Nat) x f,(C.fld c)[i]? = some x→fs[i]? = some (some f)→FV C ρ L h es x f):OR.InstI C ρ L h c fs m x
section
variable {C:Cfg} {ρ:Ren} {L:Addr→Prop} {h:Heap}
theorem OR.instI {c:Nat} {fs:List (Option AV)} {m x:Addr} (r:OR C ρ L h (.inst c fs) m x):OR.InstI C ρ L h c fs m x:=by cases r with | inst a b c d e f=>exact ⟨_,_,a,b,c,d,e,f⟩
end
theorem noS {α:Type} {a:α} {P:Prop} (e:none = some a):P:=nomatch e
theorem noN {α:Type} {a:α} {P:Prop} (e:some a = none):P:=nomatch e
theorem bR {α γ:Type} {x:Option α} {f:α→Option γ} {r:γ} {R:Prop} (k:∀ a,x = some a→f a = some r→R):x.bind f = some r→R:=by
  cases x with
  | none=>exact noS
  | some p=>exact k p rfl
theorem bpR {α β γ:Type} {x:Option (α × β)} {f:α × β→Option γ} {r:γ} {R:Prop} (k:∀ a b,x = some (a,b)→f (a,b) = some r→R):x.bind f = some r→R:=bR fun p=>k p.1 p.2
theorem btR {α β δ γ:Type} {x:Option (α × β × δ)} {f:α × β × δ→Option γ} {r:γ} {R:Prop} (k:∀ a b c,x = some (a,b,c)→f (a,b,c) = some r→R):x.bind f = some r→R:=bR fun p=>k p.1 p.2.1 p.2.2
theorem mR {α γ:Type} {x:Option α} {f:α→γ} {r:γ} {R:Prop} (k:∀ a,x = some a→f a = r→R):x.map f = some r→R:=by
  cases x with
  | none=>exact noS
  | some p=>exact fun e=>k p rfl (Option.some.inj e)
theorem bE {α β:Type} {x:Option α} {f:α→Option β} {a:α} {r:Option β} (h:x = some a) (h2:f a = r):x.bind f = r:=(congrArg (fun z=>Option.bind z f) h).trans h2
theorem ifR {α:Type} {c:Prop} {d:Decidable c} {a:Option α} {r:α} {R:Prop} (k:c→a = some r→R):(if c then a else none) = some r→R:=by
  cases d with
  | isTrue h=>exact k h
  | isFalse _=>exact noS
theorem zbf {α β:Type} {a x:α} {b y:β} (e:some (a,b) = some (x,y)):a = x∧b = y:=Prod.mk.inj (Option.some.inj e)
theorem zev {α β γ:Type} {a x:α} {b y:β} {c z:γ} (e:some (a,b,c) = some (x,y,z)):a = x∧b = y∧c = z:=by cases e; exact ⟨rfl,rfl,rfl⟩
noncomputable def on1 {γ:Type} (k:AV→Option γ):List AV→Option γ
  | [x]=>k x
  | _=>none
noncomputable def on2 {γ:Type} (k:AV→AV→Option γ):List AV→Option γ
  | [x,y]=>k x y
  | _=>none
noncomputable def onI {γ:Type} (k:Int→Option γ):AV→Option γ
  | .int i=>k i
  | _=>none
noncomputable def onS {γ:Type} (k:List Nat→Option γ):AV→Option γ
  | .str i=>k i
  | _=>none
noncomputable def zn0 {γ:Type} (k:Nat→Option γ):AV→Option γ
  | .loc i=>k i
  | _=>none
noncomputable def zfv {γ:Type} (k:List AV→Option γ):Option AO→Option γ
  | some (.list xs)=>k xs
  | _=>none
noncomputable def zgj {γ:Type} (k:Nat→List (Option AV)→Option γ):Option AO→Option γ
  | some (.inst c fs)=>k c fs
  | _=>none
theorem lE {γ:Type} {k:List AV→Option γ} {o:Option AO} {xs:List AV} {r:Option γ} (h:o = some (.list xs)) (h2:k xs = r):zfv k o = r:=(congrArg (zfv k) h).trans h2
theorem iE {γ:Type} {k:Nat→List (Option AV)→Option γ} {o:Option AO} {c:Nat} {fs:List (Option AV)} {r:Option γ} (h:o = some (.inst c fs)) (h2:k c fs = r):zgj k o = r:=(congrArg (zgj k) h).trans h2
section
variable {C:Cfg} {ρ:Ren} {L:Addr→Prop} {h:Heap} {γ:Type} {r:γ}
theorem zkl {k:Nat→List (Option AV)→Option γ} {R:Prop} {o:Option AO} (H:∀ c fs,o = some (.inst c fs)→k c fs = some r→R):zgj k o = some r→R:=fun e=>by
  cases o with
  | none=>exact noS e
  | some o =>
    cases o with
    | inst c xs=>exact H c xs rfl e
    | _=>exact noS e
theorem on1R {k:AV→Option γ} {args:List AV} {vs:List Value} {P:List Value→Prop} (H:∀ x v,VR C ρ L h x v→k x = some r→P [v]):on1 k args = some r→VRs C ρ L h args vs→P vs:=fun e q=>by
  cases q with
  | nil=>exact noS e
  | cons a b =>
    cases b with
    | nil=>exact H _ _ a e
    | cons _ _=>exact noS e
theorem on2R {k:AV→AV→Option γ} {args:List AV} {vs:List Value} {P:List Value→Prop} (H:∀ x y v w,VR C ρ L h x v→VR C ρ L h y w→k x y = some r→P [v,w]):on2 k args = some r→VRs C ρ L h args vs→P vs:=fun e q=>by
  cases q with
  | nil=>exact noS e
  | cons a b =>
    cases b with
    | nil=>exact noS e
    | cons b c =>
      cases c with
      | nil=>exact H _ _ _ _ a b e
      | cons _ _=>exact noS e
theorem zkj {k:Nat→Option γ} {R:Prop} {x:AV} (H:∀ i,x = .loc i→k i = some r→R):zn0 k x = some r→R:=fun e=>by
  cases (x) with
  | loc i=>exact H i rfl e
  | _=>exact noS e
theorem zkk {k:List AV→Option γ} {R:Prop} {o:Option AO} (H:∀ xs,o = some (.list xs)→k xs = some r→R):zfv k o = some r→R:=fun e=>by
  cases o with
  | none=>exact noS e
  | some o =>
    cases o with
    | list xs=>exact H xs rfl e
    | _=>exact noS e
theorem onIR {k:Int→Option γ} {x:AV} {v:Value} {P:Value→Prop} (H:∀ i t,k i = some r→P (.int i t)) (q:VR C ρ L h x v) (e:onI k x = some r):P v:=by
  cases q with
  | int i t=>exact H i t e
  | _=>exact noS e
theorem onSR {k:List Nat→Option γ} {x:AV} {v:Value} {P:Value→Prop} (H:∀ i t,k i = some r→P (.str ⟨i.toArray⟩ t)) (q:VR C ρ L h x v) (e:onS k x = some r):P v:=by
  cases q with
  | str i t=>exact H i t e
  | _=>exact noS e
end
end Mine
end


section
open PySem PySem.W PyProof.Rows PySem.Calls
namespace Mine
section
variable {C:Cfg} {G X:Addr→Prop} {ρ ρ':Ren} {hp hp':Hp} {s s':Shared}
theorem OR.there {L:Addr→Prop} {h:Heap} {o:AO} {m x:Addr} (r:OR C ρ L h o m x):(∃ ob,h.get? x = some ob)∧∃ ob,h.get? m = some ob :=
  let ⟨⟨a,b,_⟩,c,d,_⟩:=r.at_; ⟨⟨a,b⟩,c,d⟩
theorem WR.lv (W:WR C G ρ hp s) {b:Addr} (q:Lv ρ hp b):∃ o,s.heap.get? b = some o:=by
  obtain ⟨n,m,h1,h2⟩:=q
  obtain ⟨o,e⟩:=Option.ne_none_iff_exists'.mp h1
  obtain ⟨m',x,e2,r⟩:=W.obj n o e
  rw [h2] at e2
  obtain ⟨h1,h2⟩:=zbf e2; clear e2; subst h1 h2
  exact r.there.1
theorem WR.own (W:WR C G ρ hp s) {b:Addr} (q:Own ρ hp G b):∃ o,s.heap.get? b = some o:=q.elim W.lv (W.gt b)
theorem WR.notOwn (W:WR C G ρ hp s):¬ Own ρ hp G s.heap.objs.size:=fun q=>by
  obtain ⟨o,e⟩:=W.own q
  exact Nat.lt_irrefl _ (Heap.lt_size e)
theorem zch {h:Heap}:h.get? h.objs.size = none:=by
  cases e:h.get? h.objs.size with
  | none=>rfl
  | some o=>exact absurd (Heap.lt_size e) (Nat.lt_irrefl _)
theorem Step.push (W:WR C G ρ hp s) (o:Obj) {tk:Nat}:Step C G X ρ hp s ρ hp {s with heap:=s.heap.push o,toks:=tk}:=Step.same W fun _ _ e=>Heap.get?_push_of_some o e
theorem Step.toks (W:WR C G ρ hp s) (tk:Nat):Step C G X ρ hp s ρ hp {s with toks:=tk}:=Step.same W (h':=s.heap) fun _ _ e=>e
theorem zbz (W:WR C G ρ hp s) {v:AV} {w:Value} {tk:Nat} (h:VR C ρ (Own ρ hp G) s.heap v w):EPost C G ρ hp s v hp w {s with toks:=tk}:=⟨ρ,Step.toks W tk,h⟩
theorem zb9 (W:WR C G ρ hp s) {v:AV} {w:Value} (h:VR C ρ (Own ρ hp G) s.heap v w):EPost C G ρ hp s v hp w s:=⟨ρ,Step.refl W,h⟩
theorem upPush (W:WR C G ρ hp s) (o:Obj):Up C ρ ρ (Own ρ hp G) (Own ρ hp G) s.heap (s.heap.push o):=⟨fun _ _ e=>e,fun b _ e _ _=>Heap.get?_push_of_some o e,fun _ q=>.inl q,W.tabAt⟩
end
noncomputable def lcl (i:Nat):ME:=fun loc hp=>loc[i]?.bind fun o=>o.bind fun v=>some (v,hp)
theorem lclR {i:Nat} {loc:Loc} {hp:Hp} {r:AV × Hp} {R:Prop} (k:∀ v,loc[i]? = some (some v)→(v,hp) = r→R):lcl i loc hp = some r→R:=bR fun o e1=>bR fun v e2 e=>k v (e2 ▸ e1) (Option.some.inj e)
noncomputable def cst (v:AV):ME:=fun _ hp=>some (v,hp)
section
variable {C:Cfg} {k:Nat} {env:Env} {homes:List Home}
theorem zaa {x:Str} {pos:Pos} (i:Nat) (hk:env.scope.kind = .function) (hl:env.kindOf x = some .local) (hh:homes[i]? = some (.ns env.locals x)) (hd:(x == ("__debug__" : Str)) = false) :
    SimE C k homes (eval (.Name x pos) env) (lcl i):=by
  intro A G a loc hp v hp' e ρ s W R
  revert e; refine lclR fun v' ev e=>?_
  cases (e)
  obtain ⟨m,n,q⟩:=R.at_ i _ _ hh ev
  obtain ⟨w,e1,r⟩:=q _ rfl
  exact wpAny_Name (wpAny_loadName_local hk hl n e1 (zb9 W r)) hd
theorem zak {x:Str} {pos:Pos} {c:Addr} (i:Nat) (hk:env.scope.kind = .function) (hl:env.kindOf x = some .cell) (hc:env.cells.lookup x = some c) (hh:homes[i]? = some (.cell c)) (hd:(x == ("__debug__" : Str)) = false) :
    SimE C k homes (eval (.Name x pos) env) (lcl i):=by
  intro A G a loc hp v hp' e ρ s W R
  revert e; refine lclR fun v' ev e=>?_
  cases (e)
  obtain ⟨ow,n,q⟩:=R.at_ i _ _ hh ev
  obtain ⟨w,e1,r⟩:=q _ rfl
  subst e1
  exact wpAny_Name (wpAny_loadName_cell hk hl hc n (zb9 W r)) hd
theorem zka {x:Str} {pos:Pos} {c d:Addr} (i:Nat) (hk:env.scope.kind = .function) (hl:env.kindOf x = some .free) (hc:env.cells.lookup x = some c) (hh:homes[i]? = some (.fz c d)) (hd:(x == ("__debug__" : Str)) = false) (hd2:(x == ("__classdict__" : Str)) = false) :
    SimE C k homes (eval (.Name x pos) env) (lcl i):=by
  intro A G a loc hp v hp' e ρ s W R
  revert e; refine lclR fun v' ev e=>?_
  cases (e)
  obtain ⟨_,ow,n,q⟩:=R.at_ i _ _ hh ev
  obtain ⟨w,e1,r⟩:=q _ rfl
  subst e1
  exact wpAny_Name (wpAny_loadName_free hk hl hc n (zb9 W r) hd2) hd
theorem zal {i:Int} {q:Nat} {pos:Pos}:SimE C k homes (eval (.Constant (.int i) q pos) env) (cst (.int i)):=by
  intro A G a loc hp v hp' e ρ s W R
  obtain ⟨h1,h2⟩:=zbf e; clear e; subst h1 h2
  exact wpAny_Constant_int (zbz W (.int _ _))
theorem zds {i:Bool} {q:Nat} {pos:Pos}:SimE C k homes (eval (.Constant (.bool i) q pos) env) (cst (.bool i)):=by
  intro A G a loc hp v hp' e ρ s W R
  obtain ⟨h1,h2⟩:=zbf e; clear e; subst h1 h2
  exact wpAny_Constant_bool (zb9 W (.bool _))
theorem zbc {x:Str} {q:Nat} {pos:Pos} (cs:List Nat) (hx:x.cps.toList = cs):SimE C k homes (eval (.Constant (.str x) q pos) env) (cst (.str cs)):=by
  intro A G a loc hp v hp' e ρ s W R
  obtain ⟨h1,h2⟩:=zbf e; clear e; subst h1 h2
  subst hx
  obtain ⟨⟨l⟩⟩:=x
  exact wpAny_Constant_str (zbz W (.str _ _))
noncomputable def zgp (C:Cfg) (x:Str) (v:Value):Prop:=∃ mg mb,C.base.Ns mainGlobals mg∧C.base.Ns builtinsNs mb∧(mg x = some v∨(mg x = none∧mb x = some v))
theorem zha {x:Str} {v:Value} {pos:Pos} {A:Around} {G:Addr→Prop} {ρ:Ren} {hp:Hp} {s:Shared} {Q:Value→Shared→Prop} {E:Value→Shared→Prop} (W:WR C G ρ hp s) (g:zgp C x v)
    (hk:env.scope.kind = .function) (hl:env.kindOf x = some .globalImplicit) (hg:env.globals = mainGlobals) (hb:env.builtins = builtinsNs) (hd:(x == ("__debug__" : Str)) = false) (h:Q v s) :
    wpAny (model C.prog C.w) A (eval (.Name x pos) env) Q E s:=by
  obtain ⟨mg,mb,n1,n2,q⟩:=g
  have m1:s.heap.Ns env.globals mg:=hg ▸ n1.keeps W.keep
  have m2:s.heap.Ns env.builtins mb:=hb ▸ n2.keeps W.keep
  rcases q with q | ⟨q1,q2⟩
  · exact Name_function_global hk hl (loadGlobal_global m1 q h) hd
  · exact Name_function_global hk hl (loadGlobal_builtin m1 q1 m2 q2 h) hd
noncomputable def bin (op:AV→AV→Hp→Option (AV × Hp)) (m1 m2:ME):ME:=fun loc hp=>do
  let (x,hp) ← m1 loc hp
  let (y,hp) ← m2 loc hp
  op x y hp
noncomputable def una (op:AV→Hp→Option (AV × Hp)) (m1:ME):ME:=fun loc hp=>do
  let (x,hp) ← m1 loc hp
  op x hp
theorem zb3 {G:Addr→Prop} {ρ ρ₁:Ren} {hp hp₁ hp':Hp} {s s₁:Shared} {v:AV} (S:Step C G (fun _=>False) ρ hp s ρ₁ hp₁ s₁) {w:Value} {s':Shared} (h:EPost C G ρ₁ hp₁ s₁ v hp' w s'):EPost C G ρ hp s v hp' w s' :=
  let ⟨ρ',T,r⟩:=h; ⟨ρ',S.trans T,r⟩
theorem two {A:Around} {G:Addr→Prop} {t1 t2:Sem Value} {t:Value→Value→Sem Value} {m1 m2:ME} {op:AV→AV→Hp→Option (AV × Hp)} (a:AOk k A) (h1:SimE C k homes t1 m1) (h2:SimE C k homes t2 m2) (ho:SimO C k t op)
    {loc:Loc} {hp hp':Hp} {v:AV} (e:bin op m1 m2 loc hp = some (v,hp')) {ρ:Ren} {s:Shared} (W:WR C G ρ hp s) (R:LR C G homes ρ hp loc s.heap) :
    wpAny (model C.prog C.w) A t1 (fun x s₁=>wpAny (model C.prog C.w) A t2 (fun y s₂=>wpAny (model C.prog C.w) A (t x y) (EPost C G ρ hp s v hp') noE s₂) noE s₁) noE s:=by
  revert e; refine bpR fun x hp1 e1=>bpR fun y hp2 e2 e3=>?_
  refine zco (h1 A G a loc hp x hp1 e1 ρ s W R) fun xv s₁ ρ₁ S₁ r₁=>?_
  refine zco (h2 A G a loc hp1 y hp2 e2 ρ₁ s₁ S₁.wr (R.step0 W S₁)) fun yv s₂ ρ₂ S₂ r₂=>?_
  refine zde (ho A G a x y hp2 v hp' e3 ρ₂ s₂ xv yv S₂.wr (VR.up (S₂.up S₁.wr fun _ q=>q.elim) r₁) r₂) fun w s₃ h=>zb3 (S₁.trans S₂) h
theorem zat {l r:Expr} {op:Operator} {pos:Pos} {m1 m2:ME} {o:AV→AV→Hp→Option (AV × Hp)} (h1:SimE C k homes (eval l env) m1) (h2:SimE C k homes (eval r env) m2) (ho:SimO C k (binaryOp op) o) :
    SimE C k homes (eval (.BinOp l op r pos) env) (bin o m1 m2):=fun A G a loc hp v hp' e ρ s W R=>wpAny_BinOp (two a h1 h2 ho e W R)
theorem zmk {l r:Expr} {op:CmpOp} {pos:Pos} {m1 m2:ME} {o:AV→AV→Hp→Option (AV × Hp)} (h1:SimE C k homes (eval l env) m1) (h2:SimE C k homes (eval r env) m2) (ho:SimO C k (compareOp op) o)
    (hm:behindInMarks op r = false):SimE C k homes (eval (.Compare l [op] [r] pos) env) (bin o m1 m2):=fun A G a loc hp v hp' e ρ s W R=>wpAny_Compare1 (two a h1 h2 ho e W R) hm
theorem zmj {l:Expr} {op:UnaryOp} {pos:Pos} {m1:ME} {o:AV→Hp→Option (AV × Hp)} (h1:SimE C k homes (eval l env) m1) (ho:SimO1 C k (unaryOp op) o) :
    SimE C k homes (eval (.UnaryOp op l pos) env) (una o m1):=by
  intro A G a loc hp v hp' e ρ s W R
  revert e; refine bpR fun x hp1 e1 e2=>?_
  refine wpAny_UnaryOp (zco (h1 A G a loc hp x hp1 e1 ρ s W R) fun xv s₁ ρ₁ S₁ r₁=>?_)
  exact zde (ho A G a x hp1 v hp' e2 ρ₁ s₁ xv S₁.wr r₁) fun w s₃ h=>zb3 S₁ h
end
noncomputable def zf7 (f:Int→Int→Option AV) (x y:AV) (hp:Hp):Option (AV × Hp):=onI (fun a=>onI (fun b=>(f a b).map (·,hp)) y) x
theorem zmt (f:Int→Int→Option AV) (a b:Int) (hp:Hp):zf7 f (.int a) (.int b) hp = (f a b).map (·,hp):=rfl
noncomputable abbrev subA:=zf7 fun a b=>some (.int (a - b))
noncomputable abbrev fdvA:=zf7 fun a b=>if b = 0∨1000000000≤b.natAbs then none else some (.int (a.fdiv b))
noncomputable abbrev modA:=zf7 fun a b=>if b = 0 then none else some (.int (a.fmod b))
noncomputable abbrev ltA:=zf7 fun a b=>some (.bool (decide (a < b)))
noncomputable abbrev leA:=zf7 fun a b=>some (.bool (decide (a≤b)))
noncomputable abbrev gtA:=zf7 fun a b=>some (.bool (decide (b < a)))
noncomputable abbrev geA:=zf7 fun a b=>some (.bool (decide (b≤a)))
noncomputable abbrev shrA:=zf7 fun a b=>if 0≤b then some (.int (a.fdiv (2 ^ b.toNat))) else none
noncomputable abbrev shlA:=zf7 fun a b=>if 0≤b∧b≤1000∧a.natAbs < 2 ^ 60 then some (.int (a * 2 ^ b.toNat)) else none
noncomputable abbrev powA:=zf7 fun a b=>if 0≤b∧b≤1000∧a.natAbs < 2 ^ 60 then some (.int (a ^ b.toNat)) else none
noncomputable abbrev andA:=zf7 fun a b=>some (.int (Builtin.bitAnd a b))
noncomputable abbrev mulA:=zf7 fun a b=>if a.natAbs < 2 ^ 60∧b.natAbs < 2 ^ 60 then some (.int (a * b)) else none
section
variable {C:Cfg} {k:Nat}
theorem zdk {t:Value→Value→Sem Value} {f:Int→Int→Option AV}
    (h:∀ (A:Around) (a b:Int) (x y:Tok) (v:AV) (s:Shared) (Q:Value→Shared→Prop),f a b = some v→(∀ tk w,(∀ C ρ L h,VR C ρ L h v w)→Q w {s with toks:=tk})→wpAny (model C.prog C.w) A (t (.int a x) (.int b y)) Q noE s) :
    SimO C k t (zf7 f):=by
  intro A G a x y hp v hp' e ρ s xv yv W r1 r2
  apply onIR ?_ r1 e; clear r1 e; intro i t e
  apply onIR ?_ r2 e; clear r2 e; intro j t2; refine mR fun v' e q=>?_
  cases (q)
  exact h A _ _ _ _ v s _ e fun tk w hw=>⟨ρ,Step.toks W tk,hw _ _ _ _⟩
theorem zgt:SimO C k (binaryOp .Sub) subA:=zdk fun A a b x y v s Q e h=>by replace e:=Option.some.inj e; subst e; exact PyProof.Rows.sub_int' (h _ _ fun _ _ _ _=>.int _ _)
theorem zj8:SimO C k (binaryOp .FloorDiv) fdvA:=zdk fun A a b x y v s Q e h=>by
  split at e
  · exact noS e
  · rename_i hb; replace e:=Option.some.inj e; subst e; exact floordiv_int (fun q=>hb (.inl q)) (h _ _ fun _ _ _ _=>.int _ _) (hp:=.inl (PyProof.noPylong_small (by lia)))
theorem zhs:SimO C k (binaryOp .Mod) modA:=zdk fun A a b x y v s Q e h=>by
  split at e
  · exact noS e
  · rename_i hb; replace e:=Option.some.inj e; subst e; exact mod_int' hb (h _ _ fun _ _ _ _=>.int _ _)
theorem zpj:SimO C k (compareOp .Lt) ltA:=zdk fun A a b x y v s Q e h=>by replace e:=Option.some.inj e; subst e; exact PyProof.Rows.lt_int (h s.toks _ fun _ _ _ _=>.bool _)
theorem zxm:SimO C k (compareOp .LtE) leA:=zdk fun A a b x y v s Q e h=>by replace e:=Option.some.inj e; subst e; exact PyProof.Rows.le_int (h s.toks _ fun _ _ _ _=>.bool _)
theorem zsu:SimO C k (compareOp .Gt) gtA:=zdk fun A a b x y v s Q e h=>by replace e:=Option.some.inj e; subst e; exact PyProof.Rows.gt_int (h s.toks _ fun _ _ _ _=>.bool _)
theorem zno:SimO C k (compareOp .GtE) geA:=zdk fun A a b x y v s Q e h=>by replace e:=Option.some.inj e; subst e; exact PyProof.Rows.ge_int (h s.toks _ fun _ _ _ _=>.bool _)
theorem zsr:SimO C k (binaryOp .RShift) shrA:=zdk fun A a b x y v s Q e h=>by
  revert e; refine ifR fun _ e=>?_
  rename_i hb; replace e:=Option.some.inj e; subst e; exact rshift_int hb (h _ _ fun _ _ _ _=>.int _ _)
theorem zos:SimO C k (binaryOp .LShift) shlA:=zdk fun A a b x y v s Q e h=>by
  revert e; refine ifR fun _ e=>?_
  rename_i hb; replace e:=Option.some.inj e; subst e; exact lshift_int_small hb.1 (by lia) (Nat.lt_of_lt_of_le hb.2.2 (by decide)) (h _ _ fun _ _ _ _=>.int _ _)
theorem zym:SimO C k (binaryOp .Pow) powA:=zdk fun A a b x y v s Q e h=>by
  revert e; refine ifR fun _ e=>?_
  rename_i hb; replace e:=Option.some.inj e; subst e; exact pow_int_small hb.1 (by lia) (Nat.lt_of_lt_of_le hb.2.2 (by decide)) (h _ _ fun _ _ _ _=>.int _ _)
theorem zyn:SimO C k (binaryOp .BitAnd) andA:=zdk fun A a b x y v s Q e h=>by replace e:=Option.some.inj e; subst e; exact and_int (h _ _ fun _ _ _ _=>.int _ _)
theorem zmf:SimO C k (binaryOp .Mult) mulA:=zdk fun A a b x y v s Q e h=>by
  revert e; refine ifR fun _ e=>?_
  rename_i hb; replace e:=Option.some.inj e; subst e; exact PyProof.Rows.mul_int (h _ _ fun _ _ _ _=>.int _ _) (hm:=.of_left (intBits_le_64 (by lia) (by lia)))
end
end Mine
end
section
open PySem PySem.W PyProof.Rows PySem.Calls PySem.SeqAt
namespace Mine
mutual
noncomputable def toPy:AV→Option PyData
  | .none=>some .none
  | .bool b=>some (.bool b)
  | .int i=>some (.int i)
  | .str cs=>if cs.all (· < 0x110000) then some (.str ⟨cs.toArray⟩) else none
  | .tup xs=>(zg5 xs).map .tuple
  | .fl xs=>(zg5 xs).map .list
  | _=>none
noncomputable def zg5:List AV→Option (List PyData)
  | []=>some []
  | x ::xs=>do
    let d ← toPy x
    let ds ← zg5 xs
    some (d ::ds)
end
theorem zez (i:Int):toPy (.int i) = some (.int i):=rfl
theorem ze1 (b:Bool):toPy (.bool b) = some (.bool b):=rfl
theorem zey (cs:List Nat):toPy (.str cs) = if cs.all (· < 0x110000) then some (.str ⟨cs.toArray⟩) else none:=rfl
theorem zex (xs:List AV):toPy (.tup xs) = (zg5 xs).map .tuple:=rfl
theorem ze0 (xs:List AV):toPy (.fl xs) = (zg5 xs).map .list:=rfl
theorem zi4:zg5 [] = some []:=rfl
theorem zi5 (x:AV) (xs:List AV):zg5 (x ::xs) = (toPy x).bind fun d=>(zg5 xs).bind fun ds=>some (d ::ds):=rfl
theorem zdl {C:Cfg} {ρ:Ren} {L:Addr→Prop} {h:Heap} {x:AV} {v:Value} {d:PyData} (e:toPy x = some d) (r:VR C ρ L h x v):(∃ as,Reads h v d as)∧d.canLay0 = true :=
  VR.rec (motive_1:=fun x v _=>∀ d,toPy x = some d→(∃ as,Reads h v d as)∧d.canLay0 = true) (motive_2:=fun xs vs _=>∀ ds,zg5 xs = some ds→(∃ as,ReadsAll h vs ds as)∧PyData.canLayAll0 ds = true)
    (fun _ e=>(Option.some.inj e) ▸ ⟨⟨_,.none⟩,rfl⟩) (fun b _ e=>(Option.some.inj e) ▸ ⟨⟨_,.bool b⟩,rfl⟩) (fun i t _ e=>(Option.some.inj e) ▸ ⟨⟨_,.int i t⟩,rfl⟩)
    (fun cs t _ e=>by
      replace e:ite _ _ _ = _:=e
      by_cases hc:cs.all (· < 0x110000) = true
      · rw [if_pos hc] at e
        exact (Option.some.inj e) ▸ ⟨⟨_,.str _ t⟩,by simpa [PyData.canLay0,PyData.strOk] using hc⟩
      · rw [if_neg hc] at e; exact nomatch e)
    (fun a _ _ ih _ e=>by
      obtain ⟨ds,e,e2⟩:=Option.map_eq_some_iff.mp e
      obtain ⟨⟨as,q⟩,c⟩:=ih _ e
      exact e2 ▸ ⟨⟨as,reads_tuple_at a rfl rfl (by simpa using q)⟩,c⟩)
    (fun a _ _ ih _ e=>by
      obtain ⟨ds,e,e2⟩:=Option.map_eq_some_iff.mp e
      obtain ⟨⟨as,q⟩,c⟩:=ih _ e
      exact e2 ▸ ⟨⟨_,reads_list_at a rfl rfl (by simpa using q)⟩,c⟩)
    (fun _ _ _ e=>nomatch e) (fun _ _ e=>nomatch e) (fun _ _ e=>nomatch e) (fun _ _ _ _ _ _ _ _ _ e=>nomatch e) (fun _ _ _ _ e=>nomatch e)
    (fun _ e=>(Option.some.inj e) ▸ ⟨⟨_,.nil⟩,rfl⟩)
    (fun _ _ iha ihr _ e=>by
      obtain ⟨d,e1,e⟩:=Option.bind_eq_some_iff.mp e
      obtain ⟨ds,e2,e3⟩:=Option.bind_eq_some_iff.mp e
      obtain ⟨⟨as,q⟩,c⟩:=iha _ e1
      obtain ⟨⟨bs,p⟩,c2⟩:=ihr _ e2
      exact (Option.some.inj e3) ▸ ⟨⟨_,.cons q p⟩,by simp [PyData.canLayAll0,c,c2]⟩) r d e
noncomputable def eqB (x y:AV):Option Bool:=do
  let a ← toPy x
  let b ← toPy y
  if a.depth≤60 then some (PyData.eqv a b) else none
noncomputable def eqA (x y:AV) (hp:Hp):Option (AV × Hp):=(eqB x y).map fun b=>(.bool b,hp)
noncomputable def neA (x y:AV) (hp:Hp):Option (AV × Hp):=(eqB x y).map fun b=>(.bool !b,hp)
noncomputable def inB (x c:AV):Option Bool:=match c with
  | .fl ys=>do
    let d ← toPy x
    let ds ← zg5 ys
    if d.depth≤60 then some (ds.any fun y=>PyData.eqv y d) else none
  | .str cs=>onS (fun l=>match l with
    | [c]=>some (decide (c∈cs))
    | _=>none) x
  | _=>none
noncomputable def inA (x c:AV) (hp:Hp):Option (AV × Hp):=(inB x c).map fun b=>(.bool b,hp)
noncomputable def niA (x c:AV) (hp:Hp):Option (AV × Hp):=(inB x c).map fun b=>(.bool !b,hp)
noncomputable def zc0 (hp:Hp) (x:AV):Option (List AV):=match x with
  | .fl xs=>some xs
  | .loc n=>zfv some (hp.H n)
  | _=>none
theorem zwq (hp:Hp) (xs:List AV):zc0 hp (.fl xs) = some xs:=rfl
theorem itemsL_l (hp:Hp) (n:Nat):zc0 hp (.loc n) = zfv some (hp.H n):=rfl
theorem onList_e {γ:Type} (k:List AV→Option γ) (xs:List AV):zfv k (some (.list xs)) = k xs:=rfl
noncomputable def onT {γ:Type} (k:List AV→Option γ):AV→Option γ
  | .tup i=>k i
  | _=>none
theorem onTR {C:Cfg} {ρ:Ren} {L:Addr→Prop} {h:Heap} {γ:Type} {r:γ} {k:List AV→Option γ} {x:AV} {v:Value} {P:Value→Prop} (H:∀ xs a n vs,h.get? a = some ({cls:=.type "tuple",data:=.seq vs.toArray n}:Obj)→¬ L a→VRs C ρ L h xs vs→k xs = some r→P (.ref a)) (q:VR C ρ L h x v) (e:onT k x = some r):P v:=by
  cases q with
  | tup a b c=>exact H _ _ _ _ a b c e
  | _=>exact noS e
noncomputable def addA (x y:AV) (hp:Hp):Option (AV × Hp):=match x with
  | .int a=>onI (fun b=>some (.int (a + b),hp)) y
  | .str a=>onS (fun b=>if a.length + b.length≤1000000 then some (.str (a++b),hp) else none) y
  | .tup a=>onT (fun b=>if a.length + b.length≤1000000 then some (.tup (a++b),hp) else none) y
  | _=>none
theorem addA_i (a b:Int) (hp:Hp):addA (.int a) (.int b) hp = some (.int (a + b),hp):=rfl
theorem zx3 (a b:List Nat) (hp:Hp):addA (.str a) (.str b) hp = if a.length + b.length≤1000000 then some (.str (a++b),hp) else none:=rfl
noncomputable def negA (x:AV) (hp:Hp):Option (AV × Hp):=onI (fun a=>some (.int (-a),hp)) x
section
variable {C:Cfg} {k:Nat} {env:Env} {homes:List Home}
theorem zel:SimO C k (compareOp .Eq) eqA:=by
  intro A G a x y hp v hp' e ρ s xv yv W r1 r2
  revert e; refine mR fun b e q=>?_
  cases (q)
  revert e; refine bR fun da e1=>bR fun db e2 e3=>?_
  obtain ⟨⟨as,ra⟩,ca⟩:=zdl e1 r1
  obtain ⟨⟨bs,rb⟩,cb⟩:=zdl e2 r2
  revert e3; refine ifR fun _ e3=>?_
  rename_i hd
  replace e3:=Option.some.inj e3; subst e3
  exact compareEq_reads ra rb ca cb (by have:=a.line; have:=Nat.min_le_left da.depth db.depth; lia) (zb9 W (.bool _))
theorem zf4:SimO C k (compareOp .NotEq) neA:=by
  intro A G a x y hp v hp' e ρ s xv yv W r1 r2
  revert e; refine mR fun b e q=>?_
  cases (q)
  revert e; refine bR fun da e1=>bR fun db e2 e3=>?_
  obtain ⟨⟨as,ra⟩,ca⟩:=zdl e1 r1
  obtain ⟨⟨bs,rb⟩,cb⟩:=zdl e2 r2
  revert e3; refine ifR fun _ e3=>?_
  rename_i hd
  replace e3:=Option.some.inj e3; subst e3
  exact compareNe_reads ra rb ca cb (by have:=a.line; have:=Nat.min_le_left da.depth db.depth; lia) (zb9 W (.bool _))
theorem zn7 {x c:AV} {b:Bool} (e:inB x c = some b):(∃ ys d ds,c = .fl ys∧toPy x = some d∧zg5 ys = some ds∧d.depth≤60∧b = ds.any fun y=>PyData.eqv y d)∨∃ ch cs,x = .str [ch]∧c = .str cs∧b = decide (ch∈cs):=by
  cases (c) with
  | fl ys =>
    revert e; refine bR fun d e1=>bR fun ds e2=>ifR fun hd e3=>?_
    replace e3:=Option.some.inj e3; subst e3; exact .inl ⟨_,d,ds,rfl,e1,e2,hd,rfl⟩
  | str cs =>
    cases (x) with
    | str l =>
      rcases l with _ | ⟨ch,_ | ⟨_,_⟩⟩
      · exact noS e
      · replace e:=Option.some.inj e; subst e; exact .inr ⟨_,_,rfl,rfl,rfl⟩
      · exact noS e
    | _=>exact noS e
  | _=>exact noS e
theorem zpl:SimO C k (compareOp .In) inA:=by
  intro A G a x y hp v hp' e ρ s xv yv W r1 r2
  revert e; refine mR fun b e q=>?_
  cases (q)
  rcases zn7 e with ⟨ys,d,ds,rfl,e1,e2,hd,rfl⟩ | ⟨ch,cs,rfl,rfl,rfl⟩
  · obtain ⟨⟨as,ra⟩,ca⟩:=zdl e1 r1
    obtain ⟨⟨bs,rb⟩,cb⟩:=zdl (d:=.list ds) (by simp [zez,ze1,zey,zex,ze0,e2]) r2
    exact in_list_reads rb ra (by simpa [PyData.canLay0] using cb) ca (by have:=a.line; have:=Nat.min_le_right (PyData.depthAll ds) d.depth; lia) (zb9 W (.bool _))
  · replace r1:=VR.strI r1; rcases r1 with ⟨_⟩; replace r2:=VR.strI r2; rcases r2 with ⟨_⟩
    exact P.in_str (by rw [StrLaws.found_one]; exact zb9 W (.bool _))
theorem zxl:SimO C k (compareOp .NotIn) niA:=by
  intro A G a x y hp v hp' e ρ s xv yv W r1 r2
  revert e; refine mR fun b e q=>?_
  cases (q)
  rcases zn7 e with ⟨ys,d,ds,rfl,e1,e2,hd,rfl⟩ | ⟨ch,cs,rfl,rfl,rfl⟩
  · obtain ⟨⟨as,ra⟩,ca⟩:=zdl e1 r1
    obtain ⟨⟨bs,rb⟩,cb⟩:=zdl (d:=.list ds) (by simp [zez,ze1,zey,zex,ze0,e2]) r2
    exact notIn_list_reads rb ra (by simpa [PyData.canLay0] using cb) ca (by have:=a.line; have:=Nat.min_le_right (PyData.depthAll ds) d.depth; lia) (zb9 W (.bool _))
  · replace r1:=VR.strI r1; rcases r1 with ⟨_⟩; replace r2:=VR.strI r2; rcases r2 with ⟨_⟩
    exact P.notIn_str (by rw [StrLaws.found_one]; exact zb9 W (.bool _))
theorem zot:SimO1 C k (unaryOp .USub) negA:=by
  intro A G a x hp v hp' e ρ s xv W r
  apply onIR ?_ r e; clear r e; intro i t e
  obtain ⟨h1,h2⟩:=zbf e; clear e; subst h1 h2
  exact PyProof.Rows.neg_int (zbz W (.int _ _))
theorem zi9 {G:Addr→Prop} {ρ:Ren} {hp:Hp} {s:Shared} {v:AV} (W:WR C G ρ hp s) (o:Obj) (h:VR C ρ (Own ρ hp G) (s.heap.push o) v (.ref s.heap.objs.size)):EPost C G ρ hp s v hp (.ref s.heap.objs.size) {s with heap:=s.heap.push o} :=
  ⟨ρ,Step.push W o,h⟩
theorem zj2 {G:Addr→Prop} {ρ:Ren} {hp:Hp} {s:Shared} {xs:List AV} {vs:List Value} (W:WR C G ρ hp s) (r:VRs C ρ (Own ρ hp G) s.heap xs vs) :
    VR C ρ (Own ρ hp G) (s.heap.push {cls:=.type "tuple",data:=.seq vs.toArray}) (.tup xs) (.ref s.heap.objs.size) :=
  .tup (n:=0) (Heap.get?_push_size _ rfl) W.notOwn (VRs.up (upPush W _) r)
theorem zhr {n:Nat} (h:n≤1000000):n≤sizeLine:=Nat.le_trans h (by rw [sizeLine_eq]; decide)
theorem zna {A:Around} {E:Value→Shared→Prop} {s:Shared} {t b:Addr} {xs ys:List Value} {n m:Nat} {Q:Value→Shared→Prop} (ht:IsT s.heap t xs.toArray n) (hb:IsT s.heap b ys.toArray m) (hz:xs.length + ys.length≤1000000)
    (h1:ys = []→Q (.ref t) s) (h2:xs = []→Q (.ref b) s) (h3:Q (.ref s.heap.objs.size) {s with heap:=s.heap.push {cls:=.type "tuple",data:=.seq (xs++ys).toArray}}):wpAny (model C.prog C.w) A (binaryOp .Add (.ref t) (.ref b)) Q E s:=by
  by_cases hx:xs = []
  · exact concat_meets ⟨_,ht,rfl⟩ ⟨_,hb,rfl⟩ noFill_tuple_add seq_tuple_add F.slot_tuple_add F.entry_tuple_add (F.args_tuple_add_2 _ _) (AutoSeq1.tuple___add___tuple_tuple_0 t _ n b _ m (by simp [hx])) ⟨ht,hb,h2 hx⟩
  · by_cases hy:ys = []
    · exact concat_meets ⟨_,ht,rfl⟩ ⟨_,hb,rfl⟩ noFill_tuple_add seq_tuple_add F.slot_tuple_add F.entry_tuple_add (F.args_tuple_add_2 _ _) (AutoSeq1.tuple___add___tuple_tuple_1 t _ n b _ m (by simpa using hx) (by simp [hy])) ⟨ht,hb,h1 hy⟩
    · exact P.add_tuple ht hb (by simpa using hx) (by simpa using hy) (by simpa using h3) (hsz:=by simpa using zhr hz)
theorem zhg (p q:List Nat):(⟨p.toArray⟩:Str)++⟨q.toArray⟩ = ⟨(p++q).toArray⟩:=by
  show (⟨p.toArray++q.toArray⟩:Str) = _
  rw [List.append_toArray]
theorem zbi:SimO C k (binaryOp .Add) addA:=by
  intro A G a x y hp v hp' e ρ s xv yv W r1 r2
  cases (x) with
  | int i =>
    replace r1:=VR.intI r1; rcases r1 with ⟨_⟩; apply onIR ?_ r2 e; clear r2 e; intro j t e
    obtain ⟨h1,h2⟩:=zbf e; clear e; subst h1 h2
    exact PyProof.Rows.add_int (zbz W (.int _ _))
  | str i =>
    replace r1:=VR.strI r1; rcases r1 with ⟨_⟩; apply onSR ?_ r2 e; clear r2 e; intro j t; refine ifR fun hz e=>?_
    obtain ⟨h1,h2⟩:=zbf e; clear e; subst h1 h2
    refine PyProof.Rows.add_str (fun t' tk=>?_) (hsz:=by simpa [Str.length] using zhr hz)
    refine zbz W ?_
    rw [zhg]
    exact .str _ _
  | tup xs =>
    replace r1:=Mine.VR.tupI r1; obtain ⟨_,_,_,e1,n1,r1⟩:=r1
    apply onTR ?_ r2 e; clear r2 e; intro ys b n ws e2 n2 r2; refine ifR fun hz e=>?_
    obtain ⟨h1,h2⟩:=zbf e; clear e; subst h1 h2
    refine zna e1 e2 (by rw [← r1.length,← r2.length]; exact hz) (fun q=>?_) (fun q=>?_) ?_
    · subst q; cases (r2)
      rw [List.append_nil]
      exact zb9 W (.tup e1 n1 r1)
    · subst q; cases (r1)
      exact zb9 W (.tup e2 n2 r2)
    · exact zi9 W _ (zj2 W (r1.append r2))
  | _=>exact noS e
end
open AutoSeq1 (wpAny_loadPart')
noncomputable def LtAt (A:Around) (s:Shared) (y x:Value) (b:Bool):Prop :=
  ∀ (prog:Program) (w:World) (E:Value→Shared→Prop) (Q:Value→Shared→Prop),Q (.bool b) s→wpAny (model prog w) A (richCompare .Lt y x) Q E s
inductive TL (A:Around) (s:Shared):List Value→List Value→Bool→Prop
  | nil (ys:List Value):TL A s [] ys (!ys.isEmpty)
  | nilr (x:Value) (xs:List Value):TL A s (x ::xs) [] false
  | eq {x y:Value} {xs ys:List Value} {r:Bool}:EqAt A s x y true→TL A s xs ys r→TL A s (x ::xs) (y ::ys) r
  | ne {x y:Value} {xs ys:List Value} {r:Bool}:EqAt A s x y false→LtAt A s x y r→TL A s (x ::xs) (y ::ys) r
theorem zqm (l b:Addr) (items items2:Array Value) (n n2:Nat) (r:Bool) :
    Meets (Builtin.«tuple.__lt__» ⟨[.ref l,.ref b],[]⟩)
      (fun A R s=>s.heap.get? l = some {cls:=.type "tuple",dict:=none,data:=.seq items n,slots:=#[]}∧s.heap.get? b = some {cls:=.type "tuple",dict:=none,data:=.seq items2 n2,slots:=#[]}∧
        TL A.in1 s items.toList items2.toList r∧R (.ok (.ret (.bool r))) s) :=
  .of_wp fun prog w A R s h=>by
    obtain ⟨hp,g,d,tk,os⟩:=s; obtain ⟨hl,hb,he,h⟩:=h
    have f2:=AutoSeq1.sub_tuple_tuple
    wp_walk using wpAny_loadPart' hl,wpAny_loadPart' hb,wpAny_forIn_list _ (fun rest b s'=>b.1 = none∧s' = ⟨hp,g,d,tk,os⟩∧∃ xs ys,rest = List.zip xs ys∧TL A.in1 ⟨hp,g,d,tk,os⟩ xs ys r∧items.size + ys.length = items2.size + xs.length) _
    case turn =>
      rintro ⟨y,x⟩ rest b s' ⟨hb',rfl,xs,ys,hz,hT,hsz⟩
      cases hT with
      | nil=>simp at hz
      | nilr=>simp at hz
      | eq q t =>
        simp only [List.zip_cons_cons,List.cons.injEq,Prod.mk.injEq] at hz
        obtain ⟨⟨rfl,rfl⟩,rfl⟩:=hz
        refine wpAny_bind (q prog w _ _ ?_)
        wp_walk
        exact ⟨rfl,rfl,_,_,rfl,t,by simp only [List.length_cons] at hsz; lia⟩
      | ne q t =>
        simp only [List.zip_cons_cons,List.cons.injEq,Prod.mk.injEq] at hz
        obtain ⟨⟨rfl,rfl⟩,rfl⟩:=hz
        refine wpAny_bind (q prog w _ _ ?_)
        have t':∀ (E:Value→Shared→Prop) (Q:Value→Shared→Prop),Q (.bool r) ⟨hp,g,d,tk,os⟩→wpAny (model prog w) A.in1 (richCompare .Lt y x) Q E ⟨hp,g,d,tk,os⟩:=fun E Q=>t prog w E Q
        wp_walk using t'
        exact ⟨_,rfl,h⟩
    case fin =>
      rintro ⟨b1,b2⟩ s' ⟨hb',rfl,xs,ys,hz,hT,hsz⟩
      simp only at hb'
      subst hb'
      wp_walk
      refine ⟨_,rfl,?_⟩
      have:Builtin.Tuple.tupleCompareSizes .Lt items.size items2.size = .bool r:=by
        simp only [Builtin.Tuple.tupleCompareSizes]
        cases hT with
        | nil =>
          cases ys with
          | nil=>simp at hsz ⊢; lia
          | cons=>simp at hsz ⊢; lia
        | nilr=>simp at hsz ⊢; lia
        | eq=>simp at hz
        | ne=>simp at hz
      rw [this]; exact h
    case h =>
      exact ⟨rfl,rfl,_,_,rfl,he,by simp; lia⟩
mutual
noncomputable def ltV:AV→AV→Option Bool
  | .int a,.int b=>some (decide (a < b))
  | .tup xs,.tup ys=>ltVs xs ys
  | _,_=>none
noncomputable def ltVs:List AV→List AV→Option Bool
  | [],ys=>some (!ys.isEmpty)
  | _ ::_,[]=>some false
  | x ::xs,y ::ys=>do
    let a ← toPy x
    let b ← toPy y
    if a.depth≤60 then
      if PyData.eqv a b then ltVs xs ys else ltV x y
    else none
end
theorem zt2 (a b:Int):ltV (.int a) (.int b) = some (decide (a < b)):=rfl
theorem zt1 (xs ys:List AV):ltV (.tup xs) (.tup ys) = ltVs xs ys:=rfl
theorem zxw (ys:List AV):ltVs [] ys = some (!ys.isEmpty):=rfl
theorem zt0 (x:AV) (xs:List AV):ltVs (x ::xs) [] = some false:=rfl
theorem zp2 (x y:AV) (xs ys:List AV):ltVs (x ::xs) (y ::ys) = (toPy x).bind fun a=>(toPy y).bind fun b=>if a.depth≤60 then if PyData.eqv a b then ltVs xs ys else ltV x y else none:=rfl
noncomputable def zlb:Nat→AV→Bool
  | 0,_=>false
  | _ + 1,.int _=>true
  | n + 1,.tup xs=>xs.all (zlb n)
  | _,_=>false
noncomputable def ltT (x y:AV) (hp:Hp):Option (AV × Hp):=if zlb 8 x then (ltV x y).map fun b=>(.bool b,hp) else none
section
variable {C:Cfg} {ρ:Ren} {L:Addr→Prop}
theorem zwh {A:Around} {s:Shared} {a b:Int} {t u:Tok}:LtAt A s (.int a t) (.int b u) (decide (a < b)):=fun prog w E Q h=>PyProof.Rows.lt_int h
theorem zwg {s:Shared} {n:Nat} {A:Around} {xs ys:List AV} {v w:Value} {b:Bool}
    (IH:∀ {x y:AV} {v w:Value},zlb n x = true→ltV x y = some b→VR C ρ L s.heap x v→VR C ρ L s.heap y w→LtAt A.in1 s v w b)
    (hu:A.units + (n + 1) + 64 < cLine) (d:xs.all (zlb n) = true) (e:ltVs xs ys = some b) (r1:VR C ρ L s.heap (.tup xs) v) (r2:VR C ρ L s.heap (.tup ys) w):LtAt A s v w b:=by
  replace r1:=r1.tupI; obtain ⟨a1,m1,vs,e1,n1,r1⟩:=r1
  replace r2:=r2.tupI; obtain ⟨a2,m2,ws,e2,n2,r2⟩:=r2
  have key:∀ (xs ys:List AV) (vs ws:List Value),xs.all (zlb n) = true→ltVs xs ys = some b→VRs C ρ L s.heap xs vs→VRs C ρ L s.heap ys ws→TL A.in1 s vs ws b:=by
    intro xs
    induction xs with
    | nil =>
      intro ys vs ws _ e r1 r2
      simp only [zxw,zt0,zp2] at e
      replace e:=Option.some.inj e; subst e
      replace r1:=VRs.nilI r1; subst r1
      have:ys.isEmpty = ws.isEmpty:=by cases (r2) <;> rfl
      rw [this]
      exact .nil _
    | cons x xs ih =>
      intro ys vs ws hd e r1 r2
      replace r1:=Mine.VRs.consI r1; obtain ⟨_,_,a1,r1⟩:=r1
      cases r2 with
      | nil=>rw [zt0] at e; replace e:=Option.some.inj e; subst e; exact .nilr _ _
      | cons a2 r2 =>
        revert e; refine bR fun da q1=>bR fun db q2 e=>?_
        obtain ⟨⟨as,ra⟩,ca⟩:=zdl q1 a1
        obtain ⟨⟨bs,rb⟩,cb⟩:=zdl q2 a2
        simp only [List.all_cons,Bool.and_eq_true] at hd
        revert e; refine ifR fun _ e=>?_
        rename_i hdep
        have E:=eqAt_reads da db A.in1 s _ _ as bs ra rb ca cb (by show A.units + 1 + _ < _; have:=Nat.min_le_left da.depth db.depth; lia)
        split at e
        · rename_i hq; rw [hq] at E; exact .eq E (ih _ _ _ hd.2 e r1 r2)
        · rename_i hq
          rw [Bool.not_eq_true] at hq
          rw [hq] at E
          exact .ne E (IH hd.1 e a1 a2)
  intro prog w E Q h
  refine richCompare_meets_room (op:=.Lt) ⟨_,e1,rfl⟩ ⟨_,e2,rfl⟩ F.slot_tuple_lt F.entry_tuple_lt (F.args_tuple_lt_2 _ _) (zqm a1 a2 vs.toArray ws.toArray m1 m2 b) ⟨e1,e2,by simpa using key xs ys vs ws d e r1 r2,?_⟩ (by lia)
  exact ⟨(fun x=>nomatch x),h⟩
theorem zzf {s:Shared}:∀ (n:Nat) (A:Around) {x y:AV} {v w:Value} {b:Bool},A.units + n + 64 < cLine→zlb n x = true→ltV x y = some b→VR C ρ L s.heap x v→VR C ρ L s.heap y w→LtAt A s v w b:=by
  intro n
  induction n with
  | zero=>exact fun _ _ _ _ _ _ _ d=>nomatch d
  | succ n ih =>
    intro A x y v w b hu d e r1 r2
    cases (x) with
    | int a=>cases (y) with
      | int b=>replace e:=Option.some.inj e; subst e; replace r1:=VR.intI r1; rcases r1 with ⟨_⟩; replace r2:=VR.intI r2; rcases r2 with ⟨_⟩; exact zwh
      | _=>exact noS e
    | tup xs=>cases (y) with
      | tup ys=>exact zwg (fun hx e r1 r2=>ih A.in1 (by show A.units + 1 + n + 64 < cLine; lia) hx e r1 r2) hu d e r1 r2
      | _=>exact noS e
    | _=>exact noS e
theorem zst {k:Nat}:SimO C k (compareOp .Lt) ltT:=by
  intro A G a x y hp v hp' e ρ s xv yv W r1 r2
  unfold ltT at e
  revert e; refine ifR fun _ e=>?_
  rename_i hd
  revert e; refine mR fun b e q=>?_
  cases (q)
  exact zzf 8 A (by have:=a.line; lia) hd e r1 r2 C.prog C.w _ _ (zb9 W (.bool _))
end
noncomputable def truA (hp:Hp):AV→Option Bool
  | .bool b=>some b
  | .int i=>some (i != 0)
  | x=>(zc0 hp x).bind fun xs=>if xs.length≤1000000 then some (!xs.isEmpty) else none
section
variable {C:Cfg} {k:Nat} {env:Env} {homes:List Home}
inductive ItemsAt (C:Cfg) (G:Addr→Prop) (ρ:Ren) (hp:Hp) (s:Shared) (xs:List AV):Value→Prop
  | mk (a:Addr) (vs:List Value) (n:Nat) (e:s.heap.get? a = some (listOf vs.toArray n)) (r:VRs C ρ (Own ρ hp G) s.heap xs vs):ItemsAt C G ρ hp s xs (.ref a)
theorem zcp {G:Addr→Prop} {ρ:Ren} {hp:Hp} {s:Shared} {x:AV} {v:Value} {xs:List AV} (W:WR C G ρ hp s) (e:zc0 hp x = some xs) (r:VR C ρ (Own ρ hp G) s.heap x v) :
    ItemsAt C G ρ hp s xs v:=by
  cases (x) with
  | fl ys =>
    replace e:=Option.some.inj e; subst e
    cases r with | fl e1 n1 r=>exact ⟨_,_,_,e1,r⟩
  | loc n =>
    revert e; refine zkk fun xs' eh e=>?_
    replace e:=Option.some.inj e; subst e
    replace r:=Mine.VR.locI r; obtain ⟨_,_,er⟩:=r
    obtain ⟨m,x,e2,o⟩:=W.obj _ _ eh
    rw [er] at e2
    obtain ⟨h1,h2⟩:=zbf e2; clear e2; subst h1 h2
    cases o with | list e1 r=>exact ⟨_,_,_,e1,r⟩
  | _=>exact noS e
theorem zry {A:Around} {G:Addr→Prop} {ρ:Ren} {hp:Hp} {s:Shared} {x:AV} {v:Value} {b:Bool} {E:Value→Shared→Prop} {Q:Bool→Shared→Prop} (W:WR C G ρ hp s) (e:truA hp x = some b) (r:VR C ρ (Own ρ hp G) s.heap x v)
    (h:∀ tk,Q b {s with toks:=tk}):wpAny (model C.prog C.w) A (truthy v) Q E s:=by
  have key:(zc0 hp x).bind (fun xs=>if xs.length≤1000000 then some (!xs.isEmpty) else none) = some b→wpAny (model C.prog C.w) A (truthy v) Q E s:=bR fun xs e1=>ifR fun hz e2=>by
    replace e2:=Option.some.inj e2; subst e2
    obtain ⟨a,vs,n,e3,r'⟩:=zcp W e1 r
    have hl:=r'.length
    refine wpAny_truthy_list (items:=vs.toArray) ⟨_,e3,rfl,n,rfl⟩ (by simp; lia) ?_
    have:(!vs.toArray.isEmpty) = !xs.isEmpty:=by cases (r') <;> rfl
    rw [this]; exact h _
  cases (x) with
  | bool i=>replace e:=Option.some.inj e; subst e; replace r:=VR.boolI r; subst r; exact wpAny_truthy_bool (h s.toks)
  | int i=>replace e:=Option.some.inj e; subst e; replace r:=VR.intI r; rcases r with ⟨_⟩; exact PyProof.Rows.truthy_int (h s.toks)
  | _=>exact key e
noncomputable def tru (m:ME):MB:=fun loc hp=>do
  let (x,hp) ← m loc hp
  let b ← truA hp x
  some (b,hp)
noncomputable def notB (m:MB):MB:=fun loc hp=>do
  let (b,hp) ← m loc hp
  some (!b,hp)
noncomputable def andB (m:MB) (r:MB):MB:=fun loc hp=>do
  let (b,hp) ← m loc hp
  if b then r loc hp else some (false,hp)
noncomputable def orB (m:MB) (r:MB):MB:=fun loc hp=>do
  let (b,hp) ← m loc hp
  if b then some (true,hp) else r loc hp
noncomputable def cstB (b:Bool):MB:=fun _ hp=>some (b,hp)
theorem tru_of {A:Around} {G:Addr→Prop} {t:Sem Value} {m:ME} {loc:Loc} {hp hp':Hp} {b:Bool} {ρ:Ren} {s:Shared} (h:SimE C k homes t m) (a:AOk k A) (e:tru m loc hp = some (b,hp')) (W:WR C G ρ hp s) (R:LR C G homes ρ hp loc s.heap) :
    wpAny (model C.prog C.w) A t (fun v s₁=>wpAny (model C.prog C.w) A (truthy v) (BPost C G ρ hp s b hp') noE s₁) noE s:=by
  revert e; refine bpR fun x hp1 e1=>bR fun b' e2 e3=>?_
  obtain ⟨h1,h2⟩:=zbf e3; clear e3; subst h1 h2
  refine zco (h A G a loc hp x hp1 e1 ρ s W R) fun v s₁ ρ₁ S₁ r₁=>?_
  exact zry S₁.wr e2 r₁ fun tk=>⟨ρ₁,S₁.trans (Step.toks S₁.wr tk),rfl⟩
theorem zc5 {e:Expr} {whole:Sem Value} {m:ME} (h:SimE C k homes whole m) (he:isTrue e env whole = (do let v ← whole; standAt e.pos; holding [v] (truthy v))):SimB C k homes (isTrue e env whole) (tru m) :=
  fun A G a loc hp v hp' e ρ s W R=>wpAny_isTrue_value (tru_of h a e W R) he
theorem zml {x:Expr} {pos:Pos} {whole:Sem Value} {m:MB} (h:SimB C k homes (isTrue x env (eval x env)) m):SimB C k homes (isTrue (.UnaryOp .Not x pos) env whole) (notB m):=by
  intro A G a loc hp v hp' e ρ s W R
  revert e; refine bpR fun x hp1 e1 e2=>?_
  obtain ⟨h1,h2⟩:=zbf e2; clear e2; subst h1 h2
  exact wpAny_isTrue_Not (zmq (h A G a loc hp x hp1 e1 ρ s W R) fun b s₁ ρ₁ S₁ r₁=>⟨ρ₁,S₁,by rw [r₁]⟩)
theorem zay {l r:Expr} {op:CmpOp} {pos:Pos} {whole:Sem Value} {m1 m2:ME} {o:AV→AV→Hp→Option (AV × Hp)} (h1:SimE C k homes (eval l env) m1) (h2:SimE C k homes (eval r env) m2) (ho:SimO C k (compareOp op) o)
    (hm:behindInMarks op r = false):SimB C k homes (isTrue (.Compare l [op] [r] pos) env whole) (tru (bin o m1 m2)):=by
  intro A G a loc hp v hp' e ρ s W R
  revert e; refine bpR fun x hp1 e1=>bR fun b' e2 e3=>?_
  obtain ⟨h1,h2⟩:=zbf e3; clear e3; subst h1 h2
  refine wpAny_isTrue_Compare1 (zde (two a h1 h2 ho e1 W R) fun _ _ h=>zde h fun _ _ h=>zde h fun c s₃ ⟨ρ₁,S₁,r₁⟩=>?_) hm
  exact zry S₁.wr e2 r₁ fun tk=>⟨ρ₁,S₁.trans (Step.toks S₁.wr tk),rfl⟩
theorem zdu:SimB C k homes (allTrue .And [] env) (cstB true):=by
  intro A G a loc hp v hp' e ρ s W R
  obtain ⟨h1,h2⟩:=zbf e; clear e; subst h1 h2
  exact wpAny_allTrue_And_nil ⟨ρ,Step.refl W,rfl⟩
theorem zht:SimB C k homes (allTrue .Or [] env) (cstB false):=by
  intro A G a loc hp v hp' e ρ s W R
  obtain ⟨h1,h2⟩:=zbf e; clear e; subst h1 h2
  exact wpAny_allTrue_Or_nil ⟨ρ,Step.refl W,rfl⟩
theorem zbk {x:Expr} {rest:List Expr} {m r:MB} (h:SimB C k homes (isTrue x env (eval x env)) m) (hr:SimB C k homes (allTrue .And rest env) r):SimB C k homes (allTrue .And (x ::rest) env) (andB m r):=by
  intro A G a loc hp v hp' e ρ s W R
  revert e; refine bpR fun x hp1 e1 e2=>?_
  refine wpAny_allTrue_And_cons (zmq (h A G a loc hp x hp1 e1 ρ s W R) fun b s₁ ρ₁ S₁ r₁=>?_)
  subst r₁
  cases x with
  | true =>
    simp only [if_true] at e2 ⊢
    exact zmq (hr A G a loc hp1 v hp' e2 ρ₁ s₁ S₁.wr (R.step0 W S₁)) fun b s₂ ρ₂ S₂ r₂=>⟨ρ₂,S₁.trans S₂,r₂⟩
  | false =>
    simp only [Bool.false_eq_true,if_false] at e2 ⊢
    obtain ⟨h1,h2⟩:=zbf e2; clear e2; subst h1 h2
    exact ⟨ρ₁,S₁,rfl⟩
theorem zdt {x:Expr} {rest:List Expr} {m r:MB} (h:SimB C k homes (isTrue x env (eval x env)) m) (hr:SimB C k homes (allTrue .Or rest env) r):SimB C k homes (allTrue .Or (x ::rest) env) (orB m r):=by
  intro A G a loc hp v hp' e ρ s W R
  revert e; refine bpR fun x hp1 e1 e2=>?_
  refine wpAny_allTrue_Or_cons (zmq (h A G a loc hp x hp1 e1 ρ s W R) fun b s₁ ρ₁ S₁ r₁=>?_)
  subst r₁
  cases x with
  | false =>
    simp only [Bool.false_eq_true,if_false] at e2 ⊢
    exact zmq (hr A G a loc hp1 v hp' e2 ρ₁ s₁ S₁.wr (R.step0 W S₁)) fun b s₂ ρ₂ S₂ r₂=>⟨ρ₂,S₁.trans S₂,r₂⟩
  | true =>
    simp only [if_true] at e2 ⊢
    obtain ⟨h1,h2⟩:=zbf e2; clear e2; subst h1 h2
    exact ⟨ρ₁,S₁,rfl⟩
theorem zd6 {op:BoolOp} {values:List Expr} {pos:Pos} {whole:Sem Value} {m:MB} (h:SimB C k homes (allTrue op values env) m):SimB C k homes (isTrue (.BoolOp op values pos) env whole) m :=
  fun A G a loc hp v hp' e ρ s W R=>wpAny_isTrue_BoolOp (h A G a loc hp v hp' e ρ s W R)
noncomputable def zaq (x y:AV) (hp:Hp):Option (AV × Hp):=onI (fun i=>match x with
  | .tup xs=>if 0≤i∧i < 1000000 then (xs[i.toNat]?).map (·,hp) else none
  | .str cs=>if 0≤i∧i < 1000000 then (cs[i.toNat]?).map fun c=>(.str [c],hp) else none
  | x=>(zc0 hp x).bind fun xs =>
      if 0≤i then if i < 1000000 then (xs[i.toNat]?).map (·,hp) else none
      else if -(xs.length:Int)≤i∧-1000000 < i then (xs[(i + xs.length).toNat]?).map (·,hp) else none) y
theorem zyc (xs:List AV) (i:Int) (hp:Hp):zaq (.tup xs) (.int i) hp = if 0≤i∧i < 1000000 then (xs[i.toNat]?).map (·,hp) else none:=rfl
theorem zyd (cs:List Nat) (i:Int) (hp:Hp):zaq (.str cs) (.int i) hp = if 0≤i∧i < 1000000 then (cs[i.toNat]?).map fun c=>(.str [c],hp) else none:=rfl
theorem zye (ys:List AV) (i:Int) (hp:Hp):zaq (.fl ys) (.int i) hp = (zc0 hp (.fl ys)).bind fun xs =>
      if 0≤i then if i < 1000000 then (xs[i.toNat]?).map (·,hp) else none
      else if -(xs.length:Int)≤i∧-1000000 < i then (xs[(i + xs.length).toNat]?).map (·,hp) else none:=rfl
theorem zr4 (n:Nat) (i:Int) (hp:Hp):zaq (.loc n) (.int i) hp = (zc0 hp (.loc n)).bind fun xs =>
      if 0≤i then if i < 1000000 then (xs[i.toNat]?).map (·,hp) else none
      else if -(xs.length:Int)≤i∧-1000000 < i then (xs[(i + xs.length).toNat]?).map (·,hp) else none:=rfl
theorem zph {x y:AV} {hp:Hp} {v:AV} {hp':Hp} (e:zaq x y hp = some (v,hp')) {A:Around} {G:Addr→Prop} {ρ:Ren} {s:Shared} {o i:Value} (W:WR C G ρ hp s) (r1:VR C ρ (Own ρ hp G) s.heap x o) (r2:VR C ρ (Own ρ hp G) s.heap y i) :
    (∃ T id,s.TypeIs o T∧typeLookup (.type T) "__getitem__" = pure (some (.builtin id)))∧wpAny (model C.prog C.w) A (getItem o i) (EPost C G ρ hp s v hp') noE s:=by
  apply onIR ?_ r2 e; clear r2 e; intro i' t e
  have key:(zc0 hp x).bind (fun xs =>
      if 0≤i' then if i' < 1000000 then (xs[i'.toNat]?).map (·,hp) else none
      else if -(xs.length:Int)≤i'∧-1000000 < i' then (xs[(i' + xs.length).toNat]?).map (·,hp) else none) = some (v,hp')→(∃ T id,s.TypeIs o T∧typeLookup (.type T) "__getitem__" = pure (some (.builtin id)))∧wpAny (model C.prog C.w) A (getItem o (.int i' t)) (EPost C G ρ hp s v hp') noE s:=bR fun xs e1 e=>by
    obtain ⟨a,vs,n,e3,r⟩:=zcp W e1 r1
    have hl:=r.length
    have IL:s.heap.IsList a vs.toArray:=⟨_,e3,rfl,n,rfl⟩
    refine ⟨⟨"list",_,⟨_,e3,rfl⟩,slot_list_getitem.lookup⟩,?_⟩
    by_cases h0:0≤i'
    · rw [if_pos h0] at e
      revert e; refine ifR fun hz=>mR fun v' e4 e5=>?_
      cases (e5)
      obtain ⟨w,e6,r6⟩:=r.get e4
      exact wpAny_getItem_list IL h0 (by lia) (by simpa using e6) (zb9 W r6)
    · rw [if_neg h0] at e
      revert e; refine ifR fun hz=>mR fun v' e4 e5=>?_
      cases (e5)
      obtain ⟨w,e6,r6⟩:=r.get e4
      exact wpAny_getItem_list_neg IL (by lia) (by simp; lia) (by lia) (by simpa [hl] using e6) (zb9 W r6)
  cases (x) with
  | tup xs =>
    revert e; refine ifR fun hz=>mR fun v' e1 e2=>?_
    cases (e2)
    replace r1:=Mine.VR.tupI r1; obtain ⟨_,_,_,e3,n3,r⟩:=r1
    obtain ⟨w,e4,rw4⟩:=r.get e1
    refine ⟨⟨"tuple",_,⟨_,e3,rfl⟩,F.slot_tuple_getitem.lookup⟩,?_⟩
    refine P.getItem_tuple (k:=i'.toNat) e3 (by lia) (by lia) ?_ (by simpa using e4) (zb9 W rw4)
    have:i'.toNat < xs.length:=(List.getElem?_eq_some_iff.mp e1).1
    rw [r.length] at this
    unfold seqIndex?
    simp [hz.1]
    lia
  | str cs =>
    revert e; refine ifR fun hz=>mR fun c e1 e2=>?_
    cases (e2)
    replace r1:=VR.strI r1; rcases r1 with ⟨_⟩
    refine ⟨⟨"str",_,typeIs_str s _ _,F.slot_str_getitem.lookup⟩,?_⟩
    have hlt:i'.toNat < cs.length:=(List.getElem?_eq_some_iff.mp e1).1
    refine P.getItem_str (c:=c) (by simp; lia) ?_ (zbz W (.str [c] _))
    have:seqIndex? i' (Str.length ⟨cs.toArray⟩) = some i'.toNat:=by
      unfold seqIndex?
      simp [hz.1,Str.length]
      lia
    rw [this]
    simpa using e1
  | _=>exact key e
theorem zax {value slice:Expr} {pos:Pos} {m1 m2:ME} (h1:SimE C k homes (eval value env) m1) (h2:SimE C k homes (eval slice env) m2)
    (hs:∀ o i,subscripted slice false o i = operate [o,i] (getItem o i)):SimE C k homes (eval (.Subscript value slice pos) env) (bin zaq m1 m2):=by
  intro A G a loc hp v hp' e ρ s W R
  revert e; refine bpR fun x hp1 e1=>bpR fun y hp2 e2 e3=>?_
  rw [arm_eval_Subscript]
  refine wpAny_bind (zco (h1 A G a loc hp x hp1 e1 ρ s W R) fun xv s₁ ρ₁ S₁ r₁=>?_)
  refine wpAny_bind (wpAny_holding (zco (h2 A G a loc hp1 y hp2 e2 ρ₁ s₁ S₁.wr (R.step0 W S₁)) fun yv s₂ ρ₂ S₂ r₂=>?_))
  refine wpAny_bind (wpAny_standAt (wpAny_bind ?_))
  obtain ⟨⟨T,id,hT,hl⟩,hw⟩:=zph (A:=A) e3 S₂.wr (VR.up (S₂.up S₁.wr fun _ q=>q.elim) r₁) r₂
  rw [getitemInPython_of_ne hT.not_modules]
  refine wpAny_bind (wpAny_specialOf hT hl ?_)
  have fin:wpAny (model C.prog C.w) A (operate [xv,yv] (getItem xv yv)) (fun r s₃=>wpAny (model C.prog C.w) A (letTemporaryGo value xv r >>= fun _=>pure r) (EPost C G ρ hp s v hp') noE s₃) noE s₂ :=
    wpAny_operating (zde hw fun r s₃ h₃=>wpAny_bind (wpAny_letTemporaryGo (wpAny_pure (zb3 (S₁.trans S₂) h₃))))
  first
    | exact wpAny_pure (wpAny_bind (by rw [hs]; exact fin))
    | exact wpAny_bind (wpAny_pure (wpAny_bind (by rw [hs]; exact fin)))
end
section
variable {C:Cfg} {G G' X:Addr→Prop} {ρ ρ':Ren} {hp hp':Hp} {s s':Shared}
theorem WR.more (W:WR C G ρ hp s) {h':Heap} {tk:Nat} (k:∀ b o,s.heap.get? b = some o→h'.get? b = some o) (hg:∀ b,G' b→G b∨s.heap.get? b = none) (ht:∀ b,G' b→∃ o,h'.get? b = some o) :
    WR C G' ρ hp {s with heap:=h',toks:=tk}:=by
  have U:Up C ρ ρ (Own ρ hp G) (Own ρ hp G') s.heap h':=⟨fun _ _ e=>e,fun b o e _ _=>k b o e,fun b q=>q.elim (fun q=>.inl (.inl q)) fun q=>(hg b q).imp .inr id,W.tabAt⟩
  refine ⟨fun n o e=>?_,W.inj,W.top,W.nb,fun b q q'=>?_,ht,fun b q=>(hg b q).elim (W.gb b) fun z=>(by
    cases e:C.base.get? b with
    | none=>rfl
    | some o=>rw [W.keep b o e] at z; exact noN z),fun b o e=>k b o (W.keep b o e),W.gens,W.os,?_⟩
  · obtain ⟨m,x,e1,r⟩:=W.obj n o e
    refine ⟨m,x,e1,?_⟩
    exact r.up U (k x)
  · rcases hg b q' with z | z
    · exact W.ng b q z
    · obtain ⟨o,e⟩:=W.lv q; rw [z] at e; exact noS e
  · obtain ⟨ps,e,t⟩:=W.tab
    exact ⟨ps,k _ _ e,t.up fun a o e n p=>U.old a o e n (.inr p)⟩
theorem WR.less (W:WR C G' ρ hp s) (h:∀ b,G b→G' b):WR C G ρ hp s:=by
  have hw:∀ b,Own ρ hp G b→Own ρ hp G' b:=fun b q=>q.imp id (h b)
  refine ⟨fun n o e=>?_,W.inj,W.top,W.nb,fun b q q'=>W.ng b q (h b q'),fun b q=>W.gt b (h b q),fun b q=>W.gb b (h b q),W.keep,W.gens,W.os,?_⟩
  · obtain ⟨m,x,e1,r⟩:=W.obj n o e
    refine ⟨m,x,e1,?_⟩
    exact r.weak hw
  · obtain ⟨ps,e,t⟩:=W.tab
    exact ⟨ps,e,t.up fun a o e n _=>⟨e,fun q=>n (hw _ q)⟩⟩
theorem Step.less (S:Step C G' X ρ hp s ρ' hp' s') (h:∀ b,G b→G' b):Step C G X ρ hp s ρ' hp' s':=⟨S.wr.less h,S.ext,S.nx,S.keep,S.there,S.live⟩
end
noncomputable def plus (G:Addr→Prop) (a:Addr):Addr→Prop:=fun b=>G b∨b = a
noncomputable def Hp.new (hp:Hp) (o:AO):Hp:=⟨fun n=>if n = hp.N then some o else hp.H n,hp.N + 1⟩
noncomputable def Hp.put (hp:Hp) (i:Nat) (o:AO):Hp:=⟨fun n=>if n = i then some o else hp.H n,hp.N⟩
noncomputable def Hp.free (hp:Hp) (i:Nat):Hp:=⟨fun n=>if n = i then none else hp.H n,hp.N⟩
inductive FLPost (C:Cfg) (G:Addr→Prop) (ρ:Ren) (hp:Hp) (s:Shared) (xs:List AV) (hp':Hp) (w:Value) (s':Shared):Prop
  | mk (ρ':Ren) (a:Addr) (vs:List Value) (n:Nat) (h1:w = .ref a) (h2:Step C G (fun _=>False) ρ hp s ρ' hp' s') (h3:WR C (plus G a) ρ' hp' s') (h4:s'.heap.get? a = some (listOf (List.toArray vs) n)) (h5:s.heap.get? a = none) (h6:VRs C ρ' (Own ρ' hp' (plus G a)) s'.heap xs vs):FLPost C G ρ hp s xs hp' w s'
noncomputable abbrev ML:=Loc→Hp→Option (List AV × Hp)
noncomputable def SimL (C:Cfg) (k:Nat) (homes:List Home) (t:Sem Value) (m:ML):Prop :=
  ∀ A G,AOk k A→∀ loc hp v hp',m loc hp = some (v,hp')→∀ ρ s,WR C G ρ hp s→LR C G homes ρ hp loc s.heap→wpAny (model C.prog C.w) A t (FLPost C G ρ hp s v hp') noE s
noncomputable def flz (m:ML):ME:=fun loc hp=>do
  let (xs,hp) ← m loc hp
  some (.fl xs,hp)
noncomputable def lcz (m:ML):ME:=fun loc hp=>do
  let (xs,hp) ← m loc hp
  some (.loc hp.N,hp.new (.list xs))
noncomputable def Ren.new (ρ:Ren) (n:Nat) (p:Addr × Addr):Ren:=fun i=>if i = n then some p else ρ i
section
variable {C:Cfg} {k:Nat} {env:Env} {homes:List Home} {G:Addr→Prop} {ρ ρ':Ren} {hp hp':Hp} {s s':Shared} {xs:List AV} {w:Value}
theorem FLPost.fl (W0:WR C G ρ hp s) (h:FLPost C G ρ hp s xs hp' w s'):EPost C G ρ hp s (.fl xs) hp' w s':=by
  obtain ⟨ρ',a,vs,n,rfl,S,W,e,e0,r⟩:=h
  have hn:¬ Own ρ' hp' G a:=fun q=>q.elim (fun q=>W.ng a q (.inr rfl)) fun q=>by
    obtain ⟨o,e1⟩:=W0.gt a q
    rw [e0] at e1; exact noS e1
  exact ⟨ρ',S,.fl e hn (VRs.weak (fun b q=>q.imp id .inl) r)⟩
theorem WR.new {a m:Addr} {o:AO} (W:WR C (plus G a) ρ hp s) (hb:C.base.get? a = none) (hG:¬ G a)
    (ho:OR C (ρ.new hp.N (m,a)) (Own (ρ.new hp.N (m,a)) (hp.new o) G) s.heap o m a):WR C G (ρ.new hp.N (m,a)) (hp.new o) s∧(∀ b,Lv (ρ.new hp.N (m,a)) (hp.new o) b→Lv ρ hp b∨b = a):=by
  have hlv:∀ b,Lv (ρ.new hp.N (m,a)) (hp.new o) b→Lv ρ hp b∨b = a:=fun b zv1=>by
    obtain ⟨n,m',h1,h2⟩:=zv1
    by_cases hn:n = hp.N
    · simp only [Ren.new,hn,if_true] at h2
      cases (h2); exact .inr rfl
    · simp only [Ren.new,Hp.new,hn,if_false] at h1 h2
      exact .inl ⟨n,m',h1,h2⟩
  have U:Up C ρ (ρ.new hp.N (m,a)) (Own ρ hp (plus G a)) (Own (ρ.new hp.N (m,a)) (hp.new o) G) s.heap s.heap :=
    ⟨fun n p e=>by
      have:n≠hp.N:=fun q=>by rw [q,(W.top hp.N (Nat.le_refl _)).2] at e; exact noS e
      simp only [Ren.new,this,if_false]; exact e,fun _ _ e _ _=>e,fun b q=>.inl (q.elim (fun q=>(hlv b q).imp id fun e=>.inr e) fun q=>.inr (.inl q)),W.tabAt⟩
  refine ⟨⟨fun n o' e=>?_,?_,fun n hn=>?_,fun b q=>?_,fun b q q'=>?_,fun b q=>W.gt b (.inl q),fun b q=>W.gb b (.inl q),W.keep,W.gens,W.os,?_⟩,hlv⟩
  · by_cases hn:n = hp.N
    · simp only [Hp.new,hn,if_true] at e
      replace e:=Option.some.inj e; subst e
      exact ⟨m,a,by simp [Ren.new,hn],ho⟩
    · simp only [Hp.new,hn,if_false] at e
      obtain ⟨m',x,e1,r⟩:=W.obj n o' e
      refine ⟨m',x,by simp only [Ren.new,hn,if_false]; exact e1,?_⟩
      exact r.up U fun _ e=>e
  · have old:∀ n m',hp.H n≠none→ρ n = some (m',a)→False:=fun n m' h1 h2=>W.ng a ⟨n,m',h1,h2⟩ (.inr rfl)
    intro n j m1 x m2 h1 h2 e1 e2
    by_cases hn:n = hp.N <;> by_cases hj:j = hp.N
    · rw [hn,hj]
    · simp only [Ren.new,Hp.new,hn,hj,if_true,if_false] at e1 e2 h1 h2
      obtain ⟨h1,h2⟩:=zbf e1; clear e1; subst h1 h2; exact (old j _ h2 e2).elim
    · simp only [Ren.new,Hp.new,hn,hj,if_true,if_false] at e1 e2 h1 h2
      obtain ⟨h1,h2⟩:=zbf e2; clear e2; subst h1 h2; exact (old n _ h1 e1).elim
    · simp only [Ren.new,Hp.new,hn,hj,if_false] at e1 e2 h1 h2
      exact W.inj n j m1 x m2 h1 h2 e1 e2
  · have hn':n≠hp.N:=by simp only [Hp.new] at hn; lia
    simp only [Ren.new,Hp.new,hn',if_false]
    exact W.top n (by simp only [Hp.new] at hn; lia)
  · rcases hlv b q with q | rfl
    · exact W.nb b q
    · exact hb
  · rcases hlv b q with q | rfl
    · exact W.ng b q (.inl q')
    · exact hG q'
  · obtain ⟨ps,e,t⟩:=W.tab
    exact ⟨ps,e,t.up fun a o e n p=>⟨e,fun q=>(U.live _ q).elim n fun z=>by rw [z] at e; exact noS e⟩⟩
theorem Ren.ext_new (W:WR C G ρ hp s) (p:Addr × Addr):∀ n q,ρ n = some q→ρ.new hp.N p n = some q:=fun n q e=>by
  have:n≠hp.N:=fun z=>by rw [z,(W.top hp.N (Nat.le_refl _)).2] at e; exact noS e
  simp only [Ren.new,this,if_false]; exact e
theorem FLPost.loc (W0:WR C G ρ hp s) (h:FLPost C G ρ hp s xs hp' w s'):EPost C G ρ hp s (.loc hp'.N) (hp'.new (.list xs)) w s':=by
  obtain ⟨ρ',a,vs,n,rfl,S,W,e,e0,r⟩:=h
  have hG:¬ G a:=fun q=>by
    obtain ⟨o,e1⟩:=W0.gt a q
    rw [e0] at e1; exact noS e1
  have hb:C.base.get? a = none:=by
    cases q:C.base.get? a with
    | none=>rfl
    | some o=>rw [W0.keep a o q] at e0; exact noN e0
  have hlv:∀ b,Lv (ρ'.new hp'.N (a,a)) (hp'.new (.list xs)) b→Lv ρ' hp' b∨b = a:=fun b zv1=>by
    obtain ⟨n,m',h1,h2⟩:=zv1
    by_cases hn:n = hp'.N
    · simp only [Ren.new,hn,if_true] at h2
      cases (h2); exact .inr rfl
    · simp only [Ren.new,Hp.new,hn,if_false] at h1 h2
      exact .inl ⟨n,m',h1,h2⟩
  have U:Up C ρ' (ρ'.new hp'.N (a,a)) (Own ρ' hp' (plus G a)) (Own (ρ'.new hp'.N (a,a)) (hp'.new (.list xs)) G) s'.heap s'.heap :=
    ⟨Ren.ext_new W _,fun _ _ e _ _=>e,fun b q=>.inl (q.elim (fun q=>(hlv b q).imp id fun e=>.inr e) fun q=>.inr (.inl q)),W.tabAt⟩
  obtain ⟨W',_⟩:=WR.new (m:=a) W hb hG (o:=.list xs) (.list e (VRs.up U r))
  refine ⟨ρ'.new hp'.N (a,a),⟨W',fun n p q=>Ren.ext_new W _ n p (S.ext n p q),Nat.le_succ_of_le S.nx,S.keep,S.there,fun b q=>?_⟩,.loc (x:=a) (by simp [Ren.new])⟩
  rcases hlv b q with q | rfl
  · exact S.live b q
  · exact .inr e0
theorem za7 {t:Sem Value} {m:ML} (h:SimL C k homes t m):SimE C k homes t (flz m):=by
  intro A G a loc hp v hp' e ρ s W R
  revert e; refine bpR fun x hp1 e1 e2=>?_
  obtain ⟨h1,h2⟩:=zbf e2; clear e2; subst h1 h2
  exact zde (h A G a loc hp x hp1 e1 ρ s W R) fun w s' q=>q.fl W
theorem zdo {t:Sem Value} {m:ML} (h:SimL C k homes t m):SimE C k homes t (lcz m):=by
  intro A G a loc hp v hp' e ρ s W R
  revert e; refine bpR fun x hp1 e1 e2=>?_
  obtain ⟨h1,h2⟩:=zbf e2; clear e2; subst h1 h2
  exact zde (h A G a loc hp x hp1 e1 ρ s W R) fun w s' q=>q.loc W
theorem FLPost.push (S:Step C G (fun _=>False) ρ hp s ρ' hp' s') {vs:List Value} (W0:WR C G ρ hp s) (r:VRs C ρ' (Own ρ' hp' G) s'.heap xs vs) :
    FLPost C G ρ hp s xs hp' (.ref s'.heap.objs.size) {s' with heap:=s'.heap.push {cls:=.type "list",data:=.seq vs.toArray}}:=by
  have W:=S.wr
  have k:∀ b o,s'.heap.get? b = some o→(s'.heap.push ({cls:=.type "list",data:=.seq vs.toArray}:Obj)).get? b = some o:=fun _ _ e=>Heap.get?_push_of_some _ e
  have e:(s'.heap.push ({cls:=.type "list",data:=.seq vs.toArray}:Obj)).get? s'.heap.objs.size = some (listOf vs.toArray 0):=Heap.get?_push_size _ rfl
  have hg:∀ b,plus G s'.heap.objs.size b→G b∨s'.heap.get? b = none:=fun b q=>q.imp id fun (e:b = s'.heap.objs.size)=>by rw [e]; exact zch
  refine ⟨ρ',s'.heap.objs.size,vs,0,rfl,S.trans (Step.push W _),W.more (tk:=s'.toks) k hg (fun b q=>q.elim (fun q=>(W.gt b q).imp fun o e=>k b o e) fun q=>⟨_,q ▸ e⟩),e,?_,VRs.up ⟨fun _ _ e=>e,fun b o e _ _=>k b o e,fun b q=>q.elim (fun q=>.inl (.inl q)) fun q=>(hg b q).imp .inr id,W.tabAt⟩ r⟩
  cases q:s.heap.get? s'.heap.objs.size with
  | none=>rfl
  | some o =>
    obtain ⟨o',e'⟩:=S.there _ o q
    exact absurd (Heap.lt_size e') (Nat.lt_irrefl _)
noncomputable def zaf:MEs:=fun _ hp=>some ([],hp)
noncomputable def zac (m:ME) (r:MEs):MEs:=fun loc hp=>do
  let (x,hp) ← m loc hp
  let (xs,hp) ← r loc hp
  some (x ::xs,hp)
theorem zae {pos:Pos}:zhe C k homes (spliced (backTo pos (starEach [] env))) zaf:=by
  intro A G a loc hp v hp' e ρ s W R
  obtain ⟨h1,h2⟩:=zbf e; clear e; subst h1 h2
  exact wpAny_items_nil ⟨ρ,Step.refl W,.nil⟩
theorem zad {pos:Pos} {e:Expr} {rest:List Expr} {m:ME} {r:MEs} (h:SimE C k homes (eval e env) m) (hr:zhe C k homes (spliced (backTo pos (starEach rest env))) r)
    (he:starEach (e ::rest) env = (false,eval e env) ::starEach rest env):zhe C k homes (spliced (backTo pos (starEach (e ::rest) env))) (zac m r):=by
  intro A G a loc hp v hp' e ρ s W R
  revert e; refine bpR fun x hp1 e1=>bpR fun xs hp2 e2 e3=>?_
  obtain ⟨h1,h2⟩:=zbf e3; clear e3; subst h1 h2
  refine wpAny_items_cons (zco (h A G a loc hp x hp1 e1 ρ s W R) fun v s₁ ρ₁ S₁ r₁=>?_) he
  exact zlx (hr A G a loc hp1 xs _ e2 ρ₁ s₁ S₁.wr (R.step0 W S₁)) fun vs s₂ ρ₂ S₂ r₂=>⟨ρ₂,S₁.trans S₂,.cons (VR.up (S₂.up S₁.wr fun _ q=>q.elim) r₁) r₂⟩
noncomputable def tupE (m:MEs):ME:=fun loc hp=>do
  let (xs,hp) ← m loc hp
  if xs.length≤1000000 then some (.tup xs,hp) else none
theorem ze9 {elts:List Expr} {q:Nat} {pos:Pos} {m:MEs} (h:zhe C k homes (spliced (backTo pos (starEach elts env))) m):SimE C k homes (eval (.Tuple elts q pos) env) (tupE m):=by
  intro A G a loc hp v hp' e ρ s W R
  simp only [tupE,Option.bind_eq_bind,Option.bind_eq_some_iff] at e
  obtain ⟨⟨xs,hp1⟩,e1,e2⟩:=e
  revert e2; refine ifR fun _ e2=>?_
  rename_i hz
  obtain ⟨h1,h2⟩:=zbf e2; clear e2; subst h1 h2
  refine wpAny_Tuple (zlx (h A G a loc hp xs hp1 e1 ρ s W R) fun vs s₁ ρ₁ S₁ r₁=>⟨by rw [← r₁.length]; exact zhr hz,zb3 S₁ (zi9 S₁.wr _ (zj2 S₁.wr r₁))⟩)
noncomputable def lstE (m:MEs):ML:=fun loc hp=>do
  let (xs,hp) ← m loc hp
  if xs.length≤1000000 then some (xs,hp) else none
theorem zbb {elts:List Expr} {pos:Pos} {m:MEs} (h:zhe C k homes (spliced (backTo pos (starEach elts env))) m):SimL C k homes (eval (.List elts pos) env) (lstE m):=by
  intro A G a loc hp v hp' e ρ s W R
  simp only [lstE,Option.bind_eq_bind,Option.bind_eq_some_iff] at e
  obtain ⟨⟨xs,hp1⟩,e1,e2⟩:=e
  revert e2; refine ifR fun _ e2=>?_
  rename_i hz
  obtain ⟨h1,h2⟩:=zbf e2; clear e2; subst h1 h2
  refine wpAny_List (zlx (h A G a loc hp xs hp1 e1 ρ s W R) fun vs s₁ ρ₁ S₁ r₁=>⟨by rw [← r₁.length]; exact zhr hz,FLPost.push S₁ W r₁⟩)
noncomputable def catL (m1 m2:ME):ML:=fun loc hp=>do
  let (x,hp) ← m1 loc hp
  let (y,hp) ← m2 loc hp
  let xs ← zc0 hp x
  let ys ← zc0 hp y
  if xs.length + ys.length≤1000000 then some (xs++ys,hp) else none
theorem zmi {l r:Expr} {pos:Pos} {m1 m2:ME} (h1:SimE C k homes (eval l env) m1) (h2:SimE C k homes (eval r env) m2):SimL C k homes (eval (.BinOp l .Add r pos) env) (catL m1 m2):=by
  intro A G a loc hp v hp' e ρ s W R
  revert e; refine bpR fun x hp1 e1=>bpR fun y hp2 e2=>bR fun xs e3=>bR fun ys e4 e5=>?_
  revert e5; refine ifR fun _ e5=>?_
  rename_i hz
  obtain ⟨h1,h2⟩:=zbf e5; clear e5; subst h1 h2
  refine wpAny_BinOp (zco (h1 A G a loc hp x hp1 e1 ρ s W R) fun xv s₁ ρ₁ S₁ r₁=>?_)
  refine zco (h2 A G a loc hp1 y hp2 e2 ρ₁ s₁ S₁.wr (R.step0 W S₁)) fun yv s₂ ρ₂ S₂ r₂=>?_
  obtain ⟨b1,vs,n1,g1,q1⟩:=zcp S₂.wr e3 (VR.up (S₂.up S₁.wr fun _ q=>q.elim) r₁)
  obtain ⟨b2,ws,n2,g2,q2⟩:=zcp S₂.wr e4 r₂
  refine P.add_list g1 g2 ?_ (hsz:=by have:=q1.length; have:=q2.length; simp; exact zhr (by lia))
  have:=FLPost.push (S₁.trans S₂) W (q1.append q2)
  simpa using this
end
section
variable {C:Cfg} {k:Nat} {env:Env} {homes:List Home}
theorem zfy {M:Model} {A:Around} {E:Value→Shared→Prop} {s:Shared} {f:Value} {pos:Pos} {args:List Expr} {Q:Args→Shared→Prop} (hs:(starEach args env).any (·.1) = false)
    (h:wpAny M A (spliced (backTo pos (starEach args env))) (fun vs s'=>Q ⟨vs,[]⟩ s') E s):wpAny M A (evalArgs f true (backTo pos (starEach args env)) []) Q E s:=by
  cases hst:starEach args env with
  | nil =>
    rw [hst] at h
    unfold evalArgs
    show wpAny M A (spliced [] >>= _) Q E s
    refine wpAny_bind (wpAny_mono h (fun vs s' h'=>?_) fun _ _ x=>x)
    refine wpAny_bind (wpAny_pure ?_)
    refine wpAny_holding ?_
    exact wpAny_bind (wpAny_pure (wpAny_bind (wpAny_pure (wpAny_pure h'))))
  | cons p r =>
    obtain ⟨b,t⟩:=p
    rw [hst] at hs h
    simp only [List.any_cons,Bool.or_eq_false_iff] at hs
    obtain ⟨rfl,_⟩:=hs
    exact evalArgs_plain h
noncomputable def zas (f:Fn) (m:MEs):ME:=fun loc hp=>do
  let (xs,hp) ← m loc hp
  f xs hp
noncomputable def zk6 (C:Cfg) (f:Value):Prop:=∀ h,(∀ b o,C.base.get? b = some o→h.get? b = some o)→∃ q,(q = Keeper.frame∨q = Keeper.machine∨q = Keeper.boundFrame)∧Looks (model C.prog C.w) h (keeperOf f) q
theorem zar (id:String):zk6 C (.builtin id):=fun h _=>⟨.machine,.inr (.inl rfl),Looks.of_pure rfl⟩
theorem zf9 {A:Around} {G:Addr→Prop} {f:Value} {first:List Value} {fx:List AV} {args:List Expr} {pos:Pos} {m:MEs} {fn:Fn} {loc:Loc} {hp hp' hp1:Hp} {v:AV} {xs:List AV} {ρ:Ren} {s:Shared}
    (a:AOk k A) (hk:zk6 C f) (hs:(starEach args env).any (·.1) = false) (hargs:zhe C k homes (spliced (backTo pos (starEach args env))) m) (hf:SimF C k f fn)
    (W:WR C G ρ hp s) (R:LR C G homes ρ hp loc s.heap) (hfx:VRs C ρ (Own ρ hp G) s.heap fx first) (e1:m loc hp = some (xs,hp1)) (e2:fn (fx++xs) hp1 = some (v,hp')) :
    wpAny (model C.prog C.w) A (callWith pos f first (backTo pos (starEach args env)) []) (EPost C G ρ hp s v hp') noE s:=by
  refine callWith_of (P:=fun h=>∀ b o,C.base.get? b = some o→h.get? b = some o) ?_ (fun h p=>hk h p) ?_
  · have:(backTo pos (starEach args env)).any (·.1) = (starEach args env).any (·.1):=by unfold backTo; rw [List.any_map]; rfl
    simp [this,hs]
  · refine zfy hs (zlx (hargs A G a loc hp xs hp1 e1 ρ s W R) fun vs s₁ ρ₁ S₁ r₁=>⟨S₁.wr.keep,?_⟩)
    exact zde (hf A G a (fx++xs) hp1 v hp' e2 ρ₁ s₁ (first++vs) S₁.wr ((VRs.up (S₁.up W fun _ q=>q.elim) hfx).append r₁)) fun w s₂ h=>zb3 S₁ h
theorem zan {x:Str} {f:Value} {p pos:Pos} {args:List Expr} {m:MEs} {fn:Fn} (g:zgp C x f) (hk:zk6 C f) (hf:SimF C k f fn) (hargs:zhe C k homes (spliced (backTo pos (starEach args env))) m)
    (hkd:env.scope.kind = .function) (hl:env.kindOf x = some .globalImplicit) (hg:env.globals = mainGlobals) (hb:env.builtins = builtinsNs) (hd:(x == ("__debug__" : Str)) = false) (hs:(starEach args env).any (·.1) = false) :
    SimE C k homes (eval (.Call (.Name x p) args [] pos) env) (zas fn m):=by
  intro A G a loc hp v hp' e ρ s W R
  revert e; refine bpR fun xs hp1 e1 e2=>?_
  refine wpAny_Call_Name_kw (zha W g hkd hl hg hb hd ?_)
  exact zf9 (first:=[]) (fx:=[]) a hk hs hargs hf W R .nil e1 e2
noncomputable def zo2 (hp:Hp) (T:String) (x:AV):Bool:=match x with
  | .str _=>T == "str"
  | .int _=>T == "int"
  | x=>T == "list" && (zc0 hp x).isSome
theorem zwo {G:Addr→Prop} {ρ:Ren} {hp:Hp} {s:Shared} {x:AV} {v:Value} {T:String} (W:WR C G ρ hp s) (e:zo2 hp T x = true) (r:VR C ρ (Own ρ hp G) s.heap x v) :
    s.TypeIs v T∧∀ a,v = .ref a→∃ ob,s.heap.get? a = some ob∧ob.dict = none:=by
  have key:(T == "list" && (zc0 hp x).isSome) = true→s.TypeIs v T∧∀ a,v = .ref a→∃ ob,s.heap.get? a = some ob∧ob.dict = none:=fun e=>by
    simp only [Bool.and_eq_true,beq_iff_eq,Option.isSome_iff_exists] at e
    obtain ⟨rfl,xs,e⟩:=e
    obtain ⟨a,vs,n,g,_⟩:=zcp W e r
    exact ⟨⟨_,g,rfl⟩,fun a h=>by cases (h); exact ⟨_,g,rfl⟩⟩
  cases (x) with
  | str _ =>
    have:T = "str" := eq_of_beq e
    subst this; replace r:=VR.strI r; rcases r with ⟨_⟩; exact ⟨typeIs_str s _ _,fun a h=>nomatch h⟩
  | int _ =>
    have:T = "int" := eq_of_beq e
    subst this; replace r:=VR.intI r; rcases r with ⟨_⟩; exact ⟨typeIs_int s _ _,fun a h=>nomatch h⟩
  | _=>exact key e
theorem kindT_f (hp:Hp) (T:String) (x:List AV):zo2 hp T (.fl x) = (T == "list" && (zc0 hp (.fl x)).isSome):=rfl
theorem kindT_l (hp:Hp) (T:String) (n:Nat):zo2 hp T (.loc n) = (T == "list" && (zc0 hp (.loc n)).isSome):=rfl
noncomputable def zcc (T:String) (fn:Fn) (m1:ME) (m2:MEs):ME:=fun loc hp=>do
  let (x,hp) ← m1 loc hp
  if zo2 hp T x then
    let (xs,hp) ← m2 loc hp
    fn (x ::xs) hp
  else none
theorem zbu {o:Expr} {name:Str} {apos pos:Pos} {args:List Expr} {T id:String} {m1:ME} {m2:MEs} {fn:Fn} (h1:SimE C k homes (eval o env) m1) (hargs:zhe C k homes (spliced (backTo pos (starEach args env))) m2) (hf:SimF C k (.builtin id) fn)
    (pa:PlainAttrs T) (slot:Slot T name id) (hty:typeOf (.builtin id) = pure (.type "method_descriptor"))
    (hbase:attributeBase o name env (eval o env) = eval o env)
    (hfew:((backTo pos (starEach args env)).all (fun x=>!x.1) && (backToKw pos (keywordEach [] env)).all (fun x=>x.1.isSome) && decide (args.length + ([]:List Keyword).length + (if ([]:List Keyword).isEmpty then 0 else 1) < 30)) = true)
    (hline:(apos.endLine == pos.line) = true) (hs:(starEach args env).any (·.1) = false) :
    SimE C k homes (eval (.Call (.Attribute o name apos) args [] pos) env) (zcc T fn m1 m2):=by
  intro A G a loc hp v hp' e ρ s W R
  revert e; refine bpR fun x hp1 e1=>ifR fun hT=>bpR fun xs hp2 e2 e3=>?_
  refine wpAny_Call_method hbase hfew hline pa slot hty (zco (h1 A G a loc hp x hp1 e1 ρ s W R) fun ov s₁ ρ₁ S₁ r₁=>?_)
  obtain ⟨t1,t2⟩:=zwo S₁.wr hT r₁
  refine ⟨t1,t2,?_⟩
  exact zde (zf9 (first:=[ov]) (fx:=[x]) a (zar id) hs hargs hf S₁.wr (R.step0 W S₁) (.cons r₁ .nil) e2 e3) fun w s₂ h=>zb3 S₁ h
end
noncomputable def runF (np n:Nat) (body:MS):Fn:=fun args hp =>
  if args.length = np then
    (body (args.map some++List.replicate (n - np) none) hp).bind fun
    | (.rt v,_,hp)=>some (v,hp)
    | (.nx,_,hp)=>some (.none,hp)
    | _=>none
  else none
noncomputable def ziu (scope:Scope) (L:Addr) (x:Str):Home:=if scope.names.lookup x = some .cell then .cell (((cellsFrom (L + 1) scope.names []).lookup x).getD 0) else .ns L x
noncomputable def za6 (scope:Scope) (L:Addr) (slots:List Str):List Home:=slots.map (ziu scope L)
theorem zl5 {kd:Str→Option NameKind}:∀ {bs:List (Str × Value)} {m:Str→Option Value} {x:Str},(∀ p∈bs,p.1≠x)→bindL kd bs m x = m x
  | [],_,_,_=>rfl
  | (n,v) ::r,m,x,h=>by
    unfold bindL
    rw [zl5 fun p hp=>h p (.tail _ hp)]
    have hne:x≠n:=Ne.symm (h (n,v) (.head _))
    split
    · exact if_neg hne
    · rfl
theorem zl6 {kd:Str→Option NameKind}:∀ {bs:List (Str × Value)} {m:Str→Option Value} {x:Str},(∀ p∈bs,p.1≠x)→bindC kd bs m x = m x
  | [],_,_,_=>rfl
  | (n,v) ::r,m,x,h=>by
    unfold bindC
    rw [zl6 fun p hp=>h p (.tail _ hp)]
    have hne:x≠n:=Ne.symm (h (n,v) (.head _))
    split
    · rfl
    · exact if_neg hne
theorem zuj {r:List (Str × Value)} {x:Str} (nd:x ∉ r.map (·.1)):∀ p∈r,p.1≠x:=fun p hp q=>nd (q ▸ List.mem_map.mpr ⟨p,hp,rfl⟩)
theorem zu7 {kd:Str→Option NameKind} {x:Str} {v:Value} (hl:kd x = some .local):∀ (bs:List (Str × Value)) (m:Str→Option Value),(bs.map (·.1)).Nodup→(x,v)∈bs→bindL kd bs m x = some v:=by
  intro bs
  induction bs with
  | nil=>exact fun _ _ h=>nomatch h
  | cons p r ih =>
    intro m nd hm
    replace nd:=List.nodup_cons.mp nd
    rcases List.mem_cons.mp hm with e | hm
    · subst e
      exact (zl5 (zuj nd.1)).trans ((congrFun (if_pos hl) x).trans (if_pos rfl))
    · exact ih _ nd.2 hm
theorem zu8 {kd:Str→Option NameKind} {x:Str} {v:Value} (hl:kd x≠some .local):∀ (bs:List (Str × Value)) (m:Str→Option Value),(bs.map (·.1)).Nodup→(x,v)∈bs→bindC kd bs m x = some v:=by
  intro bs
  induction bs with
  | nil=>exact fun _ _ h=>nomatch h
  | cons p r ih =>
    intro m nd hm
    replace nd:=List.nodup_cons.mp nd
    rcases List.mem_cons.mp hm with e | hm
    · subst e
      exact (zl6 (zuj nd.1)).trans ((congrFun (if_neg hl) x).trans (if_pos rfl))
    · exact ih _ nd.2 hm
theorem zx4 {xs:List Str} {vs:List Value} {i:Nat} {x:Str} {v:Value} (h1:xs[i]? = some x) (h2:vs[i]? = some v):(x,v)∈xs.zip vs:=by
  apply List.mem_of_getElem? (i:=i)
  rw [List.getElem?_zip_eq_some]
  exact ⟨h1,h2⟩
structure DefOk (scope:Scope) (slots:List Str) (np:Nat):Prop where
  nd:slots.Nodup
  kinds:∀ x∈slots,scope.names.lookup x = some .local∨(scope.names.lookup x = some .cell∧∀ n,((cellsFrom n scope.names []).lookup x).isSome = true)
  np:np≤slots.length
  kind:scope.kind = .function
  co:scope.isCoroutine = false
  gen:scope.isGenerator = false
noncomputable def zc1 (C:Cfg) (k:Nat) (f:Value) (m:Fn):Prop :=
  ∀ A G,AOk k A→∀ args hp v hp',m args hp = some (v,hp')→∀ ρ s vs,WR C G ρ hp s→VRs C ρ (Own ρ hp G) s.heap args vs→
    codeAny (model C.prog C.w) A (.call f ⟨vs,[]⟩) (fun r s'=>match r with | .ok (.ret w)=>EPost C G ρ hp s v hp' w s' | _=>False) s
theorem zc1.fn {C:Cfg} {k:Nat} {f:Value} {m:Fn} (h:zc1 C k f m):SimF C k f m:=fun A G a args hp v hp' e ρ s vs W r =>
  wpAny_call (codeAny_mono (h A G a args hp v hp' e ρ s vs W r) fun r s' z=>by rcases r with e | (v | _ | _ | _) <;> first | exact z | exact z.elim)
theorem zbn {C:Cfg} {k:Nat} {fa:Addr} {o:Obj} {fd:FuncData} {body:List Stmt} {slots:List Str} {np:Nat} {m:MS} (ho:C.base.get? fa = some o) (hd:o.data = .func fd) (hb:fd.body = .stmts body) (hcl:fd.closure = [])
    (hcd:C.base.CodeRec fd.code fd.qualname) (hlim:C.base.NoLimit) (D:DefOk fd.scope slots np) (hbind:∀ vs:List Value,vs.length = np→bindArgs fd ⟨vs,[]⟩ = pure ((slots.take np).zip vs))
    (h:∀ L,SimS C k (za6 fd.scope L slots) (execs body (callEnvC fd L fa)) m):zc1 C (k + 1) (.ref fa) (runF np slots.length m):=by
  intro A G a args hp v hp' e ρ s vs W r
  revert e; refine ifR fun hn=>btR fun f loc' hp'' em e=>?_
  have hvl:vs.length = np:=by rw [← r.length]; exact hn
  refine (codeAny_call_cells (binds:=(slots.take np).zip vs) a.room (W.keep _ _ ho) hd (hlim.keeps W.keep) (hcd.keeps W.keep) hb (hbind vs hvl) hcl (fun x hx=>?_) (fun s₁ I=>?_) D.co D.gen D.kind)
  · have hx':x.1∈slots:=List.mem_of_mem_take (List.of_mem_zip hx).1
    rcases D.kinds _ hx' with q | ⟨q,c⟩
    · exact .inl q
    · exact .inr ⟨q,c _⟩
  · let L:=s.heap.objs.size
    let env:=callEnvC fd L fa
    let homes:=za6 fd.scope L slots
    let G':Addr→Prop:=fun b=>G b∨b = L∨∃ n c,env.cells.lookup n = some c∧b = c
    have I':InCallC s L (bindL env.kindOf ((slots.take np).zip vs) fun _=>none) env.cells (bindC env.kindOf ((slots.take np).zip vs) fun _=>none) s₁:=I
    have nol:∀ b,L≤b→s.heap.get? b = none:=fun b hb=>by
      cases e:s.heap.get? b with
      | none=>rfl
      | some o=>exact absurd (Heap.lt_size e) (Nat.not_lt.mpr hb)
    have hcl:∀ n c,env.cells.lookup n = some c→L < c:=fun n c e=>I'.above n c (mem_of_lookup e)
    obtain ⟨h',tk,rfl,hk⟩:=I'.done
    have hg:∀ b,G' b→G b∨s.heap.get? b = none:=fun b q=>q.imp id fun q=>q.elim (fun q=>nol b (by rw [q]; exact Nat.le_refl _)) fun ⟨n,c,e,q⟩=>nol b (by rw [q]; exact Nat.le_of_lt (hcl n c e))
    have ht:∀ b,G' b→∃ o,h'.get? b = some o:=fun b q=>by
      rcases q with q | q | ⟨n,c,e,q⟩
      · exact (W.gt b q).imp fun o e=>hk b o e
      · subst q; obtain ⟨o,es,ep,e,_⟩:=I'.toInCall.ns; exact ⟨o,e⟩
      · subst q; obtain ⟨o,e,_⟩:=I'.cell n b e; exact ⟨o,e⟩
    have W1:WR C G' ρ hp {s with heap:=h',toks:=tk}:=W.more hk hg ht
    have U1:Up C ρ ρ (Own ρ hp G) (Own ρ hp G') s.heap h':=⟨fun _ _ e=>e,fun b o e _ _=>hk b o e,fun b q=>q.elim (fun q=>.inl (.inl q)) fun q=>(hg b q).imp .inr id,W.tabAt⟩
    have hkd:∀ x,env.kindOf x = fd.scope.names.lookup x:=fun x=>rfl
    have hcx:∀ x∈slots,fd.scope.names.lookup x = some .cell→∃ c,env.cells.lookup x = some c∧ziu fd.scope L x = .cell c:=fun x hx q=>by
      rcases D.kinds x hx with z | ⟨z,c⟩
      · rw [q] at z; cases (z)
      · obtain ⟨c',e⟩:=Option.isSome_iff_exists.mp (c (L + 1))
        exact ⟨c',e,by unfold ziu; rw [if_pos q,e]; rfl⟩
    have hlx:∀ x∈slots,fd.scope.names.lookup x≠some .cell→fd.scope.names.lookup x = some .local∧ziu fd.scope L x = .ns L x:=fun x hx q=>by
      rcases D.kinds x hx with z | ⟨z,c⟩
      · exact ⟨z,by unfold ziu; rw [if_neg q]⟩
      · exact absurd z q
    have hnd:(((slots.take np).zip vs).map (·.1)).Nodup:=by
      rw [List.map_fst_zip (by rw [List.length_take,hvl]; lia)]
      exact D.nd.sublist (List.take_sublist _ _)
    have R1:LR C G' homes ρ hp (args.map some++List.replicate (slots.length - np) none) h':=by
      refine ⟨?_,fun i hm ov e1 e2=>?_,fun hm hmm=>?_,?_⟩
      · simp only [homes,za6,List.length_append,List.length_map,List.length_replicate,hn]
        have:=D.np; lia
      · simp only [homes,za6,List.getElem?_map,Option.map_eq_some_iff] at e1
        obtain ⟨x,ex,rfl⟩:=e1
        have hx:=List.mem_of_getElem? ex
        have hv:∀ v,ov = some v→∃ w,(x,w)∈(slots.take np).zip vs∧VR C ρ (Own ρ hp G') h' v w:=fun v ev=>by
          subst ev
          by_cases hi:i < np
          · rw [List.getElem?_append_left (by simp [hn,hi]),List.getElem?_map,Option.map_eq_some_iff] at e2
            obtain ⟨v',e2,e3⟩:=e2
            replace e3:=Option.some.inj e3; subst e3
            obtain ⟨w,ew,q⟩:=r.get e2
            exact ⟨w,zx4 (by rw [List.getElem?_take,if_pos hi]; exact ex) ew,VR.up U1 q⟩
          · rw [List.getElem?_append_right (by simp [hn]; lia),List.getElem?_replicate] at e2
            split at e2 <;> simp at e2
        by_cases q:fd.scope.names.lookup x = some .cell
        · obtain ⟨c,e,hh⟩:=hcx x hx q
          rw [hh]
          refine ⟨_,I'.cell x c e,fun v ev=>?_⟩
          obtain ⟨w,hw,r⟩:=hv v ev
          exact ⟨w,zu8 (by rw [hkd,q]; decide) _ _ hnd hw,r⟩
        · obtain ⟨hl,hh⟩:=hlx x hx q
          rw [hh]
          refine ⟨_,I'.toInCall.ns,fun v ev=>?_⟩
          obtain ⟨w,hw,r⟩:=hv v ev
          exact ⟨w,zu7 (by rw [hkd,hl]) _ _ hnd hw,r⟩
      · obtain ⟨x,hx,rfl⟩:=List.mem_map.mp hmm
        by_cases q:fd.scope.names.lookup x = some .cell
        · obtain ⟨c,e,hh⟩:=hcx x hx q
          rw [hh]; exact .inr (.inr ⟨x,c,e,rfl⟩)
        · rw [(hlx x hx q).2]; exact .inr (.inl rfl)
      · refine List.pairwise_map.mpr (List.Pairwise.imp_of_mem (fun {x y} hx hy hne he=>hne ?_) D.nd)
        by_cases q:fd.scope.names.lookup x = some .cell <;> by_cases q2:fd.scope.names.lookup y = some .cell
        · obtain ⟨c,e,hh⟩:=hcx x hx q
          obtain ⟨c2,e2,hh2⟩:=hcx y hy q2
          rw [hh,hh2] at he
          cases (he)
          exact name_of_addr I'.apart (mem_of_lookup e) (mem_of_lookup e2)
        · obtain ⟨c,e,hh⟩:=hcx x hx q
          rw [hh,(hlx y hy q2).2] at he; cases (he)
        · obtain ⟨c2,e2,hh2⟩:=hcx y hy q2
          rw [hh2,(hlx x hx q).2] at he; cases (he)
        · rw [(hlx x hx q).2,(hlx y hy q2).2] at he; cases (he); rfl
    have hfr:∀ b,Xh homes b→s.heap.get? b = none:=fun b zv1=>by
      obtain ⟨hm,hmm,e⟩:=zv1
      subst e
      obtain ⟨x,hx,rfl⟩:=List.mem_map.mp hmm
      by_cases q:fd.scope.names.lookup x = some .cell
      · obtain ⟨c,e,hh⟩:=hcx x hx q
        rw [hh]; exact nol c (Nat.le_of_lt (hcl x c e))
      · rw [(hlx x hx q).2]; exact nol L (Nat.le_refl _)
    have back:∀ {ρ':Ren} {hp':Hp} {s':Shared},Step C G' (Xh homes) ρ hp {s with heap:=h',toks:=tk} ρ' hp' s'→Step C G (fun _=>False) ρ hp s ρ' hp' s':=fun {ρ' hp' s'} S =>
      ⟨S.wr.less fun b q=>.inl q,S.ext,S.nx,fun b o e n p _=>S.keep b o (hk b o e) n p (fun q=>by rw [hfr b q] at e; exact noS e),
        fun b o e=>S.there b o (hk b o e),fun b q=>(S.live b q).imp id fun z=>by
          cases e:s.heap.get? b with
          | none=>rfl
          | some o=>rw [show h'.get? b = some o from hk b o e] at z; exact noN z⟩
    refine zra (h L _ G' (a.deeper _) _ _ _ _ _ em ρ _ W1 R1) fun f s' ρ' S _ fr=>?_
    cases fr with
    | rt r=>obtain ⟨h1,h2⟩:=zbf e; clear e; subst h1 h2; exact ⟨ρ',back S,VR.weak (fun b q=>q.imp id .inl) r⟩
    | nx=>obtain ⟨h1,h2⟩:=zbf e; clear e; subst h1 h2; exact ⟨ρ',back S,.none⟩
    | _=>exact noS e
section
variable {C:Cfg} {G G1 X X':Addr→Prop} {ρ ρ' ρ₁ ρ₂:Ren} {hp hp':Hp} {s s':Shared} {homes:List Home} {loc:Loc}
theorem zi3 {wr:Addr→Prop} (W:WR C G1 ρ hp s) {h':Heap} (hk:∀ b o,¬ wr b→s.heap.get? b = some o→h'.get? b = some o) (hw:∀ b,wr b→G1 b) (hG:∀ b,G b→G1 b) :
    Up C ρ ρ (Own ρ hp G1) (Own ρ hp G) s.heap h':=⟨fun _ _ e=>e,fun b o e n _=>hk b o (fun q=>n (.inr (hw b q))) e,fun b q=>.inl (q.imp id (hG b)),W.tabAt⟩
theorem WR.touch {wr:Addr→Prop} (W:WR C G1 ρ hp s) {h':Heap} {tk:Nat} (hk:∀ b o,¬ wr b→s.heap.get? b = some o→h'.get? b = some o) (hw:∀ b,wr b→G1 b) (hG:∀ b,G b→G1 b)
    (hg:∀ b,G b→∃ o,h'.get? b = some o) (hP:¬ wr C.P):WR C G ρ hp {s with heap:=h',toks:=tk}:=by
  have U:Up C ρ ρ (Own ρ hp G1) (Own ρ hp G) s.heap h':=zi3 W hk hw hG
  have lvw:∀ b,Lv ρ hp b→¬ wr b:=fun b q q'=>W.ng b q (hw b q')
  refine ⟨fun n o e=>?_,W.inj,W.top,W.nb,fun b q q'=>W.ng b q (hG b q'),hg,fun b q=>W.gb b (hG b q),fun b o e=>hk b o (fun q=>by rw [W.gb b (hw b q)] at e; exact noS e) (W.keep b o e),W.gens,W.os,?_⟩
  · obtain ⟨m,x,e1,r⟩:=W.obj n o e
    refine ⟨m,x,e1,?_⟩
    have hx:Lv ρ hp x:=⟨n,m,by rw [e]; simp,e1⟩
    exact r.up U (fun ob e=>hk _ _ (lvw _ hx) e)
  · obtain ⟨ps,e,t⟩:=W.tab
    exact ⟨ps,hk _ _ hP e,t.up fun a o e n p=>⟨hk _ _ (fun q=>n (.inr (hw _ q))) e,fun q=>(U.live _ q).elim n fun z=>by rw [z] at e; exact noS e⟩⟩
theorem Step.touch {wr:Addr→Prop} (W:WR C G ρ hp s) {h':Heap} {tk:Nat} (hk:∀ b o,¬ wr b→s.heap.get? b = some o→h'.get? b = some o) (hw:∀ b,wr b→G b)
    (ht:∀ b,wr b→∃ o,h'.get? b = some o) (hP:¬ wr C.P):Step C G wr ρ hp s ρ hp {s with heap:=h',toks:=tk}:=by
  have th:∀ b o,s.heap.get? b = some o→∃ o',h'.get? b = some o':=fun b o e=>by
    by_cases q:wr b
    · exact ht b q
    · exact ⟨o,hk b o q e⟩
  exact ⟨W.touch hk hw (fun _ q=>q) (fun b q=>let ⟨o,e⟩:=W.gt b q; th b o e) hP,fun _ _ e=>e,Nat.le_refl _,fun b o e _ _ x=>hk b o x e,th,fun _ q=>.inl q⟩
theorem nsSame {h:Heap} {a:Addr} {m m':Str→Option Value} (x:h.Ns a m) (y:h.Ns a m'):m = m':=by
  obtain ⟨o,es,ep,e,d,_,f⟩:=x
  obtain ⟨o',es',ep',e',d',_,f'⟩:=y
  rw [e] at e'
  replace e':=Option.some.inj e'; subst e'
  rw [d] at d'
  cases (d')
  funext n
  rw [← f,← f']
theorem LR.store {h h':Heap} (R:LR C G homes ρ hp loc h) {i:Nat} {hm:Home} {x:AV} (hi:homes[i]? = some hm)
    (k:∀ hm'∈homes,hm'≠hm→∀ ov,zet C ρ (Own ρ hp G) h hm' ov→zet C ρ (Own ρ hp G) h' hm' ov) (new:zet C ρ (Own ρ hp G) h' hm (some x)):LR C G homes ρ hp (loc.set i (some x)) h':=by
  refine ⟨by rw [List.length_set,R.len],fun j hm' ov e1 e2=>?_,R.g,R.nd⟩
  by_cases hj:i = j
  · subst hj
    rw [hi] at e1
    replace e1:=Option.some.inj e1; subst e1
    rw [List.getElem?_set_self'] at e2
    cases q:loc[i]? with
    | none=>rw [q] at e2; exact noS e2
    | some z=>rw [q] at e2; replace e2:=Option.some.inj e2; subst e2; exact new
  · rw [List.getElem?_set_ne hj] at e2
    refine k hm' (List.mem_of_getElem? e1) (fun q=>?_) ov (R.at_ j hm' ov e1 e2)
    subst q
    obtain ⟨hi',a⟩:=List.getElem?_eq_some_iff.mp hi
    obtain ⟨hj',b⟩:=List.getElem?_eq_some_iff.mp e1
    rcases Nat.lt_or_gt_of_ne hj with l | l
    · exact List.pairwise_iff_getElem.mp R.nd i j hi' hj' l (by rw [a,b])
    · exact List.pairwise_iff_getElem.mp R.nd j i hj' hi' l (by rw [a,b])
end
inductive TPost (C:Cfg) (G:Addr→Prop) (homes:List Home) (ρ:Ren) (hp:Hp) (s:Shared) (loc':Loc) (hp':Hp) (u:Unit) (s':Shared):Prop
  | mk (ρ':Ren) (a:Step C G (Xh homes) ρ hp s ρ' hp' s') (b:LR C G homes ρ' hp' loc' s'.heap):TPost C G homes ρ hp s loc' hp' u s'
theorem zii {C:Cfg} {G:Addr→Prop} {ρ:Ren} {hp hp':Hp} {s s0:Shared} {M:Model} {A:Around} {E':Value→Shared→Prop} {homes:List Home} {t:Sem Unit} {loc':Loc} {Q:Unit→Shared→Prop} (h:wpAny M A t (TPost C G homes ρ hp s0 loc' hp') noE s) (k:∀ w s₁ ρ₁,Step C G (Xh homes) ρ hp s0 ρ₁ hp' s₁→LR C G homes ρ₁ hp' loc' s₁.heap→Q w s₁):wpAny M A t Q E' s:=zde h fun w s₁ ⟨_,a,b⟩=>k w s₁ _ a b
noncomputable abbrev MT:=AV→Loc→Hp→Option (Loc × Hp)
inductive VX (C:Cfg) (ρ:Ren) (L:Addr→Prop) (h:Heap):Bool→AV→Value→Prop
  | val {tt:Bool} {x:AV} {v:Value}:VR C ρ L h x v→VX C ρ L h tt x v
  | tup {T:Addr} {vals:Array Value} {xs:List AV}:h.IsTuple T vals→VRs C ρ L h xs vals.toList→VX C ρ L h true (.tup xs) (.ref T)
noncomputable def SimT (C:Cfg) (k:Nat) (homes:List Home) (tt:Bool) (t:Value→Sem Unit) (m:MT):Prop :=
  ∀ A G,AOk k A→∀ x loc hp loc' hp',m x loc hp = some (loc',hp')→∀ ρ s w,WR C G ρ hp s→LR C G homes ρ hp loc s.heap→VX C ρ (Own ρ hp G) s.heap tt x w→wpAny (model C.prog C.w) A (t w) (TPost C G homes ρ hp s loc' hp') noE s
noncomputable def zxc (C:Cfg) (k:Nat) (homes:List Home) (ts:List (Value→Sem Unit)) (m:List AV→Loc→Hp→Option (Loc × Hp)):Prop :=
  ∀ A G,AOk k A→∀ xs loc hp loc' hp',m xs loc hp = some (loc',hp')→∀ ρ s ws,WR C G ρ hp s→LR C G homes ρ hp loc s.heap→VRs C ρ (Own ρ hp G) s.heap xs ws→wpAny (model C.prog C.w) A (assignInOrder ts ws) (TPost C G homes ρ hp s loc' hp') noE s
noncomputable def stE (i:Nat):MT:=fun x loc hp=>if i < loc.length then some (loc.set i (some x),hp) else none
noncomputable def nilT:List AV→Loc→Hp→Option (Loc × Hp)
  | [],loc,hp=>some (loc,hp)
  | _,_,_=>none
noncomputable def zd4 (t:MT) (r:List AV→Loc→Hp→Option (Loc × Hp)):List AV→Loc→Hp→Option (Loc × Hp)
  | x ::xs,loc,hp=>do
    let (loc,hp) ← t x loc hp
    r xs loc hp
  | _,_,_=>none
noncomputable def tupT (n:Nat) (r:List AV→Loc→Hp→Option (Loc × Hp)):MT:=fun x loc hp=>onT (fun xs=>if xs.length = n then r xs loc hp else none) x
section
variable {C:Cfg} {k:Nat} {env:Env} {homes:List Home} {G:Addr→Prop} {ρ:Ren} {hp:Hp} {s:Shared} {loc:Loc} {tt:Bool}
theorem VX.vr {L:Addr→Prop} {h:Heap} {x:AV} {v:Value} (r:VX C ρ L h false x v):VR C ρ L h x v:=by cases (r); assumption
theorem zvo {A:Around} {x:Str} {i:Nat} {v:AV} {w:Value} (hl:env.kindOf x = some .local) (hp':(env.scope.kind == .class || (env.scope.kind == .module && env.locals != env.globals)) = false)
    (hh:homes[i]? = some (.ns env.locals x)) (W:WR C G ρ hp s) (R:LR C G homes ρ hp loc s.heap) (r:VR C ρ (Own ρ hp G) s.heap v w) :
    wpAny (model C.prog C.w) A (storeName env x w) (TPost C G homes ρ hp s (loc.set i (some v)) hp) noE s:=by
  have hmm:=List.mem_of_getElem? hh
  obtain ⟨ov,hm0⟩:=R.home hmm
  obtain ⟨m,hn,_⟩:=id hm0
  have hg:G env.locals:=R.g _ hmm
  refine wpAny_storeName_local hl hn (fun h' hn' hs'=>?_) hp'
  have hk:∀ b o,¬ (b = env.locals)→s.heap.get? b = some o→h'.get? b = some o:=fun b o n e=>(hs'.2 b n).trans e
  have hw:∀ b,b = env.locals→G b:=fun b q=>q ▸ hg
  have S:Step C G (fun b=>b = env.locals) ρ hp s ρ hp {s with heap:=h',toks:=s.toks + 1}:=Step.touch W hk hw (fun b q=>by subst q; obtain ⟨o,_,_,e,_⟩:=hn'; exact ⟨o,e⟩) fun q=>hm0.neP W.tabAt q.symm
  have U:=zi3 W hk hw (fun _ q=>q)
  refine ⟨ρ,S.weak fun b q=>⟨_,hmm,q.symm⟩,R.store hh (fun hm' hm1 hne ov' q=>?_) ⟨_,hn',fun v' ev=>?_⟩⟩
  · cases hm' with
    | fz c d=>exact zet.upF U q
    | cell c =>
      refine q.up U fun o e=>?_
      obtain ⟨ow,⟨o1,e1,d1⟩,_⟩:=q
      obtain ⟨o2,_,_,e2,d2,_⟩:=hn
      refine (hs'.2 c fun z=>?_).trans e
      rw [← z,e1] at e2
      replace e2:=Option.some.inj e2; subst e2
      rw [d1] at d2; cases (d2)
    | ns a y =>
      by_cases ha:a = env.locals
      · subst ha
        obtain ⟨m',n',f⟩:=q
        have:=nsSame n' hn
        subst this
        refine ⟨_,hn',fun v' ev=>?_⟩
        obtain ⟨w',e',r'⟩:=f v' ev
        have hy:y≠x:=fun z=>hne (by rw [z])
        exact ⟨w',by simp only [hy,if_false]; exact e',VR.up U r'⟩
      · exact zet.up (hm:=.ns a y) U (fun o e=>(hs'.2 a ha).trans e) q
  · replace ev:=Option.some.inj ev; subst ev
    exact ⟨w,by simp,VR.up U r⟩
theorem zqo {A:Around} {x:Str} {i:Nat} {v:AV} {w:Value} {c:Addr} (hkd:env.scope.kind = .function) (hl:env.kindOf x = some .cell) (hc:env.cells.lookup x = some c)
    (hh:homes[i]? = some (.cell c)) (W:WR C G ρ hp s) (R:LR C G homes ρ hp loc s.heap) (r:VR C ρ (Own ρ hp G) s.heap v w) :
    wpAny (model C.prog C.w) A (storeName env x w) (TPost C G homes ρ hp s (loc.set i (some v)) hp) noE s:=by
  have hmm:=List.mem_of_getElem? hh
  obtain ⟨ov,hm0⟩:=R.home hmm
  obtain ⟨ow,hn,_⟩:=id hm0
  have hg:G c:=R.g _ hmm
  refine wpAny_storeName_cell hkd hl hc hn (fun h' hn' hs'=>?_)
  have hk:∀ b o,¬ (b = c)→s.heap.get? b = some o→h'.get? b = some o:=fun b o n e=>(hs'.2 b n).trans e
  have hw:∀ b,b = c→G b:=fun b q=>q ▸ hg
  have S:Step C G (fun b=>b = c) ρ hp s ρ hp {s with heap:=h',toks:=s.toks}:=Step.touch W hk hw (fun b q=>by subst q; obtain ⟨o,e,_⟩:=hn'; exact ⟨o,e⟩) fun q=>hm0.neP W.tabAt q.symm
  have U:=zi3 W hk hw (fun _ q=>q)
  refine ⟨ρ,S.weak fun b q=>⟨_,hmm,q.symm⟩,R.store hh (fun hm' hm1 hne ov' q=>?_) ⟨_,hn',fun v' ev=>?_⟩⟩
  · cases hm' with
    | fz c d=>exact zet.upF U q
    | cell c'=>exact q.up U fun o e=>(hs'.2 _ fun z=>hne (by rw [show c' = c from z])).trans e
    | ns a y =>
      refine q.up U fun o e=>(hs'.2 _ fun z=>?_).trans e
      obtain ⟨m',⟨o2,_,_,e2,d2,_⟩,_⟩:=q
      obtain ⟨o1,e1,d1⟩:=hn
      rw [show a = c from z,e1] at e2
      replace e2:=Option.some.inj e2; subst e2
      rw [d1] at d2; cases (d2)
  · replace ev:=Option.some.inj ev; subst ev
    exact ⟨w,rfl,VR.up U r⟩
theorem zaj {x:Str} (i:Nat) (hl:env.kindOf x = some .local) (hkd:env.scope.kind = .function) (hh:homes[i]? = some (.ns env.locals x)):SimT C k homes false (fun v=>storeName env x v) (stE i):=by
  intro A G a x loc hp loc' hp' e ρ s w W R r
  simp only [stE] at e
  revert e; refine ifR fun _ e=>?_
  obtain ⟨h1,h2⟩:=zbf e; clear e; subst h1 h2
  exact zvo hl (by rw [hkd]; rfl) hh W R r.vr
theorem zbg {x:Str} {c:Addr} (i:Nat) (hl:env.kindOf x = some .cell) (hkd:env.scope.kind = .function) (hc:env.cells.lookup x = some c) (hh:homes[i]? = some (.cell c)):SimT C k homes false (fun v=>storeName env x v) (stE i):=by
  intro A G a x loc hp loc' hp' e ρ s w W R r
  simp only [stE] at e
  revert e; refine ifR fun _ e=>?_
  obtain ⟨h1,h2⟩:=zbf e; clear e; subst h1 h2
  exact zqo hkd hl hc hh W R r.vr
theorem zap {x:Str} {pos:Pos} {m:MT} (h:SimT C k homes false (fun v=>storeName env x v) m):SimT C k homes false (assign (.Name x pos) env) m:=by
  intro A G a x loc hp loc' hp' e ρ s w W R r
  exact wpAny_assign_Name (h A G a _ _ _ _ _ e ρ s w W R r)
theorem TPost.trans {ρ₁:Ren} {hp₁ hp':Hp} {s₁:Shared} {loc':Loc} {u:Unit} {s':Shared} (S:Step C G (Xh homes) ρ hp s ρ₁ hp₁ s₁) (h:TPost C G homes ρ₁ hp₁ s₁ loc' hp' u s'):TPost C G homes ρ hp s loc' hp' u s':=by
  obtain ⟨ρ',S',R⟩:=h
  exact ⟨ρ',S.trans S',R⟩
theorem zgi:zxc C k homes [] nilT:=by
  intro A G a xs loc hp loc' hp' e ρ s ws W R r
  cases r with
  | nil=>obtain ⟨h1,h2⟩:=zbf e; clear e; subst h1 h2; exact wpAny_assignInOrder_none ⟨ρ,Step.refl W,R⟩
  | cons _ _=>exact noS e
theorem zcv {t:Value→Sem Unit} {ts:List (Value→Sem Unit)} {m:MT} {r:List AV→Loc→Hp→Option (Loc × Hp)} (h:SimT C k homes false t m) (hr:zxc C k homes ts r):zxc C k homes (t ::ts) (zd4 m r):=by
  intro A G a xs loc hp loc' hp' e ρ s ws W R rr
  cases rr with
  | nil=>exact noS e
  | cons r1 r2 =>
    revert e; refine bpR fun loc1 hp1 e1 e2=>?_
    refine wpAny_assignInOrder_more (zii (h A G a _ _ _ _ _ e1 ρ s _ W R (.val r1)) fun _ s₁ ρ₁ S₁ R₁=>?_)
    exact zde (hr A G a _ _ _ _ _ e2 ρ₁ s₁ _ S₁.wr R₁ (VRs.up (S₁.up W R.xg) r2)) fun _ s₂ h2=>h2.trans S₁
theorem zfu {elts:List Expr} {q:Nat} {pos:Pos} {m:List AV→Loc→Hp→Option (Loc × Hp)} (h:zxc C k homes ((assignEach elts env).map (·.2)) m) (hstar:(assignEach elts env).findIdx? (·.1) = none) :
    SimT C k homes tt (assign (.Tuple elts q pos) env) (tupT (assignEach elts env).length m):=by
  intro A G a x loc hp loc' hp' e ρ s w W R r
  have key:∀ xs (T:Addr) (vals:Array Value),(if xs.length = (assignEach elts env).length then m xs loc hp else none) = some (loc',hp')→s.heap.IsTuple T vals→VRs C ρ (Own ρ hp G) s.heap xs vals.toList→wpAny (model C.prog C.w) A (assign (.Tuple elts q pos) env (.ref T)) (TPost C G homes ρ hp s loc' hp') noE s:=fun xs T vals=>ifR fun hlen e ht rr=>by
    refine wpAny_assign_Tuple a.hd ht (by rw [← hlen,rr.length,Array.length_toList]) hstar fun h' hx=>?_
    have S:=Step.same (X:=Xh homes) (h':=h') (tk:=s.toks) W (fun b o e=>hx b o (Nat.ne_of_lt (Heap.lt_size e)) e)
    have S0:=Step.same (X:=fun _=>False) (h':=h') (tk:=s.toks) W (fun b o e=>hx b o (Nat.ne_of_lt (Heap.lt_size e)) e)
    exact zde (h A G a _ _ _ _ _ e ρ _ _ S.wr (R.step0 W S0) (VRs.up (S0.up W fun _ q=>q.elim) rr)) fun _ s₂ h2=>h2.trans S
  cases r with
  | val r =>
    apply onTR ?_ r e; intro xs a n vs e1 _ rr e
    exact key _ _ _ e ⟨_,e1,rfl,_,rfl⟩ rr
  | tup ht rr=>exact key _ _ _ e ht rr
end
noncomputable def nilS:MS:=fun loc hp=>some (.nx,loc,hp)
noncomputable def seqS (m r:MS):MS:=fun loc hp=>(m loc hp).bind fun
  | (.nx,loc,hp)=>r loc hp
  | x=>some x
noncomputable def asgS (m:ME) (t:MT):MS:=fun loc hp=>do
  let (v,hp) ← m loc hp
  let (loc,hp) ← t v loc hp
  some (.nx,loc,hp)
noncomputable def zcl (m:ME):MS:=fun loc hp=>do
  let (_,hp) ← m loc hp
  some (.nx,loc,hp)
noncomputable def retS (m:ME):MS:=fun loc hp=>do
  let (v,hp) ← m loc hp
  some (.rt v,loc,hp)
noncomputable def brS:MS:=fun loc hp=>some (.br,loc,hp)
noncomputable def ctS:MS:=fun loc hp=>some (.ct,loc,hp)
noncomputable def iteS (b:MB) (m1 m2:MS):MS:=fun loc hp=>(b loc hp).bind fun (q,hp)=>bif q then m1 loc hp else m2 loc hp
noncomputable def zcd (b:MB) (body:MS):Nat→MS
  | 0=>fun _ _=>none
  | f + 1=>fun loc hp=>(b loc hp).bind fun (q,hp)=>bif q then (body loc hp).bind (fun
      | (.nx,loc,hp)=>zcd b body f loc hp
      | (.ct,loc,hp)=>zcd b body f loc hp
      | (.br,loc,hp)=>some (.nx,loc,hp)
      | x=>some x)
      else some (.nx,loc,hp)
theorem whileM_e1 (b:MB) (body:MS):zcd b body 0 =
   ((fun _ _=>none)):=rfl
theorem whileM_e2 (b:MB) (body:MS):∀ f,zcd b body (f + 1) =
   ((fun loc hp=>(b loc hp).bind fun (q,hp)=>bif q then (body loc hp).bind (fun
      | (.nx,loc,hp)=>zcd b body f loc hp
      | (.ct,loc,hp)=>zcd b body f loc hp
      | (.br,loc,hp)=>some (.nx,loc,hp)
      | x=>some x)
      else some (.nx,loc,hp))):=fun _=>rfl
noncomputable def augS (i:Nat) (m:ME) (op:AV→AV→Hp→Option (AV × Hp)):MS:=fun loc hp=>do
  let (x,hp) ← lcl i loc hp
  let (y,hp) ← m loc hp
  let (v,hp) ← op x y hp
  let (loc,hp) ← stE i v loc hp
  some (.nx,loc,hp)
section
variable {C:Cfg} {k:Nat} {env:Env} {homes:List Home} {G:Addr→Prop} {ρ ρ₁:Ren} {hp hp₁ hp':Hp} {s s₁ s':Shared} {loc loc':Loc} {f:Fl} {fw:Flow}
theorem SPost.trans (S:Step C G (Xh homes) ρ hp s ρ₁ hp₁ s₁) (h:SPost C G homes ρ₁ hp₁ s₁ f loc' hp' fw s'):SPost C G homes ρ hp s f loc' hp' fw s':=by
  obtain ⟨ρ',S',R,r⟩:=h
  exact ⟨ρ',S.trans S',R,r⟩
theorem zah:SimS C k homes (execs [] env) nilS:=by
  intro A G a loc hp f loc' hp' e ρ s W R
  obtain ⟨h1,h2,h3⟩:=zev e; clear e; subst h1 h2 h3
  exact wpAny_execs_nil ⟨ρ,Step.refl W,R,.nx⟩
theorem zab {st:Stmt} {rest:List Stmt} {m r:MS} (h:SimS C k homes (exec st env) m) (hr:SimS C k homes (execs rest env) r):SimS C k homes (execs (st ::rest) env) (seqS m r):=by
  intro A G a loc hp f loc' hp' e ρ s W R
  refine wpAny_execs_cons ?_
  revert e; refine btR fun f1 loc1 hp1 em e=>?_
  refine zra (h A G a _ _ _ _ _ em ρ s W R) fun fw s₁ ρ₁ S₁ R₁ fr=>?_
  cases fr with
  | nx=>exact zde (hr A G a _ _ _ _ _ e ρ₁ s₁ S₁.wr R₁) fun _ s₂ h2=>h2.trans S₁
  | br=>obtain ⟨h1,h2,h3⟩:=zev e; clear e; subst h1 h2 h3; exact ⟨ρ₁,S₁,R₁,.br⟩
  | ct=>obtain ⟨h1,h2,h3⟩:=zev e; clear e; subst h1 h2 h3; exact ⟨ρ₁,S₁,R₁,.ct⟩
  | rt q=>obtain ⟨h1,h2,h3⟩:=zev e; clear e; subst h1 h2 h3; exact ⟨ρ₁,S₁,R₁,.rt q⟩
theorem zag {x:Str} {p pos:Pos} {value:Expr} {m:ME} {t:MT} (hm:SimE C k homes (eval value env) m) (ht:SimT C k homes false (fun v=>storeName env x v) t) (hs:swapsWith value (some (.Name x p)) pos.line env = pure false) :
    SimS C k homes (exec (.Assign [.Name x p] value pos) env) (asgS m t):=by
  intro A G a loc hp f loc' hp' e ρ s W R
  revert e; refine bpR fun v hp1 e1=>bpR fun loc1 hp2 e2 e3=>?_
  obtain ⟨h1,h2,h3⟩:=zev e3; clear e3; subst h1 h2 h3
  refine wpAny_Assign_Name (zco (hm A G a _ _ _ _ e1 ρ s W R) fun w s₁ ρ₁ S₁ r₁=>?_) hs
  exact zii (ht A G a _ _ _ _ _ e2 ρ₁ s₁ w S₁.wr (R.step0 W S₁) (.val r₁)) fun _ s₂ ρ₂ S₂ R₂=>⟨ρ₂,S₁.none.trans S₂,R₂,.nx⟩
theorem zg6 {tg value:Expr} {pos:Pos} {m:ME} {t:MT} (hm:SimE C k homes (eval value env) m) (ht:SimT C k homes false (assign tg env) t) (he:(assignEach [tg] env).map (·.2) = [assign tg env]) (hs:swapsWith value (some tg) pos.line env = pure false)
    (hw:swappedStores [tg] value env = pure none):SimS C k homes (exec (.Assign [tg] value pos) env) (asgS m t):=by
  intro A G a loc hp f loc' hp' e ρ s W R
  revert e; refine bpR fun v hp1 e1=>bpR fun loc1 hp2 e2 e3=>?_
  obtain ⟨h1,h2,h3⟩:=zev e3; clear e3; subst h1 h2 h3
  refine wpAny_Assign_stores (zco (hm A G a _ _ _ _ e1 ρ s W R) fun w s₁ ρ₁ S₁ r₁=>?_) hs hw
  rw [he]
  exact zii (ht A G a _ _ _ _ _ e2 ρ₁ s₁ w S₁.wr (R.step0 W S₁) (.val r₁)) fun _ s₂ ρ₂ S₂ R₂=>⟨ρ₂,S₁.none.trans S₂,R₂,.nx⟩
noncomputable def asg3 (m:ME) (t1 t2 t3:MT):MS:=fun loc hp=>do
  let (v,hp) ← m loc hp
  let (loc,hp) ← t1 v loc hp
  let (loc,hp) ← t2 v loc hp
  let (loc,hp) ← t3 v loc hp
  some (.nx,loc,hp)
theorem znq {a1 a2 a3 value:Expr} {pos:Pos} {m:ME} {t1 t2 t3:MT} (hm:SimE C k homes (eval value env) m) (h1:SimT C k homes false (assign a1 env) t1) (h2:SimT C k homes false (assign a2 env) t2) (h3:SimT C k homes false (assign a3 env) t3)
    (he:(assignEach [a1,a2,a3] env).map (·.2) = [assign a1 env,assign a2 env,assign a3 env]) (hw:swappedStores [a1,a2,a3] value env = pure none):SimS C k homes (exec (.Assign [a1,a2,a3] value pos) env) (asg3 m t1 t2 t3):=by
  intro A G a loc hp f loc' hp' e ρ s W R
  revert e; refine bpR fun v hp1 e1=>bpR fun loc1 hp2 e2=>bpR fun loc3 hp3 e3=>bpR fun loc4 hp4 e4 e5=>?_
  obtain ⟨h1,h2,h3⟩:=zev e5; clear e5; subst h1 h2 h3
  refine wpAny_Assign_three (zco (hm A G a _ _ _ _ e1 ρ s W R) fun w s₁ ρ₁ S₁ r₁=>?_) he hw
  refine zii (h1 A G a _ _ _ _ _ e2 ρ₁ s₁ w S₁.wr (R.step0 W S₁) (.val r₁)) fun _ s₂ ρ₂ S₂ R₂=>?_
  have r₂:=VR.up (S₂.up S₁.wr R₂.xg) r₁
  refine zii (h2 A G a _ _ _ _ _ e3 ρ₂ s₂ w S₂.wr R₂ (.val r₂)) fun _ s₃ ρ₃ S₃ R₃=>?_
  have r₃:=VR.up (S₃.up S₂.wr R₃.xg) r₂
  exact zii (h3 A G a _ _ _ _ _ e4 ρ₃ s₃ w S₃.wr R₃ (.val r₃)) fun _ s₄ ρ₄ S₄ R₄=>⟨ρ₄,S₁.none.trans (S₂.trans (S₃.trans S₄)),R₄,.nx⟩
theorem zbp {e:Expr} {pos:Pos} {m:ME} (hm:SimE C k homes (eval e env) m) (hi:interactive env = false) (hs:swapsWith e none pos.line env = pure false):SimS C k homes (exec (.Expr e pos) env) (zcl m):=by
  intro A G a loc hp f loc' hp' e ρ s W R
  revert e; refine bpR fun v hp1 e1 e3=>?_
  obtain ⟨h1,h2,h3⟩:=zev e3; clear e3; subst h1 h2 h3
  exact wpAny_Expr_any (zco (hm A G a _ _ _ _ e1 ρ s W R) fun w s₁ ρ₁ S₁ r₁=>⟨ρ₁,S₁.none,R.step0 W S₁,.nx⟩) hi hs
theorem zbd {e:Expr} {pos:Pos} {m:ME} (hm:SimE C k homes (eval e env) m):SimS C k homes (exec (.Return (some e) pos) env) (retS m):=by
  intro A G a loc hp f loc' hp' e ρ s W R
  revert e; refine bpR fun v hp1 e1 e3=>?_
  obtain ⟨h1,h2,h3⟩:=zev e3; clear e3; subst h1 h2 h3
  exact wpAny_Return_some (zco (hm A G a _ _ _ _ e1 ρ s W R) fun w s₁ ρ₁ S₁ r₁=>⟨ρ₁,S₁.none,R.step0 W S₁,.rt r₁⟩)
theorem zlu {pos:Pos}:SimS C k homes (exec (.Break pos) env) brS:=by
  intro A G a loc hp f loc' hp' e ρ s W R
  obtain ⟨h1,h2,h3⟩:=zev e; clear e; subst h1 h2 h3
  exact wpAny_Break ⟨ρ,Step.refl W,R,.br⟩
theorem zib {pos:Pos}:SimS C k homes (exec (.Continue pos) env) ctS:=by
  intro A G a loc hp f loc' hp' e ρ s W R
  obtain ⟨h1,h2,h3⟩:=zev e; clear e; subst h1 h2 h3
  exact wpAny_Continue ⟨ρ,Step.refl W,R,.ct⟩
theorem zbq {test:Expr} {b1 b2:List Stmt} {pos:Pos} {b:MB} {m1 m2:MS} (hb:SimB C k homes (isTrue test env (eval test env)) b) (h1:SimS C k homes (execs b1 env) m1) (h2:SimS C k homes (execs b2 env) m2) :
    SimS C k homes (exec (.If test b1 b2 pos) env) (iteS b m1 m2):=by
  intro A G a loc hp f loc' hp' e ρ s W R
  revert e; refine bpR fun w hp1 e1 e=>?_
  refine wpAny_If (zmq (hb A G a _ _ _ _ e1 ρ s W R) fun w s₁ ρ₁ S₁ r₁=>?_)
  subst r₁
  cases w with
  | true=>exact zde (h1 A G a _ _ _ _ _ e ρ₁ s₁ S₁.wr (R.step0 W S₁)) fun _ s₂ h2=>h2.trans S₁.none
  | false=>exact zde (h2 A G a _ _ _ _ _ e ρ₁ s₁ S₁.wr (R.step0 W S₁)) fun _ s₂ h2=>h2.trans S₁.none
inductive WhInv (C:Cfg) (G:Addr→Prop) (homes:List Home) (ρ:Ren) (hp:Hp) (s:Shared) (b:MB) (m:MS) (z:Fl × Loc × Hp) (n:Nat) (s₁:Shared):Prop
  | mk (ρ₁:Ren) (hp₁:Hp) (loc₁:Loc) (h1:Step C G (Xh homes) ρ hp s ρ₁ hp₁ s₁) (h2:LR C G homes ρ₁ hp₁ loc₁ s₁.heap) (h3:zcd b m n loc₁ hp₁ = some z):WhInv C G homes ρ hp s b m z n s₁
theorem ze2 {test:Expr} {body:List Stmt} {pos:Pos} {b:MB} {m:MS} (F:Nat) (hb:SimB C k homes (isTrue test env (eval test env)) b) (h1:SimS C k homes (execs body env) m) :
    SimS C k homes (exec (.While test body [] pos) env) (zcd b m F):=by
  intro A G a loc hp f loc' hp' e ρ s W R
  refine wpAny_While (codeAny_whileLoop (WhInv C G homes ρ hp s b m (f,loc',hp')) (fun n s₁ ⟨ρ₁,hp₁,loc₁,S₁,R₁,e₁⟩=>?_) F ⟨ρ,hp,loc,Step.refl W,R,e⟩)
  cases n with
  | zero=>exact noS e₁
  | succ n =>
    revert e₁; refine bpR fun w hp2 eb e₁=>?_
    refine zmq (hb A G a _ _ _ _ eb ρ₁ s₁ S₁.wr R₁) fun w s₂ ρ₂ S₂ r₂=>?_
    subst r₂
    cases w with
    | false =>
      obtain ⟨h1,h2,h3⟩:=zev e₁; clear e₁; subst h1 h2 h3
      exact wpAny_execs_nil ⟨ρ₂,S₁.trans S₂.none,R₁.step0 S₁.wr S₂,.nx⟩
    | true =>
      revert e₁; refine btR fun f3 loc3 hp3 em e₁=>?_
      refine zra (h1 A G a _ _ _ _ _ em ρ₂ s₂ S₂.wr (R₁.step0 S₁.wr S₂)) fun fw s₃ ρ₃ S₃ R₃ fr=>?_
      have S13:=S₁.trans (S₂.none.trans S₃)
      cases fr with
      | nx=>exact ⟨n,Nat.lt_succ_self n,ρ₃,hp3,loc3,S13,R₃,e₁⟩
      | ct=>exact ⟨n,Nat.lt_succ_self n,ρ₃,hp3,loc3,S13,R₃,e₁⟩
      | br=>obtain ⟨h1,h2,h3⟩:=zev e₁; clear e₁; subst h1 h2 h3; exact ⟨ρ₃,S13,R₃,.nx⟩
      | rt q=>obtain ⟨h1,h2,h3⟩:=zev e₁; clear e₁; subst h1 h2 h3; exact ⟨ρ₃,S13,R₃,.rt q⟩
theorem zmh {x:Str} {p pos:Pos} {op:Operator} {value:Expr} {m:ME} {o:AV→AV→Hp→Option (AV × Hp)} (i:Nat) (hk:env.scope.kind = .function) (hl:env.kindOf x = some .local) (hh:homes[i]? = some (.ns env.locals x))
    (hm:SimE C k homes (eval value env) m) (ho:SimO C k (inplaceOp op) o):SimS C k homes (exec (.AugAssign (.Name x p) op value pos) env) (augS i m o):=by
  intro A G a loc hp f loc' hp' e ρ s W R
  revert e; refine bpR fun x1 hp1 e1=>bpR fun y1 hp2 e2=>bpR fun v1 hp3 e3=>bpR fun loc4 hp4 e4 e5=>?_
  obtain ⟨h1,h2,h3⟩:=zev e5; clear e5; subst h1 h2 h3
  revert e1; refine lclR fun v' ev e1=>?_
  cases (e1)
  obtain ⟨mm,n,q⟩:=R.at_ i _ _ hh ev
  obtain ⟨w,ew,r⟩:=q _ rfl
  refine wpAny_AugAssign_Name (wpAny_loadName_local hk hl n ew ?_)
  refine zco (hm A G a _ _ _ _ e2 ρ s W R) fun yv s₁ ρ₁ S₁ r₁=>?_
  refine zco (ho A G a _ _ _ _ _ e3 ρ₁ s₁ _ _ S₁.wr (VR.up (S₁.up W fun _ q=>q.elim) r) r₁) fun rv s₂ ρ₂ S₂ r₂=>?_
  have S12:=S₁.trans S₂
  exact zii (zaj (k:=k) i hl hk hh A G a _ _ _ _ _ e4 ρ₂ s₂ _ S₂.wr (R.step0 W S12) (.val r₂)) fun _ s₃ ρ₃ S₃ R₃=>⟨ρ₃,S12.none.trans S₃,R₃,.nx⟩
end
section
variable {C:Cfg} {G G1 G2 X Y:Addr→Prop} {ρ ρ' ρ₁ ρ₂ ρi:Ren} {hp hp' hp₁ hp₂ hpi:Hp} {s s' s₁ s₂ si:Shared} {homes:List Home} {loc:Loc}
theorem Step.trans' (S:Step C G1 X ρ hp s ρ₁ hp₁ s₁) (T:Step C G2 Y ρ₁ hp₁ s₁ ρ₂ hp₂ s₂) (hY:∀ b,Y b→X b∨s.heap.get? b = Option.none):Step C G2 X ρ hp s ρ₂ hp₂ s₂ where
  wr:=T.wr
  ext:=fun n p e=>T.ext n p (S.ext n p e)
  nx:=Nat.le_trans S.nx T.nx
  keep:=fun b o e n p x=>T.keep b o (S.keep b o e n p x) (fun q=>(S.live b q).elim n fun z=>by rw [z] at e; exact noS e) p fun y=>(hY b y).elim x fun z=>by rw [z] at e; exact noS e
  there:=fun b o e=>let ⟨o₁,e₁⟩:=S.there b o e; T.there b o₁ e₁
  live:=fun b q=>(T.live b q).elim (S.live b) fun z=>.inr (by
    cases e:s.heap.get? b with
    | none=>rfl
    | some o=>obtain ⟨o₁,e₁⟩:=S.there b o e; rw [z] at e₁; exact noS e₁)
theorem Step.up1 (S:Step C G1 X ρ hp s ρi hpi si) (W:WR C G ρ hp s) (hX:∀ b,X b→G b) (hn:∀ b,G1 b→G b∨s.heap.get? b = Option.none):Up C ρ ρi (Own ρ hp G) (Own ρi hpi G1) s.heap si.heap where
  ext:=S.ext
  keep:=fun b o e n p=>S.keep b o e (fun q=>n (.inl q)) p fun q=>n (.inr (hX _ q))
  live:=fun b q=>q.elim (fun q=>(S.live b q).imp .inl id) fun q=>(hn b q).imp .inr id
  tab:=W.tabAt
theorem Step.grow (W:WR C G ρ hp s) {h':Heap} {tk:Nat} (k:∀ b o,s.heap.get? b = some o→h'.get? b = some o) (hg:∀ b,G1 b→G b∨s.heap.get? b = Option.none) (ht:∀ b,G1 b→∃ o,h'.get? b = some o) :
    Step C G1 X ρ hp s ρ hp {s with heap:=h',toks:=tk} :=
  ⟨W.more k hg ht,fun _ _ e=>e,Nat.le_refl _,fun b o e _ _ _=>k b o e,fun b o e=>⟨o,k b o e⟩,fun _ q=>.inl q⟩
theorem LR.less {h:Heap} (R:LR C G1 homes ρ hp loc h) (hG:∀ b,G b→G1 b) (hg:∀ hm∈homes,G hm.addr):LR C G homes ρ hp loc h:=by
  refine ⟨R.len,fun i hm ov e1 e2=>?_,hg,R.nd⟩
  have hh:=R.at_ i hm ov e1 e2
  cases hm with
  | ns a x =>
    obtain ⟨m,n,f⟩:=hh
    exact ⟨m,n,fun v ev=>let ⟨w,e,r⟩:=f v ev; ⟨w,e,VR.weak (fun b q=>q.imp id (hG b)) r⟩⟩
  | cell c =>
    obtain ⟨m,n,f⟩:=hh
    exact ⟨m,n,fun v ev=>let ⟨w,e,r⟩:=f v ev; ⟨w,e,VR.weak (fun b q=>q.imp id (hG b)) r⟩⟩
  | fz c d =>
    obtain ⟨⟨n1,n2,n3⟩,m,n,f⟩:=hh
    exact ⟨⟨fun q=>n1 (q.imp id (hG _)),n2,n3⟩,m,n,fun v ev=>let ⟨w,e,r⟩:=f v ev; ⟨w,e,VR.weak (fun b q=>q.imp id (hG b)) r⟩⟩
theorem LR.up {h h':Heap} (R:LR C G homes ρ hp loc h) (U:Up C ρ ρ' (Own ρ hp G) (Own ρ' hp' G1) h h') (hk:∀ hm∈homes,∀ o,h.get? hm.addr = some o→h'.get? hm.addr = some o) (hG:∀ b,G b→G1 b):LR C G1 homes ρ' hp' loc h' :=
  ⟨R.len,fun i hm ov e1 e2=>(R.at_ i hm ov e1 e2).up U (hk hm (List.mem_of_getElem? e1)),fun hm q=>hG _ (R.g hm q),R.nd⟩
end
structure It (C:Cfg) (A:Around) (G:Addr→Prop) (ρ:Ren) (hp:Hp) (s:Shared) (target:Expr) (tt:Bool) (xs:List AV) (I:Addr) (fp wr:List Addr) (P Md:Nat→Value→Heap→Prop) (St:Nat→Heap→Prop) (s':Shared):Prop where
  kt:KTurns C.prog C.w A target I fp wr xs.length P Md St
  st0:St 0 s'.heap
  same:∃ h' tk,s' = {s with heap:=h',toks:=tk}
  keep:∀ b o,s.heap.get? b = some o→s'.heap.get? b = some o
  fresh:∀ b∈wr,s.heap.get? b = none
  ex:∀ i h,St i h→∀ b∈wr,∃ o,h.get? b = some o
  old:∀ b∈fp,b∈wr∨((∃ o,s.heap.get? b = some o)∧¬ Own ρ hp G b∧b≠C.P)
  val:∀ i v x ρ' L' h',xs[i]? = some x→P i v h'→Up C ρ ρ' (Own ρ hp G) L' s.heap h'→VX C ρ' L' h' tt x v
  self:∀ (s:Shared) (Q:Value→Shared→Prop) (E:Value→Shared→Prop),St 0 s.heap→Q (.ref I) s→wpAny (model C.prog C.w) A (pyIter (.ref I)) Q E s
inductive ItS (C:Cfg) (A:Around) (G:Addr→Prop) (ρ:Ren) (hp:Hp) (s:Shared) (target:Expr) (tt:Bool) (xs:List AV):Value→Shared→Prop
  | mk {s':Shared} (I:Addr) (fp wr:List Addr) (P Md:Nat→Value→Heap→Prop) (St:Nat→Heap→Prop) (b:It C A G ρ hp s target tt xs I fp wr P Md St s'):ItS C A G ρ hp s target tt xs (.ref I) s'
inductive ItP (C:Cfg) (A:Around) (G:Addr→Prop) (ρ:Ren) (hp:Hp) (s:Shared) (hp':Hp) (target:Expr) (tt:Bool) (xs:List AV) (it:Value) (s₂:Shared):Prop
  | mk (ρ':Ren) (s':Shared) (a:Step C G (fun _=>False) ρ hp s ρ' hp' s') (b:ItS C A G ρ' hp' s' target tt xs it s₂):ItP C A G ρ hp s hp' target tt xs it s₂
noncomputable def SimI (C:Cfg) (k:Nat) (homes:List Home) (target:Expr) (tt:Bool) (ite:Expr) (env:Env) (m:Loc→Hp→Option (List AV × Hp)):Prop :=
  ∀ A G,AOk k A→∀ loc hp xs hp',m loc hp = some (xs,hp')→∀ ρ s,WR C G ρ hp s→LR C G homes ρ hp loc s.heap→
    wpAny (model C.prog C.w) A (eval ite env) (fun x s₁=>wpAny (model C.prog C.w) A (pyIter x) (ItP C A G ρ hp s hp' target tt xs) noE s₁) noE s
section
variable {C:Cfg} {A:Around} {G G1 X:Addr→Prop} {ρ ρi:Ren} {hp hpi:Hp} {s s' si:Shared} {target:Expr} {tt:Bool} {xs:List AV} {I:Addr} {fp wr:List Addr} {P Md:Nat→Value→Heap→Prop} {St:Nat→Heap→Prop}
theorem It.wrP (T:It C A G ρ hp s target tt xs I fp wr P Md St s') (W:WR C G ρ hp s):¬ C.P∈wr:=fun q=>by
  obtain ⟨ps,e⟩:=W.tabAt
  rw [T.fresh _ q] at e; exact noS e
theorem It.frame (T:It C A G ρ hp s target tt xs I fp wr P Md St s') (W:WR C G ρ hp s) (hX:∀ b,X b→G b) (hG:∀ b,G b→G1 b) (hn:∀ b,G1 b→G b∨s.heap.get? b = none) (hw:∀ b∈wr,G1 b) (S:Step C G1 X ρ hp s ρi hpi si)
    {ρj:Ren} {hpj:Hp} {sj:Shared} {Y:Addr→Prop} (hY:∀ b,Y b→(G b∨s.heap.get? b = none)∧¬ b∈wr) (T2:Step C G1 Y ρi hpi si ρj hpj sj) {i:Nat} (st:St i si.heap):St i sj.heap:=by
  refine T.kt.frame i _ _ st fun b hb o e=>?_
  rcases T.old b hb with hbw | ⟨⟨o1,e1⟩,n1,p1⟩
  · exact T2.keep b o e (fun q=>S.wr.ng b q (hw b hbw)) (fun q=>T.wrP W (q ▸ hbw)) fun q=>(hY b q).2 hbw
  · refine T2.keep b o e (fun q=>?_) p1 fun q=>?_
    · exact (S.live b q).elim (fun q=>n1 (.inl q)) fun z=>by rw [z] at e1; exact noS e1
    · exact (hY b q).1.elim (fun q=>n1 (.inr q)) fun z=>by rw [z] at e1; exact noS e1
theorem It.item (T:It C A G ρ hp s target tt xs I fp wr P Md St s') (W:WR C G ρ hp s) (hX:∀ b,X b→G b) (hn:∀ b,G1 b→G b∨s.heap.get? b = none) (hw:∀ b∈wr,G1 b) (S:Step C G1 X ρ hp s ρi hpi si)
    {i:Nat} {x:AV} {Q:Value→Shared→Prop} {E:Value→Shared→Prop} (hx:xs[i]? = some x) (st:St i si.heap)
    (h:∀ v h2 tk,Step C G1 (fun b=>b∈wr) ρi hpi si ρi hpi {si with heap:=h2,toks:=tk}→Step C G1 X ρ hp s ρi hpi {si with heap:=h2,toks:=tk}→St (i + 1) h2→VX C ρi (Own ρi hpi G1) h2 tt x v→Q v {si with heap:=h2,toks:=tk}) :
    wpAny (model C.prog C.w) A (pyNext (.ref I)) (fun r s₁=>match r with
      | none=>False
      | some v=>wpAny (model C.prog C.w) A (letOwnedTupleGo target (.ref I) v) (fun _ s₂=>Q v s₂) E s₁) E si:=by
  have hi:i < xs.length:=(List.getElem?_eq_some_iff.mp hx).1
  refine T.kt.item i _ _ _ hi st fun v h1 tk1 md k1=>?_
  refine T.kt.go i v _ _ _ md fun h2 hP st2 k2=>?_
  have S2:Step C G1 (fun b=>b∈wr) ρi hpi si ρi hpi {si with heap:=h2,toks:=tk1}:=Step.touch S.wr (fun b o n e=>k2 b o n (k1 b o n e)) hw (T.ex _ _ st2) (T.wrP W)
  have S3:=S.trans' S2 fun b q=>.inr (T.fresh b q)
  exact h v h2 tk1 S2 S3 st2 (T.val i v x _ _ _ hx hP (S3.up1 W hX hn))
theorem It.fin (T:It C A G ρ hp s target tt xs I fp wr P Md St s') (W:WR C G ρ hp s) (hw:∀ b∈wr,G1 b) {G2:Addr→Prop} (h2:∀ b,G2 b→G1 b∧¬ b∈wr) (S:Step C G1 X ρ hp s ρi hpi si)
    {Q:Option Value→Shared→Prop} {E:Value→Shared→Prop} (st:St xs.length si.heap)
    (h:∀ h' tk,Step C G2 X ρ hp s ρi hpi {si with heap:=h',toks:=tk}→Up C ρi ρi (Own ρi hpi G1) (Own ρi hpi G2) si.heap h'→(∀ b o,¬ b∈wr→si.heap.get? b = some o→h'.get? b = some o)→Q none {si with heap:=h',toks:=tk}) :
    wpAny (model C.prog C.w) A (pyNext (.ref I)) Q E si:=by
  refine T.kt.done _ _ _ st fun h' tk k=>?_
  have hP:=T.wrP W
  have W':WR C G2 ρi hpi {si with heap:=h',toks:=tk}:=S.wr.touch (wr:=fun b=>b∈wr) k hw (fun b q=>(h2 b q).1) (fun b q=>(S.wr.gt b (h2 b q).1).imp fun o e=>k b o (h2 b q).2 e) hP
  have hf:∀ b o,s.heap.get? b = some o→¬ b∈wr:=fun b o e q=>by rw [T.fresh b q] at e; exact noS e
  refine h h' tk ⟨W',S.ext,S.nx,fun b o e n p x=>k b o (hf b o e) (S.keep b o e n p x),fun b o e=>?_,S.live⟩ (zi3 (wr:=fun b=>b∈wr) S.wr k hw fun b q=>(h2 b q).1) k
  obtain ⟨o',e'⟩:=S.there b o e
  exact ⟨o',k b o' (hf b o e) e'⟩
end
noncomputable def forM (t:MT) (body:MS):List AV→MS
  | []=>fun loc hp=>some (.nx,loc,hp)
  | x ::xs=>fun loc hp=>(t x loc hp).bind fun (loc,hp)=>(body loc hp).bind fun
      | (.nx,loc,hp)=>forM t body xs loc hp
      | (.ct,loc,hp)=>forM t body xs loc hp
      | (.br,loc,hp)=>some (.nx,loc,hp)
      | x=>some x
theorem zum (t:MT) (body:MS):forM t body [] =
   ((fun loc hp=>some (.nx,loc,hp))):=rfl
theorem zul (t:MT) (body:MS):∀ x xs,forM t body (x ::xs) =
   ((fun loc hp=>(t x loc hp).bind fun (loc,hp)=>(body loc hp).bind fun
      | (.nx,loc,hp)=>forM t body xs loc hp
      | (.ct,loc,hp)=>forM t body xs loc hp
      | (.br,loc,hp)=>some (.nx,loc,hp)
      | x=>some x)):=fun _ _=>rfl
noncomputable def forS (ite:Loc→Hp→Option (List AV × Hp)) (t:MT) (body:MS):MS:=fun loc hp=>do
  let (xs,hp) ← ite loc hp
  forM t body xs loc hp
section
variable {C:Cfg} {k:Nat} {env:Env} {homes:List Home}
inductive ForInv (C:Cfg) (G1:Addr→Prop) (homes:List Home) (ρ:Ren) (hp:Hp) (s:Shared) (St:Nat→Heap→Prop) (t:MT) (m:MS) (xs:List AV) (z:Fl × Loc × Hp) (n:Nat) (s':Shared):Prop
  | mk (i:Nat) (ρ':Ren) (hp1:Hp) (loc1:Loc) (h1:n = xs.length - i) (h2:i≤xs.length) (h3:Step C G1 (Xh homes) ρ hp s ρ' hp1 s') (h4:LR C G1 homes ρ' hp1 loc1 s'.heap) (h5:St i s'.heap) (h6:forM t m (xs.drop i) loc1 hp1 = some z):ForInv C G1 homes ρ hp s St t m xs z n s'
theorem zc4 {target ite:Expr} {body:List Stmt} {pos:Pos} {tt:Bool} {mi:Loc→Hp→Option (List AV × Hp)} {t:MT} {m:MS} (hi:SimI C k homes target tt ite env mi) (ht:SimT C k homes tt (assign target env) t)
    (hb:SimS C k homes (execs body env) m) (hs:∀ x,foldedSetIterable ite env x = pure x):SimS C k homes (exec (.For target ite body [] pos) env) (forS mi t m):=by
  intro A G a loc hp f loc' hp' e ρ0 s0 W0 R0
  revert e; refine bpR fun xs hp e1 e2=>?_
  refine wpAny_For (zde (hi A G a _ _ _ _ e1 ρ0 s0 W0 R0) fun xv s₁ h₁=>zde h₁ fun it s₂ zq=>?_) hs
  obtain ⟨ρ,s,S0,zq⟩:=zq; obtain ⟨I,fp,wr,P,Md,St,T⟩:=zq
  have W:=S0.wr
  have R:=R0.step0 W0 S0
  let G1:Addr→Prop:=fun b=>G b∨b∈wr
  have hG:∀ b,G b→G1 b:=fun b q=>.inl q
  have hn:∀ b,G1 b→G b∨s.heap.get? b = none:=fun b q=>q.imp id (T.fresh b)
  have hw:∀ b∈wr,G1 b:=fun b q=>.inr q
  have hXG:∀ b,Xh homes b→G b:=R.xg
  have hgw:∀ b,G b→¬ b∈wr:=fun b q q'=>by
    obtain ⟨o,e⟩:=W.gt b q
    rw [T.fresh b q'] at e; exact noS e
  obtain ⟨h0,tk0,hs0⟩:=T.same
  have S1:Step C G1 (Xh homes) ρ hp s ρ hp s₂:=by
    have:=Step.grow (G1:=G1) (X:=Xh homes) (h':=h0) (tk:=tk0) W (by have:=T.keep; rw [hs0] at this; exact this) hn (fun b q=>by
      have ke:=T.keep
      have ex:=T.ex 0 s₂.heap T.st0
      rw [hs0] at ke ex
      exact q.elim (fun q=>(W.gt b q).imp fun o e=>ke b o e) (ex b))
    rw [← hs0] at this; exact this
  have R1:LR C G1 homes ρ hp loc s₂.heap:=R.up (S1.up1 W hXG hn) (fun hm q o e=>T.keep _ o e) hG
  have leave:∀ {ρ':Ren} {hp':Hp} {s':Shared} {loc':Loc} {f:Fl} {fw:Flow},Step C G1 (Xh homes) ρ hp s ρ' hp' s'→LR C G1 homes ρ' hp' loc' s'.heap→FlR C ρ' (Own ρ' hp' G1) s'.heap f fw→SPost C G homes ρ0 _ s0 f loc' hp' fw s':=fun {ρ' hp' s' loc' f fw} S R2 fr =>
    ⟨ρ',S0.none.trans (S.less hG),R2.less hG R.g,by cases fr with
      | nx=>exact .nx
      | br=>exact .br
      | ct=>exact .ct
      | rt r=>exact .rt (VR.weak (fun b q=>q.imp id (hG b)) r)⟩
  refine codeAny_forLoop_any (ForInv C G1 homes ρ hp s St t m xs (f,loc',hp')) ?_ (xs.length - 0)
    ⟨0,ρ,hp,loc,rfl,Nat.zero_le _,S1,R1,T.st0,e2⟩
  rintro n si ⟨i,ρi,hpi,loci,rfl,hile,Si,Ri,sti,ei⟩
  by_cases hlt:i < xs.length
  · have hx:xs[i]? = some xs[i]:=List.getElem?_eq_getElem hlt
    rw [List.drop_eq_getElem_cons hlt] at ei
    revert ei; refine bpR fun loc2 hp2 et ei=>?_
    refine wpAny_mono (T.item W hXG hn hw Si hx sti (Q:=fun v s₁'=>wpAny (model C.prog C.w) A (assign target env v) (fun _ s₂=>wpAny (model C.prog C.w) A (execs body env) (fun f s₃=>match f with
          | .next | .cont=>∃ m,m < xs.length - i∧_
          | .brk=>_
          | .ret v=>_) (notedBy (model C.prog C.w) A env fun e s'=>_) s₂) (notedBy (model C.prog C.w) A env fun e s'=>_) s₁') (E:=notedBy (model C.prog C.w) A env fun e s'=>_)
        fun v h2 tk S2 S3 st3 vx=>?_) (fun r s₁ hr=>by cases r with
          | none=>exact hr.elim
          | some v=>exact hr) fun _ _ e=>e
    have R3:LR C G1 homes ρi hpi loci h2:=Ri.step Si.wr S2 hw fun hm q q'=>hgw _ (R.g _ q) q'
    refine zii (ht A G1 a _ _ _ _ _ et ρi _ v S3.wr R3 vx) fun _ s₃ ρ₃ S4 R4=>?_
    have S5:=S3.trans S4
    revert ei; refine btR fun f6 loc6 hp6 em ei=>?_
    refine zra (hb A G1 a _ _ _ _ _ em ρ₃ s₃ S5.wr R4) fun fw s₆ ρ₆ S6 R6 fr=>?_
    have S7:=S5.trans S6
    have hYf:∀ b,Xh homes b→(G b∨s.heap.get? b = none)∧¬ b∈wr:=fun b q=>⟨.inl (hXG b q),hgw b (hXG b q)⟩
    have st7:St (i + 1) s₆.heap:=T.frame W hXG hG hn hw S3 hYf (S4.trans S6) st3
    cases fr with
    | nx=>exact ⟨xs.length - (i + 1),by lia,i + 1,ρ₆,hp6,loc6,rfl,hlt,S7,R6,st7,ei⟩
    | ct=>exact ⟨xs.length - (i + 1),by lia,i + 1,ρ₆,hp6,loc6,rfl,hlt,S7,R6,st7,ei⟩
    | br=>obtain ⟨h1,h2,h3⟩:=zev ei; clear ei; subst h1 h2 h3; exact leave S7 R6 .nx
    | rt q=>obtain ⟨h1,h2,h3⟩:=zev ei; clear ei; subst h1 h2 h3; exact leave S7 R6 (.rt q)
  · have hii:i = xs.length:=by lia
    subst hii
    rw [List.drop_length] at ei
    obtain ⟨h1,h2,h3⟩:=zev ei; clear ei; subst h1 h2 h3
    refine T.fin W hw (G2:=G) (fun b q=>⟨hG b q,hgw b q⟩) Si sti fun h' tk S2 U2 k2=>?_
    refine wpAny_execs_nil ?_
    refine ⟨ρi,S0.none.trans S2,⟨Ri.len,fun j hm ov e1 e2=>(Ri.at_ j hm ov e1 e2).up U2 fun o e=>k2 _ o (hgw _ (R.g _ (List.mem_of_getElem? e1))) e,R.g,R.nd⟩,.nx⟩
end
theorem zhm {prog:Program} {w:World} {A:Around} {R:Result→Shared→Prop} {s:Shared} {elt target iter:Expr} {ifs:List Expr} {scope:Scope} {pos:Pos} {it acc:Value} {env:Env} (I:Nat→Shared→Prop)
    (turn:∀ n s,I n s→wpAny (model prog w) A (pyNext it) (fun r s₁=>match r with
      | none=>R (.ok .next) s₁
      | some v=>wpAny (model prog w) A (letOwnedTupleGo target it v) (fun _ s₁'=>wpAny (model prog w) A (assign target env v) (fun _ s₂ =>
          wpAny (model prog w) A (forIn ifs true fun c r=>if r = true then do let ok ← isTrue c env (eval c env); pure (ForInStep.yield ok) else pure (ForInStep.yield r)) (fun ok s₃ =>
            if ok = true then wpAny (model prog w) A (eval elt env) (fun x s₄ =>
              wpAny (model prog w) A (call (.builtin "list.append") [acc,x]) (fun _ s₅=>∃ m,m < n∧I m s₅) (notedBy (model prog w) A env fun e s'=>R (.error e) s') s₄) (notedBy (model prog w) A env fun e s'=>R (.error e) s') s₃
            else ∃ m,m < n∧I m s₃) (notedBy (model prog w) A env fun e s'=>R (.error e) s') s₂) (notedBy (model prog w) A env fun e s'=>R (.error e) s') s₁') (notedBy (model prog w) A env fun e s'=>R (.error e) s') s₁) (notedBy (model prog w) A env fun e s'=>R (.error e) s') s)
    (n:Nat) (h:I n s):codeAny (model prog w) A (.compLoop (.ListComp elt [⟨target,iter,ifs,0⟩] scope pos) 0 it acc env) R s:=by
  refine codeAny_loop rfl I (fun n s hI=>?_) n h
  show wpAny _ A ((compTurn (.ListComp elt [⟨target,iter,ifs,0⟩] scope pos) 0 it acc env).onRaise (fun x=>do noteFrame x env; theTreesLotGoes x)) _ _ s
  refine wpAny_noted ?_
  rw [compTurn_list]
  refine wpAny_bind (wpAny_standAt (wpAny_bind (wpAny_mono (turn n s hI) (fun r s₁ h₁=>?_) fun _ _ h'=>h')))
  cases r with
  | none=>exact wpAny_pure h₁
  | some v =>
    refine wpAny_bind (wpAny_mono h₁ (fun _ s₁' h₁=>?_) fun _ _ h'=>h')
    refine wpAny_bind (wpAny_mono h₁ (fun _ s₂ h₂=>wpAny_bind (wpAny_mono h₂ (fun ok s₃ h₃=>?_) fun _ _ h'=>h')) fun _ _ h'=>h')
    cases ok with
    | false=>exact wpAny_pure ⟨rfl,h₃⟩
    | true =>
      exact wpAny_bind (wpAny_bind (wpAny_mono h₃ (fun x s₄ h₄=>wpAny_bind (wpAny_mono h₄ (fun _ s₅ h₅=>wpAny_pure (wpAny_pure ⟨rfl,h₅⟩)) fun _ _ h'=>h')) fun _ _ h'=>h'))
theorem zlw {M:Model} {A:Around} {E:Value→Shared→Prop} {s:Shared} {scope:Scope} {cl:List (Str × Addr)} {env:Env} {Q:Env→Shared→Prop}
    (hQ:Q (newEnv scope s.heap.objs.size env.globals (cellsFrom (s.heap.objs.size + 1) scope.names cl) env.qual none .none (some env) builtinsNs) {s with heap:=pushCells (s.heap.push {cls:=.type "dict",data:=.dict #[]}) scope.names}) :
    wpAny M A (newFunctionEnv scope env.globals cl [] env.qual none .none (some env)) Q E s:=by
  simp only [newFunctionEnv,Option.isSome_some,if_true]
  refine wpAny_bind (wpAny_alloc ?_)
  refine wpAny_bind (wpAny_layCells _ (fun name kind cells=>by cases hkc:kind == NameKind.cell <;> simp [hkc]) _ _ _ _ ?_)
  rw [show ({s with heap:=s.heap.push {cls:=.type "dict",data:=.dict #[]}}:Shared).heap.objs.size = s.heap.objs.size + 1 from Heap.size_push ..]
  refine wpAny_bind ?_
  exact wpAny_pure (wpAny_pure hQ)
noncomputable def zdc (scope:Scope) (cl:List (Str × Addr)) (env:Env) (L:Addr):Env:=compEnvC scope (cellsFrom (L + 1) scope.names cl) L env
noncomputable def zhy (t:MT) (tests:MB) (elt:ME) (fr:Loc):List AV→Loc→Hp→Option (List AV × Hp)
  | []=>fun own hp=>some ([],hp)
  | x ::xs=>fun own hp=>(t x own hp).bind fun (own,hp)=>(tests (own++fr) hp).bind fun (b,hp)=>bif b then (elt (own++fr) hp).bind (fun (y,hp)=>(zhy t tests elt fr xs own hp).bind fun (ys,hp)=>some (y ::ys,hp)) else zhy t tests elt fr xs own hp
theorem compM_e1 (t:MT) (tests:MB) (elt:ME) (fr:Loc):zhy t tests elt fr [] =
   ((fun own hp=>some ([],hp))):=rfl
theorem compM_e2 (t:MT) (tests:MB) (elt:ME) (fr:Loc):∀ x xs,zhy t tests elt fr (x ::xs) =
   ((fun own hp=>(t x own hp).bind fun (own,hp)=>(tests (own++fr) hp).bind fun (b,hp)=>bif b then (elt (own++fr) hp).bind (fun (y,hp)=>(zhy t tests elt fr xs own hp).bind fun (ys,hp)=>some (y ::ys,hp)) else zhy t tests elt fr xs own hp)):=fun _ _=>rfl
noncomputable def pick (frees:List Nat) (loc:Loc):Loc:=frees.map fun i=>(loc[i]?).getD none
noncomputable def zbo (own:Nat) (frees:List Nat) (ite:Loc→Hp→Option (List AV × Hp)) (t:MT) (tests:MB) (elt:ME):ML:=fun loc hp=>do
  let (xs,hp) ← ite loc hp
  if xs.length≤1000000 then zhy t tests elt (pick frees loc) xs (List.replicate own none) hp else none
noncomputable def zew (frees:List Nat) (homes:List Home):List Home:=frees.map fun i=>(homes[i]?).getD (.cell 0)
structure OwnOk (scope:Scope) (owns:List Str):Prop where
  nd:owns.Nodup
  kinds:∀ x∈owns,scope.names.lookup x = some .local∨(scope.names.lookup x = some .cell∧∀ n,((cellsFrom n scope.names []).lookup x).isSome = true)
section
variable {C:Cfg} {G:Addr→Prop} {ρ:Ren} {hp:Hp} {homes h1 h2:List Home} {loc l1 l2:Loc} {h:Heap}
theorem LR.append (R1:LR C G h1 ρ hp l1 h) (R2:LR C G h2 ρ hp l2 h) (x:∀ a∈h1,∀ b∈h2,a≠b):LR C G (h1++h2) ρ hp (l1++l2) h:=by
  refine ⟨by rw [List.length_append,List.length_append,R1.len,R2.len],fun i hm ov e1 e2=>?_,fun hm q=>(List.mem_append.mp q).elim (R1.g hm) (R2.g hm),List.pairwise_append.mpr ⟨R1.nd,R2.nd,x⟩⟩
  by_cases hi:i < h1.length
  · rw [List.getElem?_append_left hi] at e1
    rw [List.getElem?_append_left (by rw [R1.len]; exact hi)] at e2
    exact R1.at_ i hm ov e1 e2
  · rw [List.getElem?_append_right (by lia)] at e1
    rw [List.getElem?_append_right (by rw [R1.len]; lia),R1.len] at e2
    exact R2.at_ _ hm ov e1 e2
theorem LR.pick (R:LR C G homes ρ hp loc h) {frees:List Nat} (hf:∀ i∈frees,i < homes.length) (hd:frees.Nodup):LR C G (zew frees homes) ρ hp (pick frees loc) h:=by
  have hm:∀ {hm:Home},hm∈zew frees homes→hm∈homes:=fun {hm} q=>by
    obtain ⟨i,hi,e⟩:=List.mem_map.mp q
    rw [List.getElem?_eq_getElem (hf i hi)] at e
    exact e ▸ List.getElem_mem _
  refine ⟨by simp [zew,Mine.pick],fun j hm ov e1 e2=>?_,fun h q=>R.g h (hm q),?_⟩
  · simp only [zew,Mine.pick,List.getElem?_map,Option.map_eq_some_iff] at e1 e2
    obtain ⟨i,ei,e1⟩:=e1
    obtain ⟨i',ei',e2⟩:=e2
    rw [ei] at ei'
    replace ei':=Option.some.inj ei'; subst ei'
    have hi:=hf i (List.mem_of_getElem? ei)
    rw [List.getElem?_eq_getElem hi] at e1
    rw [List.getElem?_eq_getElem (by rw [R.len]; exact hi)] at e2
    exact R.at_ i hm ov (by rw [List.getElem?_eq_getElem hi]; exact congrArg some e1) (by rw [List.getElem?_eq_getElem (by rw [R.len]; exact hi)]; exact congrArg some e2)
  · refine List.pairwise_map.mpr (List.Pairwise.imp_of_mem (fun {x y} hx hy hne he=>hne ?_) hd)
    rw [List.getElem?_eq_getElem (hf x hx),List.getElem?_eq_getElem (hf y hy)] at he
    simp only [Option.getD_some] at he
    rcases Nat.lt_trichotomy x y with l | l | l
    · exact absurd he (List.pairwise_iff_getElem.mp R.nd x y (hf x hx) (hf y hy) l)
    · exact l
    · exact absurd he.symm (List.pairwise_iff_getElem.mp R.nd y x (hf y hy) (hf x hx) l)
end
structure CEnd (C:Cfg) (G:Addr→Prop) (ρ:Ren) (hp:Hp) (s:Shared) (ys:List AV) (hp':Hp) (D L:Addr) (ρN:Ren) (sN:Shared):Prop where
  st:Step C (fun b=>G b∨b = D∨b = L) (fun _=>False) ρ hp s ρN hp' sN
  lst:∃ (vs:List Value) (n:Nat),sN.heap.get? D = some (listOf vs.toArray n)∧VRs C ρN (Own ρN hp' fun b=>G b∨b = D∨b = L) sN.heap ys vs
  ns:∃ m,sN.heap.Ns L m
  fD:s.heap.get? D = none
  fL:s.heap.get? L = none
  ne:D≠L
section
variable {C:Cfg} {k:Nat} {env:Env} {homes:List Home}
structure CompSet (C:Cfg) (G G1:Addr→Prop) (ρ:Ren) (hp:Hp) (s:Shared) (scope:Scope) (owns:List Str) (homes:List Home) (frees:List Nat) (loc:Loc) (wr:List Addr) (D:Addr) (H:Heap) (tk0:Nat) (h0:Heap):Prop where
  k1:∀ b o,h0.get? b = some o→H.get? b = some o
  hDo:H.get? D = some (listOf ([]:List Value).toArray 0)
  hLn:H.Ns (D + 1) (fun _=>none)
  nos:∀ b,@LE.le Nat _ D b→s.heap.get? b = none
  hG:∀ b,G b→G1 b
  gD:∀ b,b = D→G1 b
  gL:∀ b,b = D + 1→G1 b
  hn:∀ b,G1 b→G b∨s.heap.get? b = none
  hw:∀ b∈wr,G1 b
  hgw:∀ b,G b→¬ b∈wr
  dnw:∀ b,@LE.le Nat _ D b→¬ b∈wr
  s1:Step C G1 (fun _=>False) ρ hp s ρ hp {s with heap:=H,toks:=tk0}
  own:∀ hm∈za6 scope (D + 1) owns,G1 hm.addr∧@LT.lt Nat _ D hm.addr
  nsx:∀ hm∈za6 scope (D + 1) owns,hm.addr = D + 1→∃ x,hm = .ns (D + 1) x
  ro:LR C G1 (za6 scope (D + 1) owns) ρ hp (List.replicate owns.length none) H
  rf:LR C G1 (zew frees homes) ρ hp (pick frees loc) H
  fr:∀ hm∈zew frees homes,G hm.addr∧@LT.lt Nat _ hm.addr D
theorem zu0 {C:Cfg} {A:Around} {G:Addr→Prop} {ρ:Ren} {hp:Hp} {s:Shared} {target:Expr} {tt:Bool} {xs:List AV} {I:Addr} {fp wr:List Addr} {P Md:Nat→Value→Heap→Prop} {St:Nat→Heap→Prop} {h0 H:Heap} {tk0:Nat} {D:Addr} {scope:Scope} {owns:List Str} {homes:List Home} {frees:List Nat} {loc:Loc}
    (T:It C A G ρ hp s target tt xs I fp wr P Md St {s with heap:=h0,toks:=tk0}) (W:WR C G ρ hp s) (R:LR C G homes ρ hp loc s.heap) (O:OwnOk scope owns) (hf:∀ i∈frees,i < homes.length) (hfd:frees.Nodup) (eD:h0.objs.size = D)
    (hL:(h0.push ({cls:=.type "list",dict:=none,data:=.seq ([]:List Value).toArray}:Obj)).objs.size = D + 1)
    (hH:pushCells ((h0.push ({cls:=.type "list",dict:=none,data:=.seq ([]:List Value).toArray}:Obj)).push {cls:=.type "dict",data:=.dict #[]}) scope.names = H) :
    ∃ G1:Addr→Prop,CompSet C G G1 ρ hp s scope owns homes frees loc wr D H tk0 h0:=by
  have k0:∀ b o,s.heap.get? b = some o→h0.get? b = some o:=T.keep
  have k1:∀ b o,h0.get? b = some o→H.get? b = some o:=fun b o e=>by rw [← hH]; exact pushCells_keeps _ _ b o (Heap.get?_push_of_some _ (Heap.get?_push_of_some _ e))
  have hDo:H.get? D = some (listOf ([]:List Value).toArray 0):=by rw [← hH]; exact pushCells_keeps _ _ _ _ (Heap.get?_push_of_some _ (by rw [← eD]; exact Heap.get?_push_size _ rfl))
  have hLn:H.Ns (D + 1) (fun _=>none):=by
    rw [← hH]
    refine Heap.Ns.keeps ?_ (pushCells_keeps _ _)
    rw [← hL]
    exact Heap.Ns.new _ _
  have ok:=cellsFrom_ok scope.names ((h0.push ({cls:=.type "list",dict:=none,data:=.seq ([]:List Value).toArray}:Obj)).push {cls:=.type "dict",data:=.dict #[]}) (D + 2) [] ⟨fun _ _ hm=>(nomatch hm),List.Pairwise.nil⟩ (by rw [Heap.size_push,hL]; exact Nat.le_refl _)
  rw [show ((h0.push ({cls:=.type "list",dict:=none,data:=.seq ([]:List Value).toArray}:Obj)).push {cls:=.type "dict",data:=.dict #[]}).objs.size = D + 2 by rw [Heap.size_push,hL],hH] at ok
  let cs:=cellsFrom (D + 2) scope.names []
  have eqle:∀ {a b:Addr},a = b→@LE.le Nat _ b a:=fun q=>Nat.le_of_eq q.symm
  have nos:∀ b,@LE.le Nat _ D b→s.heap.get? b = none:=fun b hb=>by
    cases q:s.heap.get? b with
    | none=>rfl
    | some o=>exact absurd (Heap.lt_size (k0 b o q)) (by rw [eD]; exact Nat.not_lt.mpr hb)
  have wrlt:∀ b∈wr,@LT.lt Nat _ b D:=fun b hb=>by
    obtain ⟨o,e⟩:=T.ex 0 _ T.st0 b hb
    exact eD ▸ Heap.lt_size e
  let G1:Addr→Prop:=fun b=>G b∨b∈wr∨b = D∨b = D + 1∨∃ n c,cs.lookup n = some c∧b = c
  have hG:∀ b,G b→G1 b:=fun b q=>.inl q
  have hn:∀ b,G1 b→G b∨s.heap.get? b = none:=fun b q=>by
    rcases q with q | q | q | q | ⟨n,c,e,q⟩
    · exact .inl q
    · exact .inr (T.fresh b q)
    · exact .inr (nos b (eqle q))
    · exact .inr (nos b (Nat.le_of_succ_le (eqle q)))
    · exact .inr (nos b (by have h1:@LE.le Nat _ (D + 2) c:=(ok.empty n c (mem_of_lookup e)).2; have h2:=eqle q; lia))
  have hw:∀ b∈wr,G1 b:=fun b q=>.inr (.inl q)
  have hgw:∀ b,G b→¬ b∈wr:=fun b q q'=>by
    obtain ⟨o,e⟩:=W.gt b q
    rw [T.fresh b q'] at e; exact noS e
  have hXG:∀ b,(fun _:Addr=>False) b→G b:=fun _ q=>q.elim
  have S1:Step C G1 (fun _=>False) ρ hp s ρ hp {s with heap:=H,toks:=tk0}:=Step.grow W (fun b o e=>k1 b o (k0 b o e)) hn (fun b q=>by
    rcases q with q | q | q | q | ⟨n,c,e,q⟩
    · exact (W.gt b q).imp fun o e=>k1 b o (k0 b o e)
    · exact (T.ex 0 _ T.st0 b q).imp fun o e=>k1 b o e
    · subst q; exact ⟨_,hDo⟩
    · subst q; obtain ⟨o,_,_,e,_⟩:=hLn; exact ⟨o,e⟩
    · subst q; obtain ⟨o,e,_⟩:=(ok.empty n b (mem_of_lookup e)).1; exact ⟨o,e⟩)
  have U1:=S1.up1 W hXG hn
  have hcx:∀ x∈owns,scope.names.lookup x = some .cell→∃ c,cs.lookup x = some c∧ziu scope (D + 1) x = .cell c:=fun x hx q=>by
    rcases O.kinds x hx with z | ⟨z,c⟩
    · rw [q] at z; cases (z)
    · obtain ⟨c',e⟩:=Option.isSome_iff_exists.mp (c (D + 2))
      exact ⟨c',e,by unfold ziu; rw [if_pos q,e]; rfl⟩
  have hlx:∀ x∈owns,scope.names.lookup x≠some .cell→ziu scope (D + 1) x = .ns (D + 1) x:=fun x hx q=>by unfold ziu; rw [if_neg q]
  have ownG:∀ hm∈za6 scope (D + 1) owns,G1 hm.addr∧@LT.lt Nat _ D hm.addr:=fun hm hmm=>by
    obtain ⟨x,hx,rfl⟩:=List.mem_map.mp hmm
    by_cases q:scope.names.lookup x = some .cell
    · obtain ⟨c,e,hh⟩:=hcx x hx q
      rw [hh]; exact ⟨.inr (.inr (.inr (.inr ⟨x,c,e,rfl⟩))),Nat.le_of_succ_le (ok.empty x c (mem_of_lookup e)).2⟩
    · rw [hlx x hx q]; exact ⟨.inr (.inr (.inr (.inl rfl))),Nat.le_refl _⟩
  have Ro:LR C G1 (za6 scope (D + 1) owns) ρ hp (List.replicate owns.length none) H:=by
    refine ⟨by simp [za6],fun i hm ov e1 e2=>?_,fun hm q=>(ownG hm q).1,?_⟩
    · simp only [za6,List.getElem?_map,Option.map_eq_some_iff] at e1
      obtain ⟨x,ex,rfl⟩:=e1
      have hx:=List.mem_of_getElem? ex
      have hov:ov = none:=by
        rw [List.getElem?_replicate] at e2
        revert e2; refine ifR fun _ e2=>?_
        exact (Option.some.inj e2).symm
      subst hov
      by_cases q:scope.names.lookup x = some .cell
      · obtain ⟨c,e,hh⟩:=hcx x hx q
        rw [hh]
        exact ⟨_,(ok.empty x c (mem_of_lookup e)).1,fun v ev=>nomatch ev⟩
      · rw [hlx x hx q]
        exact ⟨_,hLn,fun v ev=>nomatch ev⟩
    · refine List.pairwise_map.mpr (List.Pairwise.imp_of_mem (fun {x y} hx hy hne he=>hne ?_) O.nd)
      by_cases q:scope.names.lookup x = some .cell <;> by_cases q2:scope.names.lookup y = some .cell
      · obtain ⟨c,e,hh⟩:=hcx x hx q
        obtain ⟨c2,e2,hh2⟩:=hcx y hy q2
        rw [hh,hh2] at he
        cases (he)
        exact name_of_addr ok.apart (mem_of_lookup e) (mem_of_lookup e2)
      · obtain ⟨c,e,hh⟩:=hcx x hx q
        rw [hh,hlx y hy q2] at he; cases (he)
      · obtain ⟨c2,e2,hh2⟩:=hcx y hy q2
        rw [hh2,hlx x hx q] at he; cases (he)
      · rw [hlx x hx q,hlx y hy q2] at he; cases (he); rfl
  have Rf:LR C G1 (zew frees homes) ρ hp (pick frees loc) H:=(R.up (G1:=G1) U1 (fun hm q o e=>k1 _ o (k0 _ o e)) hG).pick hf hfd
  have inH:∀ {hm:Home},hm∈zew frees homes→hm∈homes:=fun {hm} q=>by
    obtain ⟨i,hi,e⟩:=List.mem_map.mp q
    rw [List.getElem?_eq_getElem (hf i hi)] at e
    exact e ▸ List.getElem_mem _
  have frlt:∀ hm∈zew frees homes,@LT.lt Nat _ hm.addr D:=fun hm q=>by
    obtain ⟨o,e⟩:=W.gt _ (R.g hm (inH q))
    exact eD ▸ Heap.lt_size (k0 _ _ e)
  have dnw:∀ b,@LE.le Nat _ D b→¬ b∈wr:=fun b hb q=>Nat.not_lt.mpr hb (wrlt b q)
  refine ⟨G1,k1,hDo,hLn,nos,hG,fun b q=>.inr (.inr (.inl q)),fun b q=>.inr (.inr (.inr (.inl q))),hn,hw,hgw,dnw,S1,ownG,fun hm hmm e=>?_,Ro,Rf,fun hm q=>⟨R.g hm (inH q),frlt hm q⟩⟩
  obtain ⟨x,hxo,rfl⟩:=List.mem_map.mp hmm
  by_cases qc:scope.names.lookup x = some .cell
  · obtain ⟨c,ec,hh⟩:=hcx x hxo qc
    rw [hh] at e
    have h1:@LE.le Nat _ (D + 2) c:=(ok.empty x c (mem_of_lookup ec)).2
    have h2:@LE.le Nat _ c (D + 1):=Nat.le_of_eq e
    lia
  · exact ⟨x,hlx x hxo qc⟩
theorem CompSet.nsD {C:Cfg} {G G1:Addr→Prop} {ρ:Ren} {hp:Hp} {s:Shared} {scope:Scope} {owns:List Str} {homes:List Home} {frees:List Nat} {loc:Loc} {wr:List Addr} {D:Addr} {H:Heap} {tk0:Nat} {h0:Heap}
    (K:CompSet C G G1 ρ hp s scope owns homes frees loc wr D H tk0 h0) {X:Addr→Prop} {ρ' ρ₁:Ren} {hp' hp₁:Hp} {s' s₁:Shared} {own:Loc} (hX:∀ b,X b→b = D∨b∈wr∨Xh (za6 scope (D + 1) owns) b) (h:∃ m,s'.heap.Ns (D + 1) m) (W:WR C G ρ hp s) (W':WR C G1 ρ' hp' s') (S:Step C G1 X ρ' hp' s' ρ₁ hp₁ s₁) (R:LR C G1 (za6 scope (D + 1) owns) ρ₁ hp₁ own s₁.heap):∃ m,s₁.heap.Ns (D + 1) m:=by
  by_cases hq:Xh (za6 scope (D + 1) owns) (D + 1)
  · obtain ⟨hm,hmm,hme⟩:=hq
    obtain ⟨x,hh⟩:=K.nsx hm hmm hme
    obtain ⟨ov,hv⟩:=R.home hmm
    rw [hh] at hv
    obtain ⟨m,hm,_⟩:=hv
    exact ⟨m,hm⟩
  · obtain ⟨m,o,es,ep,e0,r0⟩:=h
    refine ⟨m,o,es,ep,S.keep _ o e0 (fun q=>W'.ng _ q (K.gL _ rfl)) (fun q=>?_) fun q=>?_,r0⟩
    · obtain ⟨ps,e⟩:=W.tabAt
      rw [← q,K.nos _ (Nat.le_succ D)] at e; exact noS e
    · rcases hX _ q with q | q | q
      · exact Nat.succ_ne_self D q
      · exact K.dnw _ (Nat.le_succ D) q
      · exact hq q
inductive CompInv (C:Cfg) (G1:Addr→Prop) (ρ:Ren) (hp:Hp) (s:Shared) (HO FO:List Home) (fr:Loc) (St:Nat→Heap→Prop) (D:Addr) (t:MT) (tests:MB) (me:ME) (xs ys:List AV) (hp':Hp) (n:Nat) (si:Shared):Prop
  | mk (i:Nat) (ρi:Ren) (hpi:Hp) (own:Loc) (ysd:List AV) (vs:List Value) (nn:Nat) (ysr:List AV) (h1:n = xs.length - i) (h2:i≤xs.length) (h3:Step C G1 (fun _=>False) ρ hp s ρi hpi si) (h4:LR C G1 HO ρi hpi own si.heap) (h5:LR C G1 FO ρi hpi fr si.heap) (h6:St i si.heap)
    (h7:si.heap.get? D = some (listOf (List.toArray vs) nn)) (h8:VRs C ρi (Own ρi hpi G1) si.heap ysd vs) (h9:∃ m,si.heap.Ns (D + 1) m) (h10:zhy t tests me fr (xs.drop i) own hpi = some (ysr,hp')) (h11:ysd++ysr = ys) (h12:ysd.length≤i):CompInv C G1 ρ hp s HO FO fr St D t tests me xs ys hp' n si
theorem zoe {target ite elt:Expr} {ifs:List Expr} {pos:Pos} {scope:Scope} {cl:List (Str × Addr)} {owns:List Str} {frees:List Nat} {tt:Bool} {mi:Loc→Hp→Option (List AV × Hp)} {t:MT} {tests:MB} {me:ME} {use:Option (Value→Sem Unit)}
    {E:Value→Shared→Prop} {Q:Value→Shared→Prop} {A:Around} {G:Addr→Prop}
    (hi:SimI C k homes target tt ite env mi) (hs:∀ x,foldedSetIterable ite env x = pure x) (hclos:closureFor scope env = pure cl)
    (hkind:scope.kind = .function) (hnames:∀ x∈scope.names,x.2 = .local→scope.names.lookup x.1 = some .local) (O:OwnOk scope owns) (hf:∀ i∈frees,i < homes.length) (hfd:frees.Nodup)
    (ht:∀ L,SimT C k (za6 scope L owns) tt (assign target (zdc scope cl env L)) t)
    (hb:∀ L,SimB C k (za6 scope L owns++zew frees homes) (forIn ifs true fun c r=>if r = true then do let ok ← isTrue c (zdc scope cl env L) (eval c (zdc scope cl env L)); pure (ForInStep.yield ok) else pure (ForInStep.yield r)) tests)
    (he:∀ L,SimE C k (za6 scope L owns++zew frees homes) (eval elt (zdc scope cl env L)) me)
    (a:AOk k A) {loc:Loc} {hp0:Hp} {ys:List AV} {hp':Hp} (e:zbo owns.length frees mi t tests me loc hp0 = some (ys,hp')) {ρ0:Ren} {s0:Shared} (W0:WR C G ρ0 hp0 s0) (R0:LR C G homes ρ0 hp0 loc s0.heap)
    (hQ:∀ ρ hp s D L ρN sN,Step C G (fun _=>False) ρ0 hp0 s0 ρ hp s→CEnd C G ρ hp s ys hp' D L ρN sN→compPost (model C.prog C.w) A E use Q (.ref D) L (.ok .next) sN) :
    wpAny (model C.prog C.w) A (comprehension (.ListComp elt [⟨target,ite,ifs,0⟩] scope pos) scope env (firstIterPos [⟨target,ite,ifs,0⟩] pos) (newList []) false (eval ite env) use) Q E s0:=by
  revert e; refine bpR fun xs hp e1=>ifR fun hsz e2=>?_
  refine wpAny_comprehension_free rfl hs hclos hkind hnames (zde (hi A G a _ _ _ _ e1 ρ0 s0 W0 R0) fun xv s₁ h₁=>zde h₁ fun it s₂ zq=>?_)
  obtain ⟨ρ,s,S0,zq⟩:=zq; obtain ⟨I,fp,wr,P,Md,St,T⟩:=zq
  have W:=S0.wr
  have R:=R0.step0 W0 S0
  refine wpAny_newObj_type ?_
  refine zlw ?_
  obtain ⟨h0,tk0,rfl⟩:=T.same
  have k0:∀ b o,s.heap.get? b = some o→h0.get? b = some o:=T.keep
  dsimp only
  have hD:h0.objs.size = h0.objs.size:=rfl
  generalize eD:h0.objs.size = D at *
  have hL:(h0.push ({cls:=.type "list",dict:=none,data:=.seq ([]:List Value).toArray}:Obj)).objs.size = D + 1:=by rw [Heap.size_push,eD]
  rw [hL]
  generalize hH:pushCells ((h0.push ({cls:=.type "list",dict:=none,data:=.seq ([]:List Value).toArray}:Obj)).push {cls:=.type "dict",data:=.dict #[]}) scope.names = H
  obtain ⟨G1,K⟩:=zu0 T W R O hf hfd eD hL hH
  have K':=K
  obtain ⟨k1,hDo,hLn,nos,hG,gD,gL,hn,hw,hgw,dnw,S1,ownG,_,Ro,Rf,frlt⟩:=K'
  have hXG:∀ b,(fun _:Addr=>False) b→G b:=fun _ q=>q.elim
  have eqle:∀ {a b:Addr},a = b→@LE.le Nat _ b a:=fun q=>Nat.le_of_eq q.symm
  have cross:∀ x∈za6 scope (D + 1) owns,∀ y∈zew frees homes,x≠y:=fun x hx y hy q=>Nat.lt_asymm (ownG x hx).2 (q ▸ (frlt y hy).2)
  have hYo:∀ b,Xh (za6 scope (D + 1) owns) b→@LT.lt Nat _ D b:=fun b q=>by
    obtain ⟨hm,q,e⟩:=q
    exact e ▸ (ownG hm q).2
  have hYG:∀ b,Xh (za6 scope (D + 1) owns) b→G1 b:=fun b q=>by
    obtain ⟨hm,q,e⟩:=q
    exact e ▸ (ownG hm q).1
  have loop:codeAny (model C.prog C.w) A (.compLoop (.ListComp elt [⟨target,ite,ifs,0⟩] scope pos) 0 (.ref I) (.ref D) (zdc scope cl env (D + 1))) (compPost (model C.prog C.w) A E use Q (.ref D) (D + 1)) {s with heap:=H,toks:=tk0}:=by
    refine zhm (CompInv C G1 ρ hp s (za6 scope (D + 1) owns) (zew frees homes) (pick frees loc) St D t tests me xs ys hp') ?_ (xs.length - 0)
      ⟨0,ρ,hp,_,[],[],0,ys,rfl,Nat.zero_le _,S1,Ro,Rf,T.kt.frame 0 _ _ T.st0 (fun b hb o e=>k1 b o e),hDo,.nil,⟨_,hLn⟩,by rw [List.drop_zero]; exact e2,rfl,Nat.le_refl _⟩
    rintro n si ⟨i,ρi,hpi,own,ysd,vs,nn,ysr,rfl,hile,Si,Roi,Rfi,sti,hDi,ri,hni,ei,hys,hyl⟩
    by_cases hlt:i < xs.length
    · have hx:xs[i]? = some xs[i]:=List.getElem?_eq_getElem hlt
      rw [List.drop_eq_getElem_cons hlt] at ei
      revert ei; refine bpR fun own2 hp2 et=>bpR fun bb hp6 eb ei=>?_
      refine wpAny_mono (T.item W hXG hn hw Si hx sti (Q:=fun v s₁'=>wpAny (model C.prog C.w) A (assign target (zdc scope cl env (D + 1)) v) (fun _ s₂=>wpAny (model C.prog C.w) A _ (fun ok s₃ =>
          if ok = true then wpAny (model C.prog C.w) A (eval elt (zdc scope cl env (D + 1))) (fun x s₄=>wpAny (model C.prog C.w) A (call (.builtin "list.append") [.ref D,x]) (fun _ s₅=>∃ m,m < xs.length - i∧_) (notedBy (model C.prog C.w) A (zdc scope cl env (D + 1)) fun e s'=>_) s₄) (notedBy (model C.prog C.w) A (zdc scope cl env (D + 1)) fun e s'=>_) s₃
          else ∃ m,m < xs.length - i∧_) (notedBy (model C.prog C.w) A (zdc scope cl env (D + 1)) fun e s'=>_) s₂) (notedBy (model C.prog C.w) A (zdc scope cl env (D + 1)) fun e s'=>_) s₁') (E:=notedBy (model C.prog C.w) A (zdc scope cl env (D + 1)) fun e s'=>_)
          fun v h2 tk S2 S3 st3 vx=>?_) (fun r s₁ hr=>by cases r with
            | none=>exact hr.elim
            | some v=>exact hr) fun _ _ e=>e
      have own3:LR C G1 (za6 scope (D + 1) owns) ρi hpi own h2:=Roi.step Si.wr S2 hw fun hm q q'=>dnw _ (Nat.le_of_lt (ownG hm q).2) q'
      have fr3:LR C G1 (zew frees homes) ρi hpi (pick frees loc) h2:=Rfi.step Si.wr S2 hw fun hm q q'=>hgw _ (frlt _ q).1 q'
      refine zii (ht (D + 1) A G1 a _ _ _ _ _ et ρi _ v S3.wr own3 vx) fun _ s₃ ρ₃ S4 R4=>?_
      have S5:=S3.trans' S4 fun b q=>.inr (nos b (Nat.le_of_lt (hYo b q)))
      have fr5:LR C G1 (zew frees homes) ρ₃ hp2 (pick frees loc) s₃.heap:=fr3.step S3.wr S4 (hYG) fun hm q q'=>Nat.lt_asymm (frlt hm q).2 (hYo _ q')
      refine zmq (hb (D + 1) A G1 a _ _ _ _ eb ρ₃ s₃ S5.wr (R4.append fr5 cross)) fun ok s₆ ρ₆ S6 hok=>?_
      subst hok
      have S7:=S5.trans S6
      have own6:=R4.step0 S5.wr S6
      have fr6:=fr5.step0 S5.wr S6
      -- what of the turn before stands still
      have T26:Step C G1 (fun b=>Xh (za6 scope (D + 1) owns) b) ρi hpi {si with heap:=h2,toks:=tk} ρ₆ hp6 s₆:=S4.trans S6.none
      have hYf:∀ b,Xh (za6 scope (D + 1) owns) b→(G b∨s.heap.get? b = none)∧¬ b∈wr:=fun b q=>⟨.inr (nos b (Nat.le_of_lt (hYo b q))),dnw b (Nat.le_of_lt (hYo b q))⟩
      have dD:∀ {ρa:Ren} {hpa:Hp} {sa:Shared},WR C G1 ρa hpa sa→¬ Lv ρa hpa D∧D≠C.P:=fun {ρa hpa sa} Wa=>⟨fun q=>Wa.ng D q (gD _ rfl),fun q=>by
        obtain ⟨ps,e⟩:=W.tabAt
        rw [← q,nos D (Nat.le_refl _)] at e; exact noS e⟩
      have hD2:h2.get? D = some (listOf (List.toArray vs) nn):=S2.keep D _ hDi (dD Si.wr).1 (dD Si.wr).2 (dnw D (Nat.le_refl _))
      have hD6:s₆.heap.get? D = some (listOf (List.toArray vs) nn):=T26.keep D _ hD2 (dD S3.wr).1 (dD S3.wr).2 fun q=>Nat.lt_irrefl D (hYo D q)
      have r6:VRs C ρ₆ (Own ρ₆ hp6 G1) s₆.heap ysd vs:=VRs.up ((Step.trans' (X:=fun b=>b∈wr∨Xh (za6 scope (D + 1) owns) b) (S2.weak fun b q=>.inl q) T26 fun b q=>.inl (.inr q)).up Si.wr fun b q=>q.elim (hw b) (hYG b)) ri
      have st6:St (i + 1) s₆.heap:=T.frame W hXG hG hn hw S3 hYf T26 st3
      have ns6:∃ m,s₆.heap.Ns (D + 1) m:=K.nsD (X:=fun b=>b∈wr∨Xh (za6 scope (D + 1) owns) b) (fun b q=>.inr q) hni W Si.wr (Step.trans' (X:=fun b=>b∈wr∨Xh (za6 scope (D + 1) owns) b) (S2.weak fun b q=>.inl q) T26 fun b q=>.inl (.inr q)) own6
      cases bb with
      | false =>
        simp only [Bool.false_eq_true,if_false]
        exact ⟨xs.length - (i + 1),by lia,i + 1,ρ₆,hp6,own2,ysd,vs,nn,ysr,rfl,hlt,S7,own6,fr6,st6,hD6,r6,ns6,ei,hys,by lia⟩
      | true =>
        simp only [if_true]
        revert ei; refine bpR fun y hp8 em=>bpR fun ys1 hpz ez ei=>?_
        refine zco (he (D + 1) A G1 a _ _ _ _ em ρ₆ s₆ S7.wr (own6.append fr6 cross)) fun yv s₈ ρ₈ S8 r8=>?_
        have hD8:s₈.heap.get? D = some (listOf (List.toArray vs) nn):=S8.keep D _ hD6 (dD S7.wr).1 (dD S7.wr).2 fun q=>q
        have S9:=S7.trans S8
        have hvl:(List.toArray vs).size≤sizeLine:=by
          have:=ri.length
          rw [List.size_toArray]
          exact zhr (by lia)
        refine append_at (hsz:=hvl) hD8 fun h9 hs9 hD9=>?_
        have kk:∀ b o,¬ (b = D)→s₈.heap.get? b = some o→h9.get? b = some o:=fun b o n e=>(hs9.2 b n).trans e
        have SA:Step C G1 (fun b=>b = D) ρ₈ hp8 s₈ ρ₈ hp8 {s₈ with heap:=h9,toks:=s₈.toks}:=Step.touch S9.wr kk (fun b q=>gD b q) (fun b q=>q ▸ ⟨_,hD9⟩) fun q=>(dD S9.wr).2 q.symm
        have SB:=S9.trans' SA fun b q=>.inr (nos b (eqle q))
        have T8:Step C G1 (fun b=>b = D) ρ₆ hp6 s₆ ρ₈ hp8 {s₈ with heap:=h9,toks:=s₈.toks}:=S8.none.trans SA
        have hGD:∀ b,b = D→G1 b:=fun b q=>gD b q
        obtain ⟨h1,h2⟩:=zbf ei; clear ei; subst h1 h2
        refine ⟨xs.length - (i + 1),by lia,i + 1,ρ₈,hp8,own2,ysd++[y],vs++[yv],nn + 1,ys1,rfl,hlt,SB,?_,?_,?_,?_,?_,?_,ez,by simpa using hys,by simp; lia⟩
        · exact (own6.step0 S7.wr S8).step S9.wr SA hGD fun hm q q'=>Nat.ne_of_gt (ownG hm q).2 q'
        · exact (fr6.step0 S7.wr S8).step S9.wr SA hGD fun hm q q'=>Nat.ne_of_lt (frlt hm q).2 q'
        · exact T.frame W hXG hG hn hw S7 (Y:=fun b=>b = D) (fun b q=>⟨.inr (nos b (eqle q)),dnw b (eqle q)⟩) T8 st6
        · rw [hD9]; simp
        · exact (VRs.up (T8.up S7.wr hGD) r6).append (.cons (VR.up (SA.up S9.wr hGD) r8) .nil)
        · exact K.nsD (fun b q=>.inl q) ns6 W S7.wr T8 ((own6.step0 S7.wr S8).step S9.wr SA hGD fun hm q q'=>Nat.ne_of_gt (ownG hm q).2 q')
    · have hii:i = xs.length:=by lia
      subst hii
      rw [List.drop_length] at ei
      obtain ⟨h1,h2⟩:=zbf ei; clear ei; subst h1 h2
      have hG2:∀ b,(G b∨b = D∨b = D + 1)→G1 b∧¬ b∈wr:=fun b q=>by
        rcases q with q | q | q
        · exact ⟨hG b q,hgw b q⟩
        · exact ⟨gD b q,dnw b (eqle q)⟩
        · exact ⟨gL b q,dnw b (Nat.le_of_succ_le (eqle q))⟩
      refine T.fin W hw (G2:=fun b=>G b∨b = D∨b = D + 1) hG2 Si sti fun h' tk S2 U2 k2=>?_
      refine hQ ρ hp s D (D + 1) ρi _ S0 ⟨S2,⟨vs,nn,k2 D _ (dnw D (Nat.le_refl _)) hDi,?_⟩,hni.imp fun _ hni=>hni.at' fun o e=>k2 _ o (dnw _ (Nat.le_succ D)) e,nos D (Nat.le_refl _),nos _ (Nat.le_succ D),Nat.ne_of_lt (Nat.lt_succ_self D)⟩
      have:ys = ysd:=by rw [← hys,List.append_nil]
      rw [this]
      exact VRs.up U2 ri
  exact codeAny_compStart_list loop (T.self _ _ _ (T.kt.frame 0 _ _ T.st0 fun b hb o e=>k1 b o e) loop)
end
section
variable {C:Cfg} {k:Nat} {env:Env} {homes:List Home} {G:Addr→Prop} {ρ0 ρ ρN:Ren} {hp0 hp hp':Hp} {s0 s sN:Shared} {D L:Addr} {ys:List AV} {loc loc':Loc}
theorem CEnd.gs (c:CEnd C G ρ hp s ys hp' D L ρN sN) (W:WR C G ρ hp s):¬ G D∧¬ G L:=⟨(fun q=>by
  obtain ⟨o,e⟩:=W.gt _ q
  rw [c.fD] at e; exact noS e),(fun q=>by
  obtain ⟨o,e⟩:=W.gt _ q
  rw [c.fL] at e; exact noS e)⟩
theorem CEnd.nP (c:CEnd C G ρ hp s ys hp' D L ρN sN) (W:WR C G ρ hp s):D≠C.P∧L≠C.P:=⟨(fun q=>by
  obtain ⟨ps,e⟩:=W.tabAt
  rw [← q,c.fD] at e; exact noS e),(fun q=>by
  obtain ⟨ps,e⟩:=W.tabAt
  rw [← q,c.fL] at e; exact noS e)⟩
theorem CEnd.fl (c:CEnd C G ρ hp s ys hp' D L ρN sN) (W:WR C G ρ hp s) (S0:Step C G (fun _=>False) ρ0 hp0 s0 ρ hp s) {h':Heap} (hs:Heap.SameBut L sN.heap h'):FLPost C G ρ0 hp0 s0 ys hp' (.ref D) {sN with heap:=h'}:=by
  obtain ⟨vs,n,e,r⟩:=c.lst
  have hk:∀ b o,¬ (b = L)→sN.heap.get? b = some o→h'.get? b = some o:=fun b o nb e=>(hs.2 b nb).trans e
  have hpl:∀ b,plus G D b→G b∨b = D∨b = L:=fun b q=>q.imp id .inl
  have hpL:∀ b,plus G D b→b≠L:=fun b q z=>q.elim (fun q=>(c.gs W).2 (z ▸ q)) fun q=>c.ne (q.symm.trans z)
  have W':WR C (plus G D) ρN hp' {sN with heap:=h',toks:=sN.toks}:=c.st.wr.touch (wr:=fun b=>b = L) hk (fun b q=>.inr (.inr q)) hpl (fun b q=>(c.st.wr.gt b (hpl b q)).imp fun o e=>hk b o (hpL b q) e) fun q=>(c.nP W).2 q.symm
  have U:=zi3 (G:=plus G D) (wr:=fun b=>b = L) c.st.wr hk (fun b q=>.inr (.inr q)) hpl
  have nL:∀ b o,s.heap.get? b = some o→¬ b = L:=fun b o e q=>by rw [q,c.fL] at e; exact noS e
  have S:Step C G (fun _=>False) ρ hp s ρN hp' {sN with heap:=h',toks:=sN.toks}:=⟨W'.less fun b q=>.inl q,c.st.ext,c.st.nx,fun b o e n p x=>hk b o (nL b o e) (c.st.keep b o e n p x),fun b o e=>by
    obtain ⟨o',e'⟩:=c.st.there b o e
    exact ⟨o',hk b o' (nL b o e) e'⟩,c.st.live⟩
  refine ⟨ρN,D,vs,n,rfl,S0.trans S,W',hk D _ c.ne e,?_,VRs.up U r⟩
  cases q:s0.heap.get? D with
  | none=>rfl
  | some o =>
    obtain ⟨o',e'⟩:=S0.there D o q
    rw [c.fD] at e'; exact noS e'
theorem zbm {target ite elt:Expr} {ifs:List Expr} {pos:Pos} {scope:Scope} {cl:List (Str × Addr)} {owns:List Str} {frees:List Nat} {tt:Bool} {mi:Loc→Hp→Option (List AV × Hp)} {t:MT} {tests:MB} {me:ME}
    (hi:SimI C k homes target tt ite env mi) (hs:∀ x,foldedSetIterable ite env x = pure x) (hclos:closureFor scope env = pure cl)
    (hkind:scope.kind = .function) (hnames:∀ x∈scope.names,x.2 = .local→scope.names.lookup x.1 = some .local) (O:OwnOk scope owns) (hf:∀ i∈frees,i < homes.length) (hfd:frees.Nodup)
    (ht:∀ L,SimT C k (za6 scope L owns) tt (assign target (zdc scope cl env L)) t)
    (hb:∀ L,SimB C k (za6 scope L owns++zew frees homes) (forIn ifs true fun c r=>if r = true then do let ok ← isTrue c (zdc scope cl env L) (eval c (zdc scope cl env L)); pure (ForInStep.yield ok) else pure (ForInStep.yield r)) tests)
    (he:∀ L,SimE C k (za6 scope L owns++zew frees homes) (eval elt (zdc scope cl env L)) me) :
    SimL C k homes (eval (.ListComp elt [⟨target,ite,ifs,0⟩] scope pos) env) (zbo owns.length frees mi t tests me):=by
  intro A G a loc hp0 ys hp' e ρ0 s0 W0 R0
  rw [eval_ListComp]
  exact zoe (use:=none) hi hs hclos hkind hnames O hf hfd ht hb he a e W0 R0 fun ρ hp s D L ρN sN S0 c=>⟨_,c.ns.choose_spec,fun h' hs'=>c.fl S0.wr S0 hs'⟩
theorem CEnd.use (c:CEnd C G ρ hp s ys hp' D L ρN sN) (S0:Step C G (fun _=>False) ρ0 hp0 s0 ρ hp s) (W0:WR C G ρ0 hp0 s0) (R0:LR C G homes ρ0 hp0 loc s0.heap) {A:Around} (a:AOk k A) {u:Value→Sem Unit} {t:MT} (ht:SimT C k homes false u t) {E:Value→Shared→Prop}
    (fr:Bool) {hp2:Hp} (et:t (if fr then .fl ys else .loc hp'.N) loc (if fr then hp' else hp'.new (.list ys)) = some (loc',hp2)) :
    wpAny (model C.prog C.w) A (u (.ref D)) (fun _ s''=>∃ m,s''.heap.Ns L m∧∀ h',Heap.SameBut L s''.heap h'→SPost C G homes ρ0 hp0 s0 .nx loc' hp2 .next {s'' with heap:=h'}) E sN:=by
  have W:=S0.wr
  have R:=R0.step0 W0 S0
  obtain ⟨vs,n,e,r⟩:=c.lst
  obtain ⟨m,hns⟩:=c.ns
  let G':Addr→Prop:=fun b=>G b∨b = L
  have hG':∀ b,G' b→G b∨b = D∨b = L:=fun b q=>q.imp id .inr
  have hn:∀ b,(G b∨b = D∨b = L)→G b∨s.heap.get? b = none:=fun b q=>q.imp id fun q=>q.elim (fun q=>q ▸ c.fD) fun q=>q ▸ c.fL
  have Uc:=c.st.up1 W (fun _ q=>q.elim) hn
  have hsn:∀ hm∈homes,∀ o,s.heap.get? hm.addr = some o→sN.heap.get? hm.addr = some o:=fun hm q o e=>by
    obtain ⟨ov,hv⟩:=R.home q
    exact c.st.keep _ o e (fun z=>W.ng _ z (R.g _ q)) (hv.neP W.tabAt) fun q=>q
  have nLh:¬ Xh homes L:=fun ⟨hm,q,e⟩=>(c.gs W).2 (e ▸ R.g hm q)
  -- the value,and the world,of the list
  have key:∀ {ρ2:Ren} {hpa:Hp} {x:AV},Step C G' (fun _=>False) ρ hp s ρ2 hpa sN→LR C G' homes ρ2 hpa loc sN.heap→VR C ρ2 (Own ρ2 hpa G') sN.heap x (.ref D)→t x loc hpa = some (loc',hp2)→
      wpAny (model C.prog C.w) A (u (.ref D)) (fun _ s''=>∃ m,s''.heap.Ns L m∧∀ h',Heap.SameBut L s''.heap h'→SPost C G homes ρ0 hp0 s0 .nx loc' hp2 .next {s'' with heap:=h'}) E sN:=fun {ρ2 hpa x} S2 R2 r2 et=>by
    refine zii (ht A G' a _ _ _ _ _ et ρ2 sN _ S2.wr R2 (.val r2)) fun _ s3 ρ3 S3 R3=>?_
    obtain ⟨o,es,ep,e0,r0⟩:=id hns
    refine ⟨m,⟨o,es,ep,S3.keep L o e0 (fun q=>S2.wr.ng _ q (.inr rfl)) (c.nP W).2 nLh,r0⟩,fun h' hs=>?_⟩
    have hk:∀ b o,¬ (b = L)→s3.heap.get? b = some o→h'.get? b = some o:=fun b o nb e=>(hs.2 b nb).trans e
    have hgL:∀ b,G b→¬ b = L:=fun b q z=>(c.gs W).2 (z ▸ q)
    have W':WR C G ρ3 hp2 {s3 with heap:=h',toks:=s3.toks}:=S3.wr.touch (wr:=fun b=>b = L) hk (fun b q=>.inr q) (fun b q=>.inl q) (fun b q=>(S3.wr.gt b (.inl q)).imp fun o e=>hk b o (hgL b q) e) fun q=>(c.nP W).2 q.symm
    have U:=zi3 (G:=G) (wr:=fun b=>b = L) S3.wr hk (fun b q=>.inr q) (fun b q=>.inl q)
    have S13:Step C G' (Xh homes) ρ hp s ρ3 hp2 s3:=S2.none.trans S3
    have nL:∀ b o,s.heap.get? b = some o→¬ b = L:=fun b o e q=>by rw [q,c.fL] at e; exact noS e
    have S:Step C G (Xh homes) ρ hp s ρ3 hp2 {s3 with heap:=h',toks:=s3.toks}:=⟨W',S13.ext,S13.nx,fun b o e n p x=>hk b o (nL b o e) (S13.keep b o e n p x),fun b o e=>by
      obtain ⟨o',e'⟩:=S13.there b o e
      exact ⟨o',hk b o' (nL b o e) e'⟩,S13.live⟩
    exact ⟨ρ3,S0.none.trans S,⟨R3.len,fun j hm ov e1 e2=>(R3.at_ j hm ov e1 e2).up U fun o e=>hk _ o (hgL _ (R.g _ (List.mem_of_getElem? e1))) e,R.g,R.nd⟩,.nx⟩
  have WN:WR C G' ρN hp' sN:=c.st.wr.less hG'
  have SN:Step C G' (fun _=>False) ρ hp s ρN hp' sN:=⟨WN,c.st.ext,c.st.nx,c.st.keep,c.st.there,c.st.live⟩
  have RN:LR C G' homes ρN hp' loc sN.heap:=(R.up Uc hsn fun b q=>.inl q).less hG' fun hm q=>.inl (R.g hm q)
  cases fr with
  | true =>
    refine key SN RN (.fl e (fun q=>?_) (VRs.weak (fun b q=>q.imp id (hG' b)) r)) et
    rcases q with q | q | q
    · exact c.st.wr.ng D q (.inr (.inl rfl))
    · exact (c.gs W).1 q
    · exact c.ne q
  | false =>
    have WP:WR C (plus G' D) ρN hp' sN:=c.st.wr.less fun b q=>q.elim (hG' b) fun q=>.inr (.inl q)
    have hb:C.base.get? D = none:=by
      cases q:C.base.get? D with
      | none=>rfl
      | some o=>have:=W.keep D o q; rw [c.fD] at this; exact noS this
    have hGD:¬ G' D:=fun q=>q.elim (c.gs W).1 c.ne
    have hlv:∀ b,Lv (ρN.new hp'.N (D,D)) (hp'.new (.list ys)) b→Lv ρN hp' b∨b = D:=fun b zv1=>by
      obtain ⟨n,m',h1,h2⟩:=zv1
      by_cases hn:n = hp'.N
      · simp only [Ren.new,hn,if_true] at h2
        cases (h2); exact .inr rfl
      · simp only [Ren.new,Hp.new,hn,if_false] at h1 h2
        exact .inl ⟨n,m',h1,h2⟩
    have U:Up C ρN (ρN.new hp'.N (D,D)) (Own ρN hp' fun b=>G b∨b = D∨b = L) (Own (ρN.new hp'.N (D,D)) (hp'.new (.list ys)) G') sN.heap sN.heap :=
      ⟨Ren.ext_new c.st.wr _,fun _ _ e _ _=>e,fun b q=>.inl (q.elim (fun q=>(hlv b q).imp id fun e=>.inr (.inl e)) fun q=>.inr (hG' b q)),c.st.wr.tabAt⟩
    obtain ⟨W2,_⟩:=WR.new (m:=D) WP hb hGD (o:=.list ys) (.list e (VRs.up U r))
    refine key (ρ2:=ρN.new hp'.N (D,D)) (x:=.loc hp'.N) ⟨W2,fun n p q=>Ren.ext_new WN _ n p (SN.ext n p q),Nat.le_succ_of_le SN.nx,SN.keep,SN.there,fun b q=>?_⟩ ?_ (.loc (x:=D) (by simp [Ren.new])) et
    · rcases hlv b q with q | q
      · exact SN.live b q
      · exact .inr (q ▸ c.fD)
    · exact ⟨RN.len,fun j hm ov e1 e2=>(((R.up Uc hsn fun b q=>Or.inl q).at_ j hm ov e1 e2).up U fun o e=>e),RN.g,RN.nd⟩
theorem zfc {x:Str} {p spos:Pos} {target ite elt:Expr} {ifs:List Expr} {pos:Pos} {scope:Scope} {cl:List (Str × Addr)} {owns:List Str} {frees:List Nat} {tt:Bool} {mi:Loc→Hp→Option (List AV × Hp)} {t t2:MT} {tests:MB} {me:ME} (fr:Bool)
    (hsw:swapsWith (.ListComp elt [⟨target,ite,ifs,0⟩] scope pos) (some (.Name x p)) spos.line env = pure true) (ht2:SimT C k homes false (assign (.Name x p) env) t2)
    (hi:SimI C k homes target tt ite env mi) (hs:∀ x,foldedSetIterable ite env x = pure x) (hclos:closureFor scope env = pure cl)
    (hkind:scope.kind = .function) (hnames:∀ x∈scope.names,x.2 = .local→scope.names.lookup x.1 = some .local) (O:OwnOk scope owns) (hf:∀ i∈frees,i < homes.length) (hfd:frees.Nodup)
    (ht:∀ L,SimT C k (za6 scope L owns) tt (assign target (zdc scope cl env L)) t)
    (hb:∀ L,SimB C k (za6 scope L owns++zew frees homes) (forIn ifs true fun c r=>if r = true then do let ok ← isTrue c (zdc scope cl env L) (eval c (zdc scope cl env L)); pure (ForInStep.yield ok) else pure (ForInStep.yield r)) tests)
    (he:∀ L,SimE C k (za6 scope L owns++zew frees homes) (eval elt (zdc scope cl env L)) me) :
    SimS C k homes (exec (.Assign [.Name x p] (.ListComp elt [⟨target,ite,ifs,0⟩] scope pos) spos) env) (asgS (if fr then flz (zbo owns.length frees mi t tests me) else lcz (zbo owns.length frees mi t tests me)) t2):=by
  intro A G a loc hp0 f loc' hp2 e ρ0 s0 W0 R0
  revert e; refine bpR fun v hpv e1=>bpR fun loc2 hp3 e2 e3=>?_
  obtain ⟨h1,h2,h3⟩:=zev e3; clear e3; subst h1 h2 h3
  obtain ⟨ys,hp',ec,hv,hh⟩:∃ ys hp',zbo owns.length frees mi t tests me loc hp0 = some (ys,hp')∧v = (if fr then AV.fl ys else .loc hp'.N)∧hpv = (if fr then hp' else hp'.new (.list ys)):=by
    cases fr with
    | true =>
      revert e1; refine bpR fun ys hp' ec e4=>?_
      obtain ⟨h1,h2⟩:=zbf e4; clear e4; subst h1 h2
      exact ⟨ys,_,ec,rfl,rfl⟩
    | false =>
      revert e1; refine bpR fun ys hp' ec e4=>?_
      obtain ⟨h1,h2⟩:=zbf e4; clear e4; subst h1 h2
      exact ⟨ys,_,ec,rfl,rfl⟩
  rw [hv,hh] at e2
  rw [exec_Assign_Name_used _ _ _ _ hsw]
  refine wpAny_bind (wpAny_standAt (wpAny_bind ?_))
  show wpAny _ A (do let _ ← comprehension (.ListComp elt [⟨target,ite,ifs,0⟩] scope pos) scope env _ (newList []) false (eval ite env) (some (assign (.Name x p) env))) _ _ s0
  refine wpAny_bind (wpAny_mono (zoe (use:=some (assign (.Name x p) env)) (Q:=fun _ s'=>SPost C G homes ρ0 hp0 s0 .nx loc2 hp3 .next s') hi hs hclos hkind hnames O hf hfd ht hb he a ec W0 R0 fun ρ hp s D L ρN sN S0 c=>?_)
    (fun _ s' hq=>wpAny_pure (wpAny_pure hq)) fun _ _ e=>e)
  exact c.use S0 W0 R0 a ht2 fr e2
end
noncomputable def zfq (a b:Int):List AV:=(List.range (b - a).toNat).map fun i:Nat=>AV.int (a + (i:Int))
noncomputable def zji:AV→Option (List AV)
  | .fl xs=>some xs
  | .tup xs=>some xs
  | .str cs=>some (cs.map fun c=>.str [c])
  | .rng a b=>if -1000000≤a∧a≤1000000∧-1000000≤b∧b≤1000000 then some (zfq a b) else none
  | _=>none
noncomputable def valI (m:ME):Loc→Hp→Option (List AV × Hp):=fun loc hp=>do
  let (x,hp) ← m loc hp
  let xs ← zji x
  some (xs,hp)
noncomputable def revI (m:ME):Loc→Hp→Option (List AV × Hp):=fun loc hp=>do
  let (x,hp) ← m loc hp
  match x with
  | .fl xs=>some (xs.reverse,hp)
  | .rng a b=>if -1000000≤a∧a≤1000000∧-1000000≤b∧b≤1000000 then some ((zfq a b).reverse,hp) else none
  | _=>none
noncomputable def zipI (m1 m2:ME):Loc→Hp→Option (List AV × Hp):=fun loc hp=>do
  let (x,hp) ← m1 loc hp
  let (y,hp) ← m2 loc hp
  match x,y with
  | .fl xs,.fl ys=>some (List.zipWith (fun x y=>.tup [x,y]) xs ys,hp)
  | _,_=>none
theorem zzv {prog:Program} {w:World} {A:Around} {s:Shared} {target:Expr} {I:Addr} {v:Value} {Q:Unit→Shared→Prop} {E:Value→Shared→Prop} {o:Obj} {n:String} (e:s.heap.get? I = some o) (hc:o.cls = .type n)
    (hn:["enumerate","zip","dict_itemiterator","dict_reverseitemiterator","odict_iterator","itertools.zip_longest","itertools.pairwise"].contains n = false) (h:Q () s):wpAny (model prog w) A (letOwnedTupleGo target (.ref I) v) Q E s:=by
  unfold letOwnedTupleGo
  have key:wpAny (model prog w) A (do
      let (.ref r,.ref a):=((Value.ref I,v):Value × Value) | return
      let o ← load r
      match o.cls,o.data with
      | .type n,.fields vs =>
        if ["enumerate","zip","dict_itemiterator","dict_reverseitemiterator","odict_iterator","itertools.zip_longest","itertools.pairwise"].contains n && vs[0]? == some (rawInt a) then
          rule "for.unpacks-the-owned-tuple"
          updateField r 0 .none
      | _,_=>pure ()) Q E s:=by
    cases (v) <;> first
      | exact wpAny_pure h
      | (refine wpAny_bind (wpAny_load e ?_)
         rw [hc]
         generalize o.data = d
         cases (d) with
         | fields vs =>
           dsimp only
           rw [hn]
           exact wpAny_pure h
         | _=>exact wpAny_pure h)
  cases (target) <;> first | exact key | exact wpAny_pure h
section
variable {C:Cfg} {k:Nat} {env:Env} {homes:List Home} {A:Around} {G:Addr→Prop} {ρ:Ren} {hp:Hp} {s:Shared}
theorem It.one {target:Expr} {tt:Bool} {xs:List AV} {fp:List Addr} {P:Nat→Value→Prop} {St:Nat→Heap→Prop} {o:Obj} {n0:Nat} (W:WR C G ρ hp s)
    (Wk:Walks C.prog C.w A s.heap.objs.size fp [s.heap.objs.size] n0 P St) (hn0:n0 = xs.length) (st:St 0 (s.heap.push o)) (cls:∀ i h,St i h→∃ o n,h.get? s.heap.objs.size = some o∧o.cls = .type n∧["enumerate","zip","dict_itemiterator","dict_reverseitemiterator","odict_iterator","itertools.zip_longest","itertools.pairwise"].contains n = false)
    (hfp:∀ b∈fp,b = s.heap.objs.size∨((∃ o,s.heap.get? b = some o)∧¬ Own ρ hp G b∧b≠C.P)) (hval:∀ i v x,xs[i]? = some x→P i v→VR C ρ (Own ρ hp G) s.heap x v) :
    ItS C A G ρ hp s target tt xs (.ref s.heap.objs.size) {s with heap:=s.heap.push o}:=by
  subst hn0
  refine ⟨s.heap.objs.size,fp,[s.heap.objs.size],(fun i v _=>P i v),(fun i v h=>P i v∧St (i + 1) h),St,?_⟩
  refine ⟨KTurns.ofWalks Wk fun i v s Q E st hq=>?_,st,⟨_,s.toks,rfl⟩,fun b o' e=>Heap.get?_push_of_some o e,fun b hb=>?_,fun i h hst b hb=>?_,fun b hb=>?_,fun i v x ρ' L' h' hx hP U=>.val (VR.up U (hval i v x hx hP)),fun s Q E st hq=>Wk.self 0 s Q E st hq⟩
  · obtain ⟨o,n,e,hc,hn⟩:=cls i _ st
    exact zzv e hc hn hq
  · rw [List.mem_singleton] at hb
    rw [hb]; exact zch
  · rw [List.mem_singleton] at hb
    rw [hb]
    obtain ⟨o,n,e,_⟩:=cls i _ hst
    exact ⟨o,e⟩
  · exact (hfp b hb).imp (fun e=>by rw [e]; exact List.mem_singleton.mpr rfl) id
theorem zf6 (a b:Int):(zfq a b).length = (b - a).toNat:=by simp [zfq]
theorem zje {a b:Int} {i:Nat} {x:AV} (h:(zfq a b)[i]? = some x):x = .int (a + i)∧i < (b - a).toNat:=by
  simp only [zfq,List.getElem?_map,Option.map_eq_some_iff] at h
  obtain ⟨j,e,rfl⟩:=h
  obtain ⟨h1,h2⟩:=List.getElem?_eq_some_iff.mp e
  simp at h1 h2
  subst h2
  exact ⟨rfl,by lia⟩
theorem zwp {target:Expr} {tt:Bool} {x:AV} {xs:List AV} {v:Value} {Q:Value→Shared→Prop} {E:Value→Shared→Prop} (e:zji x = some xs) (W:WR C G ρ hp s) (hh:A.handled = none) (r:VR C ρ (Own ρ hp G) s.heap x v)
    (h:∀ it s',ItS C A G ρ hp s target tt xs it s'→Q it s'):wpAny (model C.prog C.w) A (pyIter v) Q E s:=by
  cases (x) with
  | fl xs =>
    replace e:=Option.some.inj e; subst e
    replace r:=Mine.VR.flI r; obtain ⟨a,n,vs,e1,n1,rr⟩:=r
    · have hl:s.heap.IsList a vs.toArray:=⟨_,e1,rfl,_,rfl⟩
      have hne:a≠s.heap.objs.size:=Nat.ne_of_lt (Heap.lt_size e1)
      refine wpAny_pyIter_list hl (h _ _ (It.one W (Walks.list hh _ a hne vs.toArray) (by rw [List.size_toArray,rr.length]) ⟨⟨_,Heap.get?_push_size _ rfl,rfl,rfl⟩,hl.extBut (b:=s.heap.objs.size) (fun b o hb e=>Heap.get?_push_of_some _ e) hne⟩ ?_ ?_ ?_))
      · rintro i h ⟨⟨o,e,hc,_⟩,_⟩
        exact ⟨o,_,e,hc,by decide⟩
      · intro b hb
        simp at hb
        rcases hb with rfl | rfl
        · exact .inl rfl
        · exact .inr ⟨⟨_,e1⟩,n1,neP W.tabAt e1 (by simp)⟩
      · intro i v x hx hv
        obtain ⟨v',hv',q⟩:=rr.get hx
        have hv:vs.toArray[i]? = some v:=hv
        rw [List.getElem?_toArray,hv'] at hv
        replace hv:=Option.some.inj hv; subst hv; exact q
  | tup xs =>
    replace e:=Option.some.inj e; subst e
    replace r:=Mine.VR.tupI r; obtain ⟨a,n,vs,e1,n1,rr⟩:=r
    · have hl:s.heap.IsTuple a vs.toArray:=⟨_,e1,rfl,_,rfl⟩
      have hne:a≠s.heap.objs.size:=Nat.ne_of_lt (Heap.lt_size e1)
      refine wpAny_pyIter_tuple hl (h _ _ (It.one W (Walks.tuple hh _ a hne vs.toArray) (by rw [List.size_toArray,rr.length]) ⟨⟨_,Heap.get?_push_size _ rfl,rfl,rfl⟩,hl.extBut (b:=s.heap.objs.size) (fun b o hb e=>Heap.get?_push_of_some _ e) hne⟩ ?_ ?_ ?_))
      · rintro i h ⟨⟨o,e,hc,_⟩,_⟩
        exact ⟨o,_,e,hc,by decide⟩
      · intro b hb
        simp at hb
        rcases hb with rfl | rfl
        · exact .inl rfl
        · exact .inr ⟨⟨_,e1⟩,n1,neP W.tabAt e1 (by simp)⟩
      · intro i v x hx hv
        obtain ⟨v',hv',q⟩:=rr.get hx
        have hv:vs.toArray[i]? = some v:=hv
        rw [List.getElem?_toArray,hv'] at hv
        replace hv:=Option.some.inj hv; subst hv; exact q
  | str cs =>
    replace e:=Option.some.inj e; subst e
    cases r with
    | str _ t =>
      have hval:∀ i v x,(cs.map fun c=>AV.str [c])[i]? = some x→SignAt ⟨cs.toArray⟩ i v→VR C ρ (Own ρ hp G) s.heap x v:=fun i v x hx zv1=>by
        obtain ⟨c,u,hc,hv⟩:=zv1
        rw [List.getElem?_map] at hx
        have hc:cs[i]? = some c:=by simpa using hc
        rw [hc] at hx
        replace hx:=Option.some.inj hx; subst hx
        subst hv
        exact .str [c] u
      cases ha:(⟨cs.toArray⟩:Str).cps.all (· < 128)
      · refine wpAny_pyIter_wide ha (h _ _ (It.one W (Walks.strWide hh _ ⟨cs.toArray⟩ t) (by simp) ⟨_,Heap.get?_push_size _ rfl,rfl,rfl⟩ ?_ ?_ hval))
        · rintro i h ⟨o,e,hc,_⟩
          exact ⟨o,_,e,hc,by decide⟩
        · intro b hb
          exact .inl (by simpa using hb)
      · refine wpAny_pyIter_ascii ha (h _ _ (It.one W (Walks.strAscii hh _ ⟨cs.toArray⟩ t) (by simp) ⟨_,Heap.get?_push_size _ rfl,rfl,rfl⟩ ?_ ?_ hval))
        · rintro i h ⟨o,e,hc,_⟩
          exact ⟨o,_,e,hc,by decide⟩
        · intro b hb
          exact .inl (by simpa using hb)
  | rng a b =>
    revert e; refine ifR fun hb e=>?_
    replace e:=Option.some.inj e; subst e
    replace r:=Mine.VR.rngI r; obtain ⟨_,_,_,_,hr,n1⟩:=r
    · refine wpAny_pyIter_range hr (small_one (by lia) (by lia) (by lia) (by lia)) (h _ _ (It.one W (Walks.range hh _ a 1 (b - a).toNat) (zf6 a b).symm ?_ ?_ ?_ ?_))
      · show (Heap.push _ _).get? _ = _
        rw [Heap.get?_push_size _ rfl,rangeSize_nat]
        simp
      · intro i h e
        exact ⟨_,_,e,rfl,by decide⟩
      · intro b hb
        exact .inl (by simpa using hb)
      · rintro i v x hx ⟨t,rfl⟩
        rw [(zje hx).1,Int.mul_one]
        exact .int _ _
  | _=>exact noS e
theorem za4 {target ite:Expr} {tt:Bool} {m:ME} (h:SimE C k homes (eval ite env) m):SimI C k homes target tt ite env (valI m):=by
  intro A G a loc hp xs hp' e ρ s W R
  revert e; refine bpR fun x hp1 e1=>bR fun ys e2 e3=>?_
  obtain ⟨h1,h2⟩:=zbf e3; clear e3; subst h1 h2
  exact zco (h A G a _ _ _ _ e1 ρ s W R) fun w s₁ ρ₁ S₁ r₁=>zwp e2 S₁.wr a.hd r₁ fun it s' T=>⟨ρ₁,s₁,S₁,T⟩
theorem zhd {x:Str} {f:Value} {p pos:Pos} {args:List Expr} {m:MEs} {loc:Loc} {hp1:Hp} {xs:List AV} {Q:Value→Shared→Prop} {E:Value→Shared→Prop} (a:AOk k A) (g:zgp C x f) (hk:zk6 C f) (hargs:zhe C k homes (spliced (backTo pos (starEach args env))) m)
    (hkd:env.scope.kind = .function) (hl:env.kindOf x = some .globalImplicit) (hg:env.globals = mainGlobals) (hb:env.builtins = builtinsNs) (hd:(x == ("__debug__" : Str)) = false) (hs:(starEach args env).any (·.1) = false)
    (W:WR C G ρ hp s) (R:LR C G homes ρ hp loc s.heap) (e1:m loc hp = some (xs,hp1))
    (h:∀ ρ₁ s₁ vs,Step C G (fun _=>False) ρ hp s ρ₁ hp1 s₁→VRs C ρ₁ (Own ρ₁ hp1 G) s₁.heap xs vs→wpAny (model C.prog C.w) A (call f vs) Q E s₁):wpAny (model C.prog C.w) A (eval (.Call (.Name x p) args [] pos) env) Q E s:=by
  refine wpAny_Call_Name_kw (zha W g hkd hl hg hb hd ?_)
  show wpAny _ _ (callWith pos f [] (backTo pos (starEach args env)) []) _ _ _
  refine callWith_of (P:=fun h=>∀ b o,C.base.get? b = some o→h.get? b = some o) ?_ (fun h p=>hk h p) ?_
  · have:(backTo pos (starEach args env)).any (·.1) = (starEach args env).any (·.1):=by unfold backTo; rw [List.any_map]; rfl
    simp [this,hs]
  · refine zfy hs (zlx (hargs A G a loc hp xs hp1 e1 ρ s W R) fun vs s₁ ρ₁ S₁ r₁=>⟨S₁.wr.keep,?_⟩)
    exact h ρ₁ s₁ vs S₁ r₁
end
section
variable {prog:Program} {w:World} {A:Around} {E:Value→Shared→Prop} {s:Shared}
theorem zh6:isSubtype (.type "range_iterator") (.type "reversed") = pure false:=by rw [isSubtype_type]; kernel_rfl
theorem zle {r:Addr} {a b:Int} {t u v:Tok} {Q:Value→Shared→Prop} (hr:IsRange s.heap r a b 1 t u v) (hb:-1000000≤a∧a≤1000000∧-1000000≤b∧b≤1000000)
    (h:Q (.ref s.heap.objs.size) {s with heap:=s.heap.push {cls:=.type "range_iterator",data:=.fields #[rawInt (a + (((b - a).toNat:Int) - 1) * 1),rawInt ((b - a).toNat:Int),rawInt (-1)]}}) :
    wpAny (model prog w) A (call (.builtin "range.__reversed__") [.ref r]) Q E s:=by
  have hT:s.TypeIs (.ref r) "range" := ⟨_,hr,rfl⟩
  refine call_meets (S:=fun _ R s=>s.heap.get? r = some {cls:=.type "range",dict:=none,data:=.fields #[.int a t,.int b u,.int 1 v],slots:=#[]}∧
    R (.ok (.ret (Value.ref s.heap.objs.size))) {s with heap:=s.heap.push {cls:=.type "range_iterator",data:=.fields #[rawInt (a + (((b - a).toNat:Int) - 1) * 1),rawInt ((b - a).toNat:Int),rawInt (-1)]}}) F.slot_range_reversed hT F.entry_range_reversed (F.args_range_reversed_1 _) ?_ ⟨hr,h⟩
  have hsm:(Builtin.Range.rangeFitsLong a && Builtin.Range.rangeFitsLong b && Builtin.Range.rangeFitsLong 1 && Builtin.Range.rangeFitsLong (-1) && Builtin.Range.rangeFitsLong (a - 1) && Builtin.Range.rangeFitsLong (Builtin.Range.rangeSize a b 1)) = true:=by
    rw [rangeSize_nat]
    simp only [Builtin.Range.rangeFitsLong,Bool.and_eq_true,decide_eq_true_eq]
    lia
  have hc0:¬ (!(Builtin.Range.rangeFitsLong a && Builtin.Range.rangeFitsLong b && Builtin.Range.rangeFitsLong 1 && Builtin.Range.rangeFitsLong (-1) && Builtin.Range.rangeFitsLong (a - 1) && Builtin.Range.rangeFitsLong (Builtin.Range.rangeSize a b 1))) = true:=by rw [hsm]; decide
  refine .of_wp fun prog w A R s h=>?_
  obtain ⟨hp,g,d,tk,os⟩:=s
  obtain ⟨hl,h⟩:=h
  wp_walk
  rw [hsm,rangeSize_nat]
  exact ⟨_,rfl,h⟩
theorem zhz {r:Addr} {a b:Int} {t u v:Tok} {Q₁:Value→Shared→Prop} (hr:IsRange s.heap r a b 1 t u v) (hb:-1000000≤a∧a≤1000000∧-1000000≤b∧b≤1000000)
    (h:Q₁ (.ref s.heap.objs.size) {s with heap:=s.heap.push {cls:=.type "range_iterator",data:=.fields #[rawInt (a + (((b - a).toNat:Int) - 1) * 1),rawInt ((b - a).toNat:Int),rawInt (-1)]}}) :
    codeAny (model prog w) A (.call (.builtin "reversed.__new__") ⟨[.type "reversed",.ref r],[]⟩) (wants Q₁ E) s:=by
  have hT:s.TypeIs (.ref r) "range" := ⟨_,hr,rfl⟩
  refine codeAny_of_tree ?_
  show wpAny _ A.in1 (do checkBuiltinCall "reversed.__new__" ⟨[.type "reversed",.ref r],[]⟩; again (.builtin "reversed.__new__" ⟨[.type "reversed",.ref r],[]⟩)) _ _ s
  refine wpAny_bind (wpAny_of_eq (PySem.F.newCall_reversed_1 _) (wpAny_pure ⟨plainId_quiet PySem.F.plain_reversed_new _,codeAny_builtin PySem.F.entry_reversed_new ?_⟩))
  rw [Around.under_plainId PySem.F.plain_reversed_new _]
  unfold Builtin.«reversed.__new__»
  refine wpAny_bind (wpAny_of_eq (newClass_reversed _) ?_)
  try dsimp only
  refine wpAny_bind (wpAny_of_eq (a:=()) (by first | rfl | kernel_rfl) ?_)
  refine wpAny_bind (wpAny_of_eq (a:=()) (by first | rfl | kernel_rfl) ?_)
  try dsimp only
  refine wpAny_bind (wpAny_specialOf hT F.slot_range_reversed.lookup ?_)
  try dsimp only
  refine wpAny_bind (wpAny_of_eq (F.slot_range_reversed.bind _) ?_)
  try dsimp only
  first
  | rw [if_neg (show ¬ ((Value.builtin "range.__reversed__" == Value.none) = true) from Bool.false_ne_true)]
  | (show wpAny _ _ (if (Value.builtin "range.__reversed__" == Value.none) = true then _ else _) _ _ _; rw [if_neg (show ¬ ((Value.builtin "range.__reversed__" == Value.none) = true) from Bool.false_ne_true)])
  refine wpAny_bind (wpAny_rule ?_)
  refine wpAny_bind (m:=runValue (.call (.builtin "range.__reversed__") ⟨[.ref r],[]⟩)) (show wpAny _ _ (call (.builtin "range.__reversed__") [.ref r]) _ _ _ from zle hr hb ?_)
  first
  | exact wpAny_pure h
  | exact wpAny_bind (wpAny_pure (wpAny_pure h))
theorem zh0 {r:Addr} {a b:Int} {t u v:Tok} {Q:Value→Shared→Prop} (hr:IsRange s.heap r a b 1 t u v) (hb:-1000000≤a∧a≤1000000∧-1000000≤b∧b≤1000000)
    (h:Q (.ref s.heap.objs.size) {s with heap:=s.heap.push {cls:=.type "range_iterator",data:=.fields #[rawInt (a + (((b - a).toNat:Int) - 1) * 1),rawInt ((b - a).toNat:Int),rawInt (-1)]}}) :
    wpAny (model prog w) A (call (.type "reversed") [.ref r]) Q E s:=by
  refine callType_other (U:="range_iterator") (Q₁:=fun obj s₁=>obj = .ref s.heap.objs.size∧s₁ = {s with heap:=s.heap.push {cls:=.type "range_iterator",data:=.fields #[rawInt (a + (((b - a).toNat:Int) - 1) * 1),rawInt ((b - a).toNat:Int),rawInt (-1)]}})
    (by decide +kernel) PySem.F.create_reversed ⟨_,_,PySem.F.mro_reversed⟩ PySem.F.made_reversed zh6 (PySem.F.typeCall_reversed_1 _) (zhz hr hb ⟨rfl,rfl⟩) ?_
  rintro obj s₁ ⟨rfl,rfl⟩
  exact ⟨⟨_,Heap.get?_push_size _ rfl,rfl⟩,h⟩
end
section
variable {C:Cfg} {k:Nat} {env:Env} {homes:List Home}
theorem zpn {target arg:Expr} {tt:Bool} {p pos:Pos} {m:ME} (g:zgp C "reversed" (.type "reversed")) (h:SimE C k homes (eval arg env) m)
    (hkd:env.scope.kind = .function) (hl:env.kindOf "reversed" = some .globalImplicit) (hg:env.globals = mainGlobals) (hb:env.builtins = builtinsNs) (he:starEach [arg] env = (false,eval arg env) ::starEach [] env) :
    SimI C k homes target tt (.Call (.Name "reversed" p) [arg] [] pos) env (revI m):=by
  intro A G a loc hp xs hp' e ρ s W R
  revert e; refine bpR fun x hp1 e1 e2=>?_
  dsimp only at e2
  have hargs:zhe C k homes (spliced (backTo pos (starEach [arg] env))) (zac m zaf):=zad h zae he
  refine zhd (xs:=[x]) (hp1:=hp1) a g (fun h _=>⟨.machine,.inr (.inl rfl),Looks.of_pure rfl⟩) hargs hkd hl hg hb (by decide) (by rw [he]; rfl) W R (by simp [zac,zaf,e1]) fun ρ₁ s₁ vs S₁ r₁=>?_
  replace r₁:=Mine.VRs.consI r₁; obtain ⟨v,vs',r,r'⟩:=r₁
  replace r':=VRs.nilI r'; subst r'
  cases (x) with
  | fl ys =>
    obtain ⟨h1,h2⟩:=zbf e2; clear e2; subst h1 h2
    replace r:=Mine.VR.flI r; obtain ⟨b,n,vs,e3,n3,rr⟩:=r
    · have hli:s₁.heap.IsList b vs.toArray:=⟨_,e3,rfl,_,rfl⟩
      have hne:b≠s₁.heap.objs.size:=Nat.ne_of_lt (Heap.lt_size e3)
      have hst:(s₁.heap.push (revObj b ((vs.toArray.size:Int) - 1))).IsRevIter s₁.heap.objs.size b ((vs.toArray.size:Int) - 1):=⟨_,Heap.get?_push_size _ rfl,rfl,rfl⟩
      refine call_reversed_list hli (wpAny_pyIter_revIter (s:={s₁ with heap:=s₁.heap.push (revObj b ((vs.toArray.size:Int) - 1))}) hst ⟨ρ₁,s₁,S₁,?_⟩)
      refine It.one S₁.wr (Walks.listRev a.hd _ b hne vs.toArray) (by rw [List.size_toArray,List.length_reverse,rr.length]) ⟨Nat.zero_le _,?_,hli.extBut (b:=s₁.heap.objs.size) (fun b o hb e=>Heap.get?_push_of_some _ e) hne⟩ ?_ ?_ ?_
      · simpa using hst
      · rintro i h ⟨_,⟨o,e,hc,_⟩,_⟩
        exact ⟨o,_,e,hc,by decide⟩
      · intro c hc
        simp at hc
        rcases hc with rfl | rfl
        · exact .inl rfl
        · exact .inr ⟨⟨_,e3⟩,n3,neP S₁.wr.tabAt e3 (by simp)⟩
      · intro i v x hx hv
        have hi:i < ys.length:=by
          have:=(List.getElem?_eq_some_iff.mp hx).1
          simpa using this
        rw [List.getElem?_reverse hi] at hx
        obtain ⟨v',hv',q⟩:=rr.get hx
        have hv:vs.toArray[vs.toArray.size - 1 - i]? = some v:=hv
        rw [List.getElem?_toArray,List.size_toArray,← rr.length,hv'] at hv
        replace hv:=Option.some.inj hv; subst hv; exact q
  | rng b1 b2 =>
    revert e2; refine ifR fun hbd e2=>?_
    obtain ⟨h1,h2⟩:=zbf e2; clear e2; subst h1 h2
    replace r:=Mine.VR.rngI r; obtain ⟨_,_,_,_,hr,n1⟩:=r
    · refine zh0 hr hbd ?_
      refine wpAny_pyIter_rangeiter (Heap.get?_push_size _ rfl) ⟨ρ₁,s₁,S₁,?_⟩
      refine It.one S₁.wr (Walks.range a.hd _ (b1 + (((b2 - b1).toNat:Int) - 1) * 1) (-1) (b2 - b1).toNat) (by rw [List.length_reverse,zf6]) ?_ ?_ ?_ ?_
      · show (Heap.push _ _).get? _ = _
        rw [Heap.get?_push_size _ rfl]
        simp
      · intro i h e
        exact ⟨_,_,e,rfl,by decide⟩
      · intro b hb
        exact .inl (by simpa using hb)
      · rintro i v x hx ⟨t,rfl⟩
        have hi:i < (zfq b1 b2).length:=by
          have:=(List.getElem?_eq_some_iff.mp hx).1
          simpa using this
        rw [List.getElem?_reverse hi] at hx
        rw [(zje hx).1,zf6]
        rw [zf6] at hi
        have:b1 + (((b2 - b1).toNat:Int) - 1) * 1 + (i:Int) * -1 = b1 + (((b2 - b1).toNat - 1 - i:Nat):Int):=by lia
        rw [this]
        exact .int _ _
  | _=>exact noS e2
theorem zz8 {S a b:Nat} (h:a≠b):S + a≠S + b:=fun q=>h (Nat.add_left_cancel q)
theorem ltne {S a b:Nat} (h:b < S):b≠S + a:=Nat.ne_of_lt (Nat.lt_of_lt_of_le h (Nat.le_add_right _ _))
theorem fm0 {α:Type} {p:α→Prop}:∀ x∈([]:List α),p x:=fun _ h=>nomatch h
theorem fm {α:Type} {p:α→Prop} {a:α} {l:List α} (h:p a) (t:∀ x∈l,p x):∀ x∈a ::l,p x:=List.forall_mem_cons.mpr ⟨h,t⟩
theorem zve {S b b2:Nat} (lb:b < S) (lb2:b2 < S):ZipApart (S + 4) (S + 2) (S + 3) S (S + 1) b b2:=by
  constructor <;> first | exact @zz8 S _ _ (by decide) | exact @zz8 S _ 0 (by decide) | exact @zz8 S 0 _ (by decide) | exact ltne lb | exact ltne lb2 | exact @ltne S 0 _ lb | exact @ltne S 0 _ lb2
theorem zv2 {a1 a2:Expr} {elts:List Expr} {q:Nat} {tp p pos:Pos} {m1 m2:ME} (g:zgp C "zip" (.type "zip")) (h1:SimE C k homes (eval a1 env) m1) (h2:SimE C k homes (eval a2 env) m2)
    (hkd:env.scope.kind = .function) (hl:env.kindOf "zip" = some .globalImplicit) (hg:env.globals = mainGlobals) (hb:env.builtins = builtinsNs)
    (he:starEach [a1,a2] env = (false,eval a1 env) ::starEach [a2] env) (he2:starEach [a2] env = (false,eval a2 env) ::starEach [] env) :
    SimI C k homes (.Tuple elts q tp) true (.Call (.Name "zip" p) [a1,a2] [] pos) env (zipI m1 m2):=by
  intro A G a loc hp xs hp' e ρ s W R
  revert e; refine bpR fun x hp1 e1=>bpR fun y hp2 e2 e3=>?_
  dsimp only at e3
  have hargs:zhe C k homes (spliced (backTo pos (starEach [a1,a2] env))) (zac m1 (zac m2 zaf)):=zad h1 (zad h2 zae he2) he
  refine zhd (xs:=[x,y]) (hp1:=hp2) a g (fun h _=>⟨.machine,.inr (.inl rfl),Looks.of_pure rfl⟩) hargs hkd hl hg hb (by decide) (by rw [he,he2]; rfl) W R (by simp [zac,zaf,e1,e2]) fun ρ₁ s₁ vs S₁ r₁=>?_
  replace r₁:=Mine.VRs.consI r₁; obtain ⟨v,vs',r,r'⟩:=r₁
  replace r':=Mine.VRs.consI r'; obtain ⟨v2,vs2,r2,r3⟩:=r'
  replace r3:=VRs.nilI r3; subst r3
  cases (x) with
  | fl ys =>
   cases (y) with
   | fl zs =>
    obtain ⟨h1,h2⟩:=zbf e3; clear e3; subst h1 h2
    replace r:=Mine.VR.flI r; obtain ⟨b,n,vs,f3,n3,rr⟩:=r
    replace r2:=Mine.VR.flI r2; obtain ⟨b2,nn,vs2,f4,n4,rr2⟩:=r2
    · have hl1:s₁.heap.IsList b vs.toArray:=⟨_,f3,rfl,_,rfl⟩
      have hl2:s₁.heap.IsList b2 vs2.toArray:=⟨_,f4,rfl,_,rfl⟩
      have lb:@LT.lt Nat _ b s₁.heap.objs.size:=Heap.lt_size f3
      have lb2:@LT.lt Nat _ b2 s₁.heap.objs.size:=Heap.lt_size f4
      generalize hS:s₁.heap.objs.size = S at lb lb2
      refine call_zip_2 hl1 hl2 fun h' hz hTI hTO hi1 hi2 hsz kk=>?_
      rw [hS] at hz hTI hTO hi1 hi2 ⊢
      have k1:∀ o,s₁.heap.get? b = some o→h'.get? b = some o:=fun o e=>kk b o e
      refine wpAny_pyIter_zip (s:={s₁ with heap:=h'}) hz ⟨ρ₁,s₁,S₁,?_⟩
      have nos:∀ c:Addr,@LE.le Nat _ S c→s₁.heap.get? c = none:=fun c hc=>by
        cases q:s₁.heap.get? c with
        | none=>rfl
        | some o=>exact absurd (Heap.lt_size q) (by rw [hS]; exact Nat.not_lt.mpr hc)
      have D:ZipApart (S + 4) (S + 2) (S + 3) S (S + 1) b b2:=zve lb lb2
      let Wk:=(WalksT.zip2 (prog:=C.prog) (w:=C.w) a.hd (S + 4) (S + 2) (S + 3) S (S + 1) b b2 D vs.toArray vs2.toArray).toU
      have K:=KTurns.ofWalksU (elts:=elts) (k:=q) (pos:=tp) Wk
      have hlen:min vs.toArray.size vs2.toArray.size = (List.zipWith (fun x y=>AV.tup [x,y]) ys zs).length:=by
        rw [List.length_zipWith,List.size_toArray,List.size_toArray,rr.length,rr2.length]
      rw [hlen] at K
      let wr':List Addr:=[S + 4,S + 2,S + 3,S,S + 1]
      have hsubw:∀ c∈[S + 4,S + 3,S,S + 1],c∈wr':=fm (.head _) (fm (.tail _ (.tail _ (.head _))) (fm (.tail _ (.tail _ (.tail _ (.head _)))) (fm (.tail _ (.tail _ (.tail _ (.tail _ (.head _))))) fm0)))
      refine ⟨S + 4,_,wr',_,_,_,⟨⟨fun c hc=>?_,K.frame,fun i s Q E hi st hQ=>K.item i s Q E hi st fun v h' tk hm hk=>hQ v h' tk hm fun c o hc=>hk c o fun q=>hc (hsubw c q),
        fun i v s Q E hm hQ=>K.go i v s Q E hm fun h' hP hst hk=>hQ h' hP hst fun c o hc=>hk c o fun q=>hc (hsubw c q),fun s Q E st hQ=>K.done s Q E st fun h' tk hk=>hQ h' tk fun c o hc=>hk c o fun q=>hc (hsubw c q)⟩,
        ⟨hz,hTI,⟨_,_,hTO⟩,hi1,hi2,hl1.at fun o e=>kk b o e,hl2.at fun o e=>kk b2 o e⟩,⟨h',s₁.toks,rfl⟩,kk,fun c hc=>?_,fun i h st c hc=>?_,fun c hc=>?_,fun i v x ρ' L' h'' hx hP U=>?_,fun s Q E st hq=>Wk.self 0 s Q E st hq⟩⟩
      · exact (List.mem_append_left [b,b2] hc:c∈wr'++[b,b2])
      · exact (fm (nos _ (Nat.le_add_right _ _)) (fm (nos _ (Nat.le_add_right _ _)) (fm (nos _ (Nat.le_add_right _ _)) (fm (nos _ (Nat.le_refl _)) (fm (nos _ (Nat.le_add_right _ _)) fm0)))):∀ c∈wr',s₁.heap.get? c = none) c hc
      · obtain ⟨x1,x2,⟨_,_,x3⟩,⟨o4,x4,_⟩,⟨o5,x5,_⟩,_⟩:=st
        exact (fm ⟨_,x1⟩ (fm ⟨_,x2⟩ (fm ⟨_,x3⟩ (fm ⟨_,x4⟩ (fm ⟨_,x5⟩ fm0)))):∀ c∈wr',∃ o,h.get? c = some o) c hc
      · exact (fm (.inl (.head _)) (fm (.inl (.tail _ (.head _))) (fm (.inl (.tail _ (.tail _ (.head _)))) (fm (.inl (.tail _ (.tail _ (.tail _ (.head _))))) (fm (.inl (.tail _ (.tail _ (.tail _ (.tail _ (.head _)))))) (fm (.inr ⟨⟨_,f3⟩,n3,neP S₁.wr.tabAt f3 (by simp)⟩) (fm (.inr ⟨⟨_,f4⟩,n4,neP S₁.wr.tabAt f4 (by simp)⟩) fm0)))))):∀ c∈[S + 4,S + 2,S + 3,S,S + 1,b,b2],c∈wr'∨((∃ o,s₁.heap.get? c = some o)∧¬ Own ρ₁ hp2 G c∧c≠C.P)) c hc
      · obtain ⟨T,vals,rfl,⟨xv,yv,hxv,hyv,rfl⟩,hT⟩:=hP
        rw [List.getElem?_zipWith_eq_some] at hx
        obtain ⟨x1,y1,hx1,hy1,rfl⟩:=hx
        obtain ⟨v1,hv1,q1⟩:=rr.get hx1
        obtain ⟨v2,hv2,q2⟩:=rr2.get hy1
        rw [List.getElem?_toArray,hv1] at hxv
        rw [List.getElem?_toArray,hv2] at hyv
        replace hxv:=Option.some.inj hxv; subst hxv; replace hyv:=Option.some.inj hyv; subst hyv
        exact .tup hT (.cons (VR.up U q1) (.cons (VR.up U q2) .nil))
   | _=>exact noS e3
  | _=>cases (y) <;> exact noS e3
end
section
variable {C:Cfg} {k:Nat} {env:Env} {homes:List Home} {A:Around} {G:Addr→Prop} {ρ:Ren} {hp:Hp} {s:Shared}
theorem OR.neP {L:Addr→Prop} {h:Heap} {o:AO} {m x:Addr} (r:OR C ρ L h o m x) (ht:∃ ps,h.get? C.P = some (tabObj ps)):x≠C.P∧m≠C.P:=by
  obtain ⟨⟨a,b,c⟩,d,e,f⟩:=r.at_
  exact ⟨Mine.neP ht b c,Mine.neP ht e f⟩
theorem Step.put {n:Nat} {o o':AO} {m x:Addr} {h':Heap} {tk:Nat} (W:WR C G ρ hp s) (e:hp.H n = some o) (er:ρ n = some (m,x)) (hs:∀ b o,b≠x→s.heap.get? b = some o→h'.get? b = some o) (ht:∃ ob,h'.get? x = some ob)
    (oo:OR C ρ (Own ρ (hp.put n o') G) h' o' m x):Step C G (fun _=>False) ρ hp s ρ (hp.put n o') {s with heap:=h',toks:=tk}:=by
  have hne:∀ j,(hp.put n o').H j≠Option.none↔hp.H j≠Option.none:=fun j=>by
    simp only [Hp.put]
    by_cases q:j = n
    · subst q; simp [e]
    · simp [q]
  have hlv:∀ b,Lv ρ (hp.put n o') b↔Lv ρ hp b:=fun b=>⟨fun ⟨j,m',h1,h2⟩=>⟨j,m',(hne j).mp h1,h2⟩,fun ⟨j,m',h1,h2⟩=>⟨j,m',(hne j).mpr h1,h2⟩⟩
  have hx:Lv ρ hp x:=⟨n,m,by rw [e]; simp,er⟩
  have hown:∀ b,Own ρ (hp.put n o') G b→Own ρ hp G b:=fun b q=>q.imp (hlv b).mp id
  have U:Up C ρ ρ (Own ρ hp G) (Own ρ (hp.put n o') G) s.heap h':=⟨fun _ _ e=>e,fun b o e nb _=>hs b o (fun q=>nb (.inl (q ▸ hx))) e,fun b q=>.inl (hown b q),W.tabAt⟩
  have th:∀ b o,s.heap.get? b = some o→∃ o',h'.get? b = some o':=fun b o e=>by
    by_cases q:b = x
    · rw [q]; exact ht
    · exact ⟨o,hs b o q e⟩
  have hxP:x≠C.P:=by
    obtain ⟨m',x',e1,r⟩:=W.obj n o e
    rw [er] at e1
    obtain ⟨h1,h2⟩:=zbf e1; clear e1; subst h1 h2
    exact (r.neP W.tabAt).1
  refine ⟨⟨fun j oj ej=>?_,fun i j m1 y m2 h1 h2=>W.inj i j m1 y m2 ((hne i).mp h1) ((hne j).mp h2),fun j hj=>⟨?_,(W.top j hj).2⟩,fun b q=>W.nb b ((hlv b).mp q),fun b q=>W.ng b ((hlv b).mp q),fun b q=>let ⟨o,e⟩:=W.gt b q; th b o e,W.gb,
    fun b o eb=>hs b o (fun q=>by rw [q,W.nb x hx] at eb; exact noS eb) (W.keep b o eb),W.gens,W.os,?_⟩,fun _ _ e=>e,Nat.le_refl _,fun b o e nb _ _=>hs b o (fun q=>nb (q ▸ hx)) e,th,fun b q=>.inl ((hlv b).mp q)⟩
  · by_cases q:j = n
    · subst q
      simp only [Hp.put,if_true] at ej
      replace ej:=Option.some.inj ej; subst ej
      exact ⟨m,x,er,oo⟩
    · simp only [Hp.put,q,if_false] at ej
      obtain ⟨mj,xj,e1,r⟩:=W.obj j oj ej
      have hxj:xj≠x:=fun z=>q (W.inj j n mj xj m (by rw [ej]; simp) (by rw [e]; simp) e1 (z ▸ er))
      refine ⟨mj,xj,e1,?_⟩
      exact r.up U fun ob e=>hs _ _ hxj e
  · have:j≠n:=fun z=>by rw [z] at hj; rw [(W.top n hj).1] at e; exact noS e
    simp only [Hp.put,this,if_false]
    exact (W.top j hj).1
  · obtain ⟨ps,e,t⟩:=W.tab
    exact ⟨ps,hs _ _ (Ne.symm hxP) e,t.up fun a o e n1 _=>⟨hs _ _ (fun z=>n1 (.inl (z ▸ hx))) e,fun q=>n1 (hown _ q)⟩⟩
inductive LocList (C:Cfg) (G:Addr→Prop) (ρ:Ren) (hp:Hp) (s:Shared) (n:Nat) (xs:List AV):Value→Prop
  | mk (a:Addr) (vs:List Value) (c:Nat) (er:ρ n = some (a,a)) (e:s.heap.get? a = some (listOf vs.toArray c)) (r:VRs C ρ (Own ρ hp G) s.heap xs vs):LocList C G ρ hp s n xs (.ref a)
theorem zkq {n:Nat} {xs:List AV} {v:Value} (W:WR C G ρ hp s) (e:hp.H n = some (.list xs)) (r:VR C ρ (Own ρ hp G) s.heap (.loc n) v) :
    LocList C G ρ hp s n xs v:=by
  replace r:=Mine.VR.locI r; obtain ⟨_,_,er⟩:=r
  obtain ⟨m,x,e2,o⟩:=W.obj _ _ e
  rw [er] at e2
  obtain ⟨h1,h2⟩:=zbf e2; clear e2; subst h1 h2
  cases o with | list e1 r=>exact ⟨_,_,_,er,e1,r⟩
theorem Step.putList {n:Nat} {xs ys:List AV} {a:Addr} {vs ws:List Value} {c:Nat} {h':Heap} {tk:Nat} (W:WR C G ρ hp s) (e:hp.H n = some (.list xs)) (er:ρ n = some (a,a)) (hs:Heap.SameBut a s.heap h') (ha:h'.get? a = some (listOf ws.toArray c))
    (r:VRs C ρ (Own ρ hp G) s.heap ys ws):Step C G (fun _=>False) ρ hp s ρ (hp.put n (.list ys)) {s with heap:=h',toks:=tk}:=by
  have hx:Lv ρ hp a:=⟨n,a,by rw [e]; simp,er⟩
  have hown:∀ b,Own ρ (hp.put n (.list ys)) G b→Own ρ hp G b:=fun b q=>q.imp (fun zv1=>by
    obtain ⟨j,m',h1,h2⟩:=zv1
    refine ⟨j,m',?_,h2⟩
    simp only [Hp.put] at h1
    by_cases q:j = n
    · rw [q,e]; simp
    · simpa [q] using h1) id
  refine Step.put W e er (fun b o nb e=>(hs.2 b nb).trans e) ⟨_,ha⟩ (.list ha (VRs.up ⟨fun _ _ e=>e,fun b o e nb _=>(hs.2 b fun q=>nb (.inl (q ▸ hx))).trans e,fun b q=>.inl (hown b q),W.tabAt⟩ r))
noncomputable def setA (x y v:AV) (hp:Hp):Option Hp:=zn0 (fun n=>onI (fun i=>zfv (fun xs=>if 0≤i∧i < xs.length∧i < 1000000 then some (hp.put n (.list (xs.set i.toNat v))) else none) (hp.H n)) y) x
theorem setA_e (n:Nat) (i:Int) (v:AV) (hp:Hp):setA (.loc n) (.int i) v hp = zfv (fun xs=>if 0≤i∧i < xs.length∧i < 1000000 then some (hp.put n (.list (xs.set i.toNat v))) else none) (hp.H n):=rfl
theorem zj4 {x y z:AV} {hp':Hp} {o i v:Value} (e:setA x y z hp = some hp') (W:WR C G ρ hp s) (r1:VR C ρ (Own ρ hp G) s.heap x o) (r2:VR C ρ (Own ρ hp G) s.heap y i) (r3:VR C ρ (Own ρ hp G) s.heap z v) {Q:Unit→Shared→Prop} {E:Value→Shared→Prop}
    (h:∀ s',Step C G (fun _=>False) ρ hp s ρ hp' s'→Q () s'):wpAny (model C.prog C.w) A (setItem o i v) Q E s:=by
  revert e; refine zkj fun n q e=>?_
  subst q
  apply onIR ?_ r2 e; clear r2 e; intro i' t
  refine zkk fun xs eh=>ifR fun hz e=>?_
  replace e:=Option.some.inj e; subst e
  obtain ⟨a,vs,c,er,ha,r⟩:=zkq W eh r1
  refine ki_setAt ha hz.1 (by lia) (by rw [List.size_toArray,← r.length]; exact hz.2.1) (h _ ?_)
  refine Step.putList (vs:=vs) (ws:=vs.set i'.toNat v) W eh er (Heap.SameBut.update ..) (c:=c) ?_ (r.set r3 _)
  have q:=PySem.IsL.update (n:=c) ha (·.setIfInBounds i'.toNat v)
  simp only [List.setIfInBounds_toArray,List.size_toArray,List.length_set,beq_self_eq_true,if_true] at q ⊢
  exact q
noncomputable def subS (m mo mi:ME):MS:=fun loc hp=>do
  let (v,hp) ← m loc hp
  let (o,hp) ← mo loc hp
  let (i,hp) ← mi loc hp
  let hp ← setA o i v hp
  some (.nx,loc,hp)
theorem zcw {o i value:Expr} {p pos:Pos} {m mo mi:ME} (hm:SimE C k homes (eval value env) m) (ho:SimE C k homes (eval o env) mo) (hi:SimE C k homes (eval i env) mi)
    (hs:swapsWith value (some (.Subscript o i p)) pos.line env = pure false):SimS C k homes (exec (.Assign [.Subscript o i p] value pos) env) (subS m mo mi):=by
  intro A G a loc hp f loc' hp' e ρ s W R
  revert e; refine bpR fun v hp1 e1=>bpR fun x hp2 e2=>bpR fun y hp3 e3=>bR fun hp4 e4 e5=>?_
  obtain ⟨h1,h2,h3⟩:=zev e5; clear e5; subst h1 h2 h3
  refine wpAny_Assign_Subscript (zco (hm A G a _ _ _ _ e1 ρ s W R) fun w s₁ ρ₁ S₁ r₁=>?_) hs
  refine zco (ho A G a _ _ _ _ e2 ρ₁ s₁ S₁.wr (R.step0 W S₁)) fun ov s₂ ρ₂ S₂ r₂=>?_
  have R2:=(R.step0 W S₁).step0 S₁.wr S₂
  refine zco (hi A G a _ _ _ _ e3 ρ₂ s₂ S₂.wr R2) fun iv s₃ ρ₃ S₃ r₃=>?_
  have R3:=R2.step0 S₂.wr S₃
  refine zj4 e4 S₃.wr (VR.up (S₃.up S₂.wr fun _ q=>q.elim) r₂) r₃ (VR.up ((S₂.trans S₃).up S₁.wr fun _ q=>q.elim) r₁) fun s₄ S₄=>?_
  exact ⟨ρ₃,(S₁.trans (S₂.trans (S₃.trans S₄))).none,R3.step0 S₃.wr S₄,.nx⟩
noncomputable def zm9 (mo mi mv:ME) (op:AV→AV→Hp→Option (AV × Hp)):MS:=fun loc hp=>do
  let (o,hp) ← mo loc hp
  let (i,hp) ← mi loc hp
  let (old,hp) ← zaq o i hp
  let (v,hp) ← mv loc hp
  let (new,hp) ← op old v hp
  let hp ← setA o i new hp
  some (.nx,loc,hp)
theorem zou {o i value:Expr} {tp pos:Pos} {op:Operator} {mo mi mv:ME} {f2:AV→AV→Hp→Option (AV × Hp)} (ho:SimE C k homes (eval o env) mo) (hi:SimE C k homes (eval i env) mi) (hv:SimE C k homes (eval value env) mv) (hop:SimO C k (inplaceOp op) f2)
    (hst:∀ ov iv new,augStore i ov iv new = (do holding [new,ov,iv] (setItem ov iv new); release [new,ov,iv] []; pure .next)):SimS C k homes (exec (.AugAssign (.Subscript o i tp) op value pos) env) (zm9 mo mi mv f2):=by
  intro A G a loc hp f loc' hp' e ρ s W R
  revert e; refine bpR fun x hp1 e1=>bpR fun y hp2 e2=>bpR fun old hp3 e3=>bpR fun v hp4 e4=>bpR fun nw hp5 e5=>bR fun hp6 e6 e7=>?_
  obtain ⟨h1,h2,h3⟩:=zev e7; clear e7; subst h1 h2 h3
  refine wpAny_AugAssign_SubscriptAny (zco (ho A G a _ _ _ _ e1 ρ s W R) fun ov s₁ ρ₁ S₁ r₁=>?_) hst
  have R1:=R.step0 W S₁
  refine zco (hi A G a _ _ _ _ e2 ρ₁ s₁ S₁.wr R1) fun iv s₂ ρ₂ S₂ r₂=>?_
  have R2:=R1.step0 S₁.wr S₂
  have r1b:=VR.up (S₂.up S₁.wr fun _ q=>q.elim) r₁
  refine zde (zph (A:=A) e3 S₂.wr r1b r₂).2 fun oldv s₃ zq1=>?_; obtain ⟨ρ₃,S₃,r₃⟩:=zq1
  have R3:=R2.step0 S₂.wr S₃
  have r1c:=VR.up (S₃.up S₂.wr fun _ q=>q.elim) r1b
  have r2c:=VR.up (S₃.up S₂.wr fun _ q=>q.elim) r₂
  refine zco (hv A G a _ _ _ _ e4 ρ₃ s₃ S₃.wr R3) fun vv s₄ ρ₄ S₄ r₄=>?_
  have R4:=R3.step0 S₃.wr S₄
  have U4:=S₄.up S₃.wr fun _ q=>q.elim
  refine zco (hop A G a _ _ _ _ _ e5 ρ₄ s₄ _ _ S₄.wr (VR.up U4 r₃) r₄) fun nv s₅ ρ₅ S₅ r₅=>?_
  have R5:=R4.step0 S₄.wr S₅
  have U5:=S₅.up S₄.wr fun _ q=>q.elim
  refine zj4 e6 S₅.wr (VR.up U5 (VR.up U4 r1c)) (VR.up U5 (VR.up U4 r2c)) r₅ fun s₆ S₆=>?_
  exact ⟨ρ₅,(S₁.trans (S₂.trans (S₃.trans (S₄.trans (S₅.trans S₆))))).none,R5.step0 S₅.wr S₆,.nx⟩
noncomputable def zca:Fn:=fun args hp=>on2 (fun l v=>zn0 (fun n=>zfv (fun xs=>if xs.length≤1000000 then some (.none,hp.put n (.list (xs++[v]))) else none) (hp.H n)) l) args
theorem appendF_e (n:Nat) (v:AV) (hp:Hp):zca [.loc n,v] hp = zfv (fun xs=>if xs.length≤1000000 then some (.none,hp.put n (.list (xs++[v]))) else none) (hp.H n):=rfl
theorem zc6:SimF C k (.builtin "list.append") zca:=by
  intro A G a args hp v hp' e ρ s vs W r
  apply on2R ?_ e r; clear e r; intro l x w w2 r1 r2
  refine zkj fun n q=>zkk fun xs eh=>ifR fun hz e=>?_
  subst q
  obtain ⟨h1,h2⟩:=zbf e; clear e; subst h1 h2
  obtain ⟨l,vs,c,er,ha,rr⟩:=zkq W eh r1
  refine append_at (hsz:=by rw [List.size_toArray,← rr.length]; exact zhr hz) ha fun h' hs ho=>?_
  exact ⟨ρ,Step.putList (vs:=vs) (ws:=vs++[w2]) (c:=c + 1) (tk:=s.toks) W eh er hs (by rw [ho]; simp) (rr.append (.cons r2 .nil)),.none⟩
noncomputable def popF:Fn:=fun args hp=>match args with
  | []=>none
  | x ::l=>zn0 (fun n=>zfv (fun xs=>match l with
    | []=>xs.getLast?.bind fun x=>if xs.length≤1000000 then some (x,hp.put n (.list xs.dropLast)) else none
    | y ::l=>onI (fun i=>match l with
      | []=>match xs with
        | []=>none
        | x ::xs=>if i = 0∧xs.length + 1≤1000000 then some (x,hp.put n (.list xs)) else none
      | _=>none) y) (hp.H n)) x
theorem popF_1 (n:Nat) (hp:Hp):popF [.loc n] hp = zfv (fun xs=>xs.getLast?.bind fun x=>if xs.length≤1000000 then some (x,hp.put n (.list xs.dropLast)) else none) (hp.H n):=rfl
theorem popF_2 (n:Nat) (i:Int) (hp:Hp):popF [.loc n,.int i] hp = zfv (fun xs=>match xs with
        | []=>none
        | x ::xs=>if i = 0∧xs.length + 1≤1000000 then some (x,hp.put n (.list xs)) else none) (hp.H n):=rfl
theorem zss:SimF C k (.builtin "list.pop") popF:=by
  intro A G a args hp v hp' e ρ s vs W r
  cases r with
  | nil=>exact noS e
  | @cons y _ w ws r1 r =>
    revert e; refine zkj fun n q=>zkk fun xs eh e=>?_
    subst q
    cases r with
    | nil =>
      revert e; refine bR fun x el=>ifR fun hz e=>?_
      obtain ⟨h1,h2⟩:=zbf e; clear e; subst h1 h2
      obtain ⟨l,vs,c,er,ha,rr⟩:=zkq W eh r1
      have hlen:=rr.length
      obtain ⟨vx,hvx,rx⟩:=rr.get (i:=xs.length - 1) (by rw [← List.getLast?_eq_getElem?]; exact el)
      have hpos:0 < xs.length:=by
        cases xs with
        | nil=>exact noS el
        | cons _ _=>simp
      have hz':vs.toArray.size≤sizeLine:=by rw [List.size_toArray,← hlen]; exact zhr hz
      have hy:vs.toArray[vs.toArray.size - 1]? = some vx:=by rw [List.size_toArray,List.getElem?_toArray,← hlen]; exact hvx
      refine call_meets PySem.F.slot_list_pop ⟨_,ha,rfl⟩ PySem.F.entry_list_pop (PySem.F.args_list_pop_1 _) (PySem.MeetsSeq.list_pop_last l _ c vx hy hz') ⟨ha,?_⟩
      have hd:vs.toArray.eraseIdxIfInBounds (vs.toArray.size - 1) = vs.dropLast.toArray:=by
        apply Array.toList_inj.mp
        rw [Array.toList_eraseIdxIfInBounds,List.size_toArray]
        exact List.eraseIdx_length_sub_one
      have q:=PySem.IsL.update (n:=c) ha fun xs=>xs.eraseIdxIfInBounds (vs.toArray.size - 1)
      have S:=Step.putList (vs:=vs) (ws:=vs.dropLast) (c:=c + 1) (tk:=s.toks) (h':=s.heap.update l (Obj.mapSeq fun xs=>xs.eraseIdxIfInBounds (vs.toArray.size - 1))) W eh er (Heap.SameBut.update ..) (by
        rw [hd,if_neg (by simp; lia)] at q
        exact q) rr.dropLast
      exact ⟨ρ,S,VR.up (S.up W fun _ q=>q.elim) rx⟩
    | cons r2 r =>
      apply onIR ?_ r2 e; clear r2 e; intro i t e
      cases r with
      | cons _ _=>exact noS e
      | nil =>
        cases (xs) with
        | nil=>exact noS e
        | cons x xs =>
          revert e; refine ifR fun hz e=>?_
          obtain ⟨rfl,hz⟩:=hz
          obtain ⟨h1,h2⟩:=zbf e; clear e; subst h1 h2
          obtain ⟨l,vs,c,er,ha,rr⟩:=zkq W eh r1
          have hlen:=rr.length
          replace rr:=Mine.VRs.consI rr; obtain ⟨vx,vs,rx,rr⟩:=rr
          have hz':(vx ::vs).toArray.size≤sizeLine:=by rw [List.size_toArray,← hlen]; exact zhr (by simpa using hz)
          refine call_meets PySem.F.slot_list_pop ⟨_,ha,rfl⟩ PySem.F.entry_list_pop (PySem.F.args_list_pop_2 _ _) (PySem.MeetsSeq.list_pop_at l _ c 0 _ 0 vx (by decide) (by simp [seqIndex?]) (by simp) hz') ⟨ha,?_⟩
          have q:=PySem.IsL.update (n:=c) ha fun xs=>xs.eraseIdxIfInBounds 0
          have hd:(vx ::vs).toArray.eraseIdxIfInBounds 0 = vs.toArray:=by
            apply Array.toList_inj.mp
            rw [Array.toList_eraseIdxIfInBounds]; rfl
          have S:=Step.putList (vs:=vx ::vs) (ws:=vs) (c:=c + 1) (tk:=s.toks) (h':=s.heap.update l (Obj.mapSeq fun xs=>xs.eraseIdxIfInBounds 0)) W eh er (Heap.SameBut.update ..) (by
            rw [hd,if_neg (by simp)] at q
            exact q) rr
          exact ⟨ρ,S,VR.up (S.up W fun _ q=>q.elim) rx⟩
noncomputable def frzS (i:Nat):MS:=fun loc hp=>loc[i]?.bind fun o=>o.bind fun v=>zn0 (fun n=>zfv (fun xs=>some (.nx,loc.set i (some (.fl xs)),hp.free n)) (hp.H n)) v
theorem zx0 {n:Nat} {o0:AO} (W:WR C G ρ hp s) (e:hp.H n = some o0):WR C G ρ (hp.free n) s∧(∀ b,Lv ρ (hp.free n) b→Lv ρ hp b)∧∀ m a,ρ n = some (m,a)→¬ Lv ρ (hp.free n) a:=by
  have hlv:∀ b,Lv ρ (hp.free n) b→Lv ρ hp b:=fun b zv1=>by
    obtain ⟨j,m,h1,h2⟩:=zv1
    refine ⟨j,m,?_,h2⟩
    simp only [Hp.free] at h1
    by_cases q:j = n
    · simp [q] at h1
    · simpa [q] using h1
  have hne:∀ j,(hp.free n).H j≠none→hp.H j≠none∧j≠n:=fun j h1=>by
    simp only [Hp.free] at h1
    by_cases q:j = n
    · simp [q] at h1
    · exact ⟨by simpa [q] using h1,q⟩
  have hw:∀ b,Own ρ (hp.free n) G b→Own ρ hp G b:=fun b q=>q.imp (hlv b) id
  refine ⟨⟨fun j oj ej=>?_,fun i j m1 y m2 h1 h2=>W.inj i j m1 y m2 (hne i h1).1 (hne j h2).1,fun j hj=>⟨?_,(W.top j hj).2⟩,fun b q=>W.nb b (hlv b q),fun b q=>W.ng b (hlv b q),W.gt,W.gb,W.keep,W.gens,W.os,?_⟩,hlv,fun m0 a ha ⟨j,m,h1,h2⟩=>?_⟩
  · have hj:=hne j (by rw [ej]; simp)
    simp only [Hp.free,hj.2,if_false] at ej
    obtain ⟨m,x,e1,r⟩:=W.obj j oj ej
    refine ⟨m,x,e1,?_⟩
    exact r.weak hw
  · simp only [Hp.free]
    split
    · rfl
    · exact (W.top j hj).1
  · obtain ⟨ps,e,t⟩:=W.tab
    exact ⟨ps,e,t.up fun a o e n _=>⟨e,fun q=>n (hw _ q)⟩⟩
  · have hj:=hne j h1
    exact hj.2 (W.inj j n m a m0 hj.1 (by rw [e]; simp) h2 ha)
theorem ze8 {stmts:List Stmt} {r:MS} (i:Nat) (h:SimS C k homes (execs stmts env) r):SimS C k homes (execs stmts env) (seqS (frzS i) r):=by
  intro A G a loc hp f loc' hp' e ρ s W R
  revert e; refine btR fun f1 loc1 hp1 em=>?_
  revert em; refine bR fun o el=>bR fun v e2=>zkj fun n q=>zkk fun xs eh em e=>?_
  subst q; subst e2
  obtain ⟨h1,h2,h3⟩:=zev em; clear em; subst h1 h2 h3
  obtain ⟨W',hlv,hno⟩:=zx0 W eh
  have hi:i < homes.length:=by rw [← R.len]; exact (List.getElem?_eq_some_iff.mp el).1
  have hh:homes[i]? = some homes[i]:=List.getElem?_eq_getElem hi
  have hw:∀ b,Own ρ (hp.free n) G b→Own ρ hp G b:=fun b q=>q.imp (hlv b) id
  have weak:∀ {hm:Home} {ov:Option AV},zet C ρ (Own ρ hp G) s.heap hm ov→zet C ρ (Own ρ (hp.free n) G) s.heap hm ov:=fun {hm ov} q=>by
    cases hm with
    | ns a x=>exact let ⟨m,n,f⟩:=q; ⟨m,n,fun v e=>let ⟨w,a,b⟩:=f v e; ⟨w,a,VR.weak hw b⟩⟩
    | cell c=>exact let ⟨m,n,f⟩:=q; ⟨m,n,fun v e=>let ⟨w,a,b⟩:=f v e; ⟨w,a,VR.weak hw b⟩⟩
    | fz c d=>exact let ⟨⟨n1,n2,n3⟩,m,n,f⟩:=q; ⟨⟨fun q=>n1 (hw _ q),n2,n3⟩,m,n,fun v e=>let ⟨w,a,b⟩:=f v e; ⟨w,a,VR.weak hw b⟩⟩
  have R':LR C G homes ρ (hp.free n) loc s.heap:=⟨R.len,fun j hm ov e1 e2=>weak (R.at_ j hm ov e1 e2),R.g,R.nd⟩
  have key:∀ {w:Value},VR C ρ (Own ρ hp G) s.heap (.loc n) w→VR C ρ (Own ρ (hp.free n) G) s.heap (.fl xs) w:=fun {w} q=>by
    obtain ⟨l,vs,c,er,ha,rr⟩:=zkq W eh q
    refine .fl ha (fun q=>q.elim (hno l l er) fun q=>W.ng l ⟨n,l,by rw [eh]; simp,er⟩ q) (VRs.weak hw rr)
  have R2:LR C G homes ρ (hp.free n) (loc.set i (some (.fl xs))) s.heap:=R'.store hh (fun _ _ _ _ q=>q) (by
    have q:=R.at_ i _ _ hh el
    cases hm:homes[i] with
    | ns a x =>
      rw [hm] at q
      obtain ⟨m,n,f⟩:=q
      obtain ⟨w,e1,r1⟩:=f _ rfl
      exact ⟨m,n,fun v ev=>by replace ev:=Option.some.inj ev; subst ev; exact ⟨w,e1,key r1⟩⟩
    | cell c =>
      rw [hm] at q
      obtain ⟨m,n,f⟩:=q
      obtain ⟨w,e1,r1⟩:=f _ rfl
      exact ⟨m,n,fun v ev=>by replace ev:=Option.some.inj ev; subst ev; exact ⟨w,e1,key r1⟩⟩
    | fz c d =>
      rw [hm] at q
      obtain ⟨⟨n1,n2,n3⟩,m,nn,f⟩:=q
      obtain ⟨w,e1,r1⟩:=f _ rfl
      exact ⟨⟨fun q=>n1 (hw _ q),n2,n3⟩,m,nn,fun v ev=>by replace ev:=Option.some.inj ev; subst ev; exact ⟨w,e1,key r1⟩⟩)
  have S:Step C G (Xh homes) ρ hp s ρ (hp.free n) s:=⟨W',fun _ _ e=>e,Nat.le_refl _,fun _ _ e _ _ _=>e,fun _ o e=>⟨o,e⟩,fun b q=>.inl (hlv b q)⟩
  exact zde (h A G a _ _ _ _ _ e ρ s W' R2) fun _ s₂ h2=>h2.trans S
end
section
variable {C:Cfg} {k:Nat} {env:Env} {homes:List Home} {A:Around} {G:Addr→Prop} {ρ:Ren} {hp:Hp} {s:Shared}
theorem zba (T:String):zk6 C (.type T):=fun h _=>⟨.machine,.inr (.inl rfl),Looks.of_pure rfl⟩
noncomputable def lenF:Fn:=fun args hp=>on1 (fun x=>match x with
  | .tup xs=>if xs.length≤1000000 then some (.int xs.length,hp) else none
  | .str xs=>if xs.length≤1000000 then some (.int xs.length,hp) else none
  | x=>(zc0 hp x).bind fun xs=>if xs.length≤1000000 then some (.int xs.length,hp) else none) args
theorem zci:SimF C k (.builtin "len") lenF:=by
  intro A G a args hp v hp' e ρ s vs W r
  apply on1R ?_ e r; clear e r; intro x w r1 e
  have key:(zc0 hp x).bind (fun xs=>if xs.length≤1000000 then some (.int xs.length,hp) else none) = some (v,hp')→wpAny (model C.prog C.w) A (call (.builtin "len") [w]) (EPost C G ρ hp s v hp') noE s:=bR fun xs e1=>ifR fun hz e2=>by
    obtain ⟨h1,h2⟩:=zbf e2; clear e2; subst h1 h2
    obtain ⟨t,us,n,e3,rr⟩:=zcp W e1 r1
    have hl:=rr.length
    refine call_len_list ⟨_,e3,rfl,_,rfl⟩ (by simp; lia) ?_
    rw [List.size_toArray,← hl]
    exact zbz W (.int _ _)
  cases (x) with
  | tup xs =>
    revert e; refine ifR fun hz e=>?_
    obtain ⟨h1,h2⟩:=zbf e; clear e; subst h1 h2
    replace r1:=Mine.VR.tupI r1; obtain ⟨t,n,us,e1,n1,rr⟩:=r1
    have hl:=rr.length
    refine P.len_tuple e1 (by simp; lia) ?_
    rw [List.size_toArray,← hl]
    exact zbz W (.int _ _)
  | str xs =>
    revert e; refine ifR fun hz e=>?_
    obtain ⟨h1,h2⟩:=zbf e; clear e; subst h1 h2
    replace r1:=VR.strI r1; rcases r1 with ⟨_⟩
    refine P.len_str (by simp [Str.length]; lia) ?_
    have:Str.length ⟨xs.toArray⟩ = xs.length:=by simp [Str.length]
    rw [this]
    exact zbz W (.int _ _)
  | _=>exact key e
noncomputable def zbh:Fn:=fun args hp=>match args with
  | []=>none
  | x ::l=>onI (fun a=>match l with
    | []=>some (.rng 0 a,hp)
    | y ::l=>onI (fun b=>match l with
      | []=>some (.rng a b,hp)
      | _=>none) y) x
theorem zxh (W:WR C G ρ hp s) {a b:Int} {t u v:Tok} {o:Obj} (ho:o = {cls:=.type "range",data:=.fields #[.int a t,.int b u,.int 1 v]}) :
    VR C ρ (Own ρ hp G) (s.heap.push o) (.rng a b) (.ref s.heap.objs.size):=by
  subst ho
  exact .rng (IsRange.new ..) W.notOwn
theorem zbt:SimF C k (.type "range") zbh:=by
  intro A G a args hp v hp' e ρ s vs W r
  cases r with
  | nil=>exact noS e
  | cons r1 r =>
    apply onIR ?_ r1 e; clear r1 e; intro b t e
    cases r with
    | nil =>
      obtain ⟨h1,h2⟩:=zbf e; clear e; subst h1 h2
      exact call_range_1 ⟨ρ,Step.push W _,zxh W rfl⟩
    | cons r2 r =>
      apply onIR ?_ r2 e; clear r2 e; intro b t e
      cases r with
      | nil =>
        obtain ⟨h1,h2⟩:=zbf e; clear e; subst h1 h2
        exact call_range_2 ⟨ρ,Step.push W _,zxh W rfl⟩
      | cons _ _=>exact noS e
noncomputable def zrx:Fn:=fun args hp=>on1 (fun x=>(zc0 hp x).bind fun xs=>if xs.length≤1000000 then some (.tup xs,hp) else none) args
theorem zsq:SimF C k (.type "tuple") zrx:=by
  intro A G a args hp v hp' e ρ s vs W r
  apply on1R ?_ e r; clear e r; intro x w r1
  refine bR fun xs e1=>ifR fun hz e2=>?_
  obtain ⟨h1,h2⟩:=zbf e2; clear e2; subst h1 h2
  obtain ⟨t,us,n,e3,rr⟩:=zcp W e1 r1
  refine call_tuple_list (items:=us.toArray) ⟨_,e3,rfl,_,rfl⟩ (fun h' hk=>?_) (by rw [List.size_toArray,← rr.length]; exact zhr hz)
  have S:=Step.same (X:=fun _=>False) (h':=h') (tk:=s.toks) W hk
  exact zb3 S (zi9 S.wr _ (zj2 S.wr (VRs.up (S.up W fun _ q=>q.elim) rr)))
noncomputable def zzg (m:MEs):ML:=fun loc hp=>do
  let (args,hp) ← m loc hp
  on1 (fun x=>(zc0 hp x).bind fun xs=>if xs.length≤1000000 then some (xs,hp) else none) args
theorem FLPost.make {ρ1:Ren} {hp1:Hp} {s1:Shared} {h':Heap} {tk:Nat} {xs:List AV} {D:Addr} {vs:List Value} {n:Nat} (S0:Step C G (fun _=>False) ρ hp s ρ1 hp1 s1) (hk:∀ b o,s1.heap.get? b = some o→h'.get? b = some o) (hD:s1.heap.get? D = none)
    (e:h'.get? D = some (listOf vs.toArray n)) (r:VRs C ρ1 (Own ρ1 hp1 G) s1.heap xs vs):FLPost C G ρ hp s xs hp1 (.ref D) {s1 with heap:=h',toks:=tk}:=by
  have W:=S0.wr
  have hg:∀ b,plus G D b→G b∨s1.heap.get? b = none:=fun b q=>q.imp id fun (e:b = D)=>by rw [e]; exact hD
  have W':WR C (plus G D) ρ1 hp1 {s1 with heap:=h',toks:=tk}:=W.more hk hg fun b q=>q.elim (fun q=>(W.gt b q).imp fun o e=>hk b o e) fun q=>⟨_,q ▸ e⟩
  have S:Step C G (fun _=>False) ρ1 hp1 s1 ρ1 hp1 {s1 with heap:=h',toks:=tk}:=Step.same W hk
  refine ⟨ρ1,D,vs,n,rfl,S0.trans S,W',e,?_,VRs.up ⟨fun _ _ e=>e,fun b o e _ _=>hk b o e,fun b q=>q.elim (fun q=>.inl (.inl q)) fun q=>(hg b q).imp .inr id,W.tabAt⟩ r⟩
  cases q:s.heap.get? D with
  | none=>rfl
  | some o =>
    obtain ⟨o',e'⟩:=S0.there D o q
    rw [hD] at e'; exact noS e'
theorem zsx {p pos:Pos} {args:List Expr} {m:MEs} (g:zgp C "list" (.type "list")) (hargs:zhe C k homes (spliced (backTo pos (starEach args env))) m)
    (hkd:env.scope.kind = .function) (hl:env.kindOf "list" = some .globalImplicit) (hg:env.globals = mainGlobals) (hb:env.builtins = builtinsNs) (hs:(starEach args env).any (·.1) = false) :
    SimL C k homes (eval (.Call (.Name "list" p) args [] pos) env) (zzg m):=by
  intro A G a loc hp xs hp' e ρ s W R
  revert e; refine bpR fun x hp1 e1 e2=>?_
  refine zhd a g (zba _) hargs hkd hl hg hb (by decide) hs W R e1 fun ρ₁ s₁ vs S₁ r₁=>?_
  apply on1R ?_ e2 r₁; clear e2 r₁; intro x w r1
  refine bR fun ys e2=>ifR fun hz e3=>?_
  obtain ⟨h1,h2⟩:=zbf e3; clear e3; subst h1 h2
  obtain ⟨t,us,n,e4,rr⟩:=zcp S₁.wr e2 r1
  refine call_list_seq (items:=us.toArray) t (.inl rfl) e4 rfl rfl (fun h' c' hk hD=>?_) (by rw [List.size_toArray,← rr.length]; exact zhr hz)
  exact FLPost.make S₁ hk zch hD rr
noncomputable def maxF:Fn:=fun args hp=>on2 (fun x y=>onI (fun a=>onI (fun b=>some (.int (if b > a then b else a),hp)) y) x) args
theorem zmg:SimF C k (.builtin "max") maxF:=by
  intro A G a args hp v hp' e ρ s vs W r
  apply on2R ?_ e r; clear e r; intro x y u w r1 r2 e
  apply onIR ?_ r1 e; clear r1 e; intro i t e
  apply onIR ?_ r2 e; clear r2 e; intro j t2 e
  obtain ⟨h1,h2⟩:=zbf e; clear e; subst h1 h2
  refine max_two_ints a.hd fun h' tk hk=>?_
  have S:=Step.same (X:=fun _=>False) (h':=h') (tk:=tk) W hk
  split
  · exact ⟨ρ,S,.int _ _⟩
  · exact ⟨ρ,S,.int _ _⟩
noncomputable def zma:List AV→Option (List Int)
  | []=>some []
  | .int i ::r=>(zma r).map (i ::·)
  | _=>none
theorem zom {L:Addr→Prop} {h:Heap}:∀ {xs:List AV} {vs:List Value} {ns:List Int},zma xs = some ns→VRs C ρ L h xs vs→IntsAre vs ns:=by
  intro xs
  induction xs with
  | nil =>
    intro _ _ e r
    replace r:=VRs.nilI r; subst r; replace e:=Option.some.inj e; subst e; exact .nil
  | cons x xs ih =>
    intro _ _ e r
    replace r:=Mine.VRs.consI r; obtain ⟨_,_,r1,r⟩:=r
    cases (x) with
    | int i =>
      obtain ⟨ns,e3,e2⟩:=Option.map_eq_some_iff.mp e
      subst e2; replace r1:=VR.intI r1; rcases r1 with ⟨_⟩
      exact .cons _ _ (ih e3 r)
    | _=>exact noS e
theorem zn5 {L:Addr→Prop} {h:Heap} {vs:List Value} {ns:List Int} (r:IntsAre vs ns):VRs C ρ L h (ns.map .int) vs:=by
  induction r with
  | nil=>exact .nil
  | cons n t _ ih=>exact .cons (.int n t) ih
noncomputable def zl8:List AV→Option (List (List Nat))
  | []=>some []
  | .str i ::r=>(zl8 r).map (i ::·)
  | _=>none
theorem zol {L:Addr→Prop} {h:Heap}:∀ {xs:List AV} {vs:List Value} {ns:List (List Nat)},zl8 xs = some ns→VRs C ρ L h xs vs→StrsAre vs (ns.map fun x=>⟨x.toArray⟩):=by
  intro xs
  induction xs with
  | nil =>
    intro _ _ e r
    replace r:=VRs.nilI r; subst r; replace e:=Option.some.inj e; subst e; exact .nil
  | cons x xs ih =>
    intro _ _ e r
    replace r:=Mine.VRs.consI r; obtain ⟨_,_,r1,r⟩:=r
    cases (x) with
    | str i =>
      obtain ⟨ns,e3,e2⟩:=Option.map_eq_some_iff.mp e
      subst e2; replace r1:=VR.strI r1; rcases r1 with ⟨_⟩
      exact .cons _ _ (ih e3 r)
    | _=>exact noS e
theorem znk {L:Addr→Prop} {h:Heap} {vs:List Value} {ss:List Str} (r:StrsAre vs ss):VRs C ρ L h (ss.map fun x=>.str x.cps.toList) vs:=by
  induction r with
  | nil=>exact .nil
  | cons x t _ ih=>exact .cons (.str x.cps.toList t) ih
noncomputable def zrr:Fn:=fun args hp=>on1 (onI fun a=>some (.int (Builtin.Int.intBits a),hp)) args
theorem zv0:SimF C k (.builtin "int.bit_length") zrr:=by
  intro A G a args hp v hp' e ρ s vs W r
  apply on1R ?_ e r; clear e r; intro x w r1 e
  apply onIR ?_ r1 e; clear r1 e; intro i t e
  obtain ⟨h1,h2⟩:=zbf e; clear e; subst h1 h2
  exact call_int_bit_length (zbz W (.int _ _))
noncomputable def zhv (sep:List Nat):List (List Nat)→List Nat
  | []=>[]
  | [x]=>x
  | x ::r=>x++sep++zhv sep r
theorem zin (sep:List Nat):zhv sep [] =
   ([]):=rfl
theorem zim (sep:List Nat):∀ x,zhv sep [x] =
   (x):=fun _=>rfl
theorem zil (sep:List Nat):∀ x y r,zhv sep (x ::y ::r) = (x++sep++zhv sep (y ::r)):=fun _ _ _=>rfl
noncomputable def zt7:Fn:=fun args hp=>on2 (fun y x=>onS (fun sep=>(zc0 hp x).bind fun xs=>(zl8 xs).bind fun ss=>if ss.length≤1000∧sep.length≤10∧(∀ z∈ss,z.length≤1000)∧(zhv sep ss).length≤1000000 then some (.str (zhv sep ss),hp) else none) y) args
theorem zuo (sep:Nat):∀ (l:List Str) (acc:Nat),(∀ z∈l,z.length≤1000)→l.foldl (· + ·.length + sep) acc≤acc + l.length * (1000 + sep):=by
  intro l
  induction l with
  | nil =>
    intro _ _
    simp
  | cons z l ih =>
    intro acc h
    have:=ih (acc + z.length + sep) fun y hy=>h y (.tail _ hy)
    have h1:=h z (.head _)
    simp only [List.foldl_cons,List.length_cons]
    have:(l.length + 1) * (1000 + sep) = l.length * (1000 + sep) + (1000 + sep):=by rw [Nat.add_mul,Nat.one_mul]
    lia
theorem zt6 (sep:List Nat):∀ (ss:List (List Nat)),Str.join ⟨sep.toArray⟩ (ss.map fun x=>(⟨x.toArray⟩:Str)) = ⟨(zhv sep ss).toArray⟩
  | []=>rfl
  | [x]=>rfl
  | x ::y ::r=>by
    have ih:=zt6 sep (y ::r)
    simp only [List.map_cons] at ih ⊢
    simp only [Str.join,zin,zim,zil]
    rw [ih,zhg,zhg]
theorem zpk:SimF C k (.builtin "str.join") zt7:=by
  intro A G a args hp v hp' e ρ s vs W r
  apply on2R ?_ e r; clear e r; intro y x u w r1 r2 e
  apply onSR ?_ r1 e; clear r1 e; intro sep tk
  refine bR fun xs e1=>bR fun ss e2=>ifR fun hz e3=>?_
  obtain ⟨h1,h2⟩:=zbf e3; clear e3; subst h1 h2
  obtain ⟨t,us,n,e4,rr⟩:=zcp W e1 r2
  have hS:=zol e2 rr
  have:∃ l:List (Str × Tok),us = strValues l∧l.map (·.1) = ss.map fun x=>⟨x.toArray⟩:=by
    clear e2 rr e4
    generalize ss.map (fun x=>(⟨x.toArray⟩:Str)) = tt at hS
    induction hS with
    | nil=>exact ⟨[],rfl,rfl⟩
    | cons y t _ ih =>
      obtain ⟨l,h1,h2⟩:=ih
      exact ⟨(y,t) ::l,by rw [h1]; rfl,by simp [h2]⟩
  obtain ⟨l,rfl,hl⟩:=this
  have hll:l.length = ss.length:=by have:=congrArg List.length hl; simpa using this
  have hlong:Builtin.Str.tooLong ((l.map (·.1)).toArray.foldl (· + ·.length + Str.length ⟨sep.toArray⟩) 0) = false:=by
    have:(l.map (·.1)).toArray.foldl (· + ·.length + Str.length ⟨sep.toArray⟩) 0≤2000000:=by
      rw [List.foldl_toArray]
      have h1:=zuo (Str.length ⟨sep.toArray⟩) (l.map (·.1)) 0 (by
        rw [hl]
        intro z hz'
        obtain ⟨y,hy,rfl⟩:=List.mem_map.mp hz'
        simpa [Str.length] using hz.2.2.1 y hy)
      have h2:(l.map (·.1)).length≤1000:=by rw [hl]; simpa using hz.1
      have h3:Str.length ⟨sep.toArray⟩≤10:=by simpa [Str.length] using hz.2.1
      have h4:(l.map (·.1)).length * (1000 + Str.length ⟨sep.toArray⟩)≤1000 * 1010:=Nat.mul_le_mul h2 (by lia)
      lia
    simp only [Builtin.Str.tooLong,decide_eq_false_iff_not]
    rw [sizeLine_eq]
    lia
  refine call_meets F.slot_str_join (typeIs_str s _ _) F.entry_str_join (F.args_str_join_2 _ _) (meets_str_join_list ⟨sep.toArray⟩ _ t l hlong) ⟨⟨_,e4,rfl,_,rfl⟩,?_⟩
  have hj:=zt6 sep ss
  rw [← hl,← StrLaws.glued_eq_join] at hj
  unfold joinMade
  have hs:=zhr hz.2.2.2
  rcases l with _ | ⟨p,_ | ⟨p2,l2⟩⟩
  · dsimp only
    rw [hj]
    exact ⟨by simpa [Str.length] using hs,zbz W (.str _ _)⟩
  · have:zhv sep ss = p.1.cps.toList:=by
      cases ss with
      | nil=>simp at hl
      | cons z r =>
        cases r with
        | nil=>simp only [List.map_cons,List.map_nil] at hl; have:=List.head_eq_of_cons_eq hl; rw [this]; rfl
        | cons _ _=>simp at hl
    rw [this]
    refine zb9 W ?_
    obtain ⟨⟨⟨q⟩⟩,t2⟩:=p
    exact .str _ _
  · dsimp only
    rw [hj]
    exact ⟨by simpa [Str.length] using hs,zbz W (.str _ _)⟩
noncomputable def zl3:Fn:=fun args hp=>on2 (fun a b=>onS (fun x=>onS (fun y=>some (.int (Builtin.Str.occurrences ⟨x.toArray⟩ ⟨y.toArray⟩ 0 x.length (x.length + 1)).length,hp)) b) a) args
theorem zsv:SimF C k (.builtin "str.count") zl3:=by
  intro A G a args hp v hp' e ρ s vs W r
  apply on2R ?_ e r; clear e r; intro _ _ u w r1 r2 e
  apply onSR ?_ r1 e; clear r1 e; intro x t1 e
  apply onSR ?_ r2 e; clear r2 e; intro y t2 e
  obtain ⟨h1,h2⟩:=zbf e; clear e; subst h1 h2
  refine call_meets F.slot_str_count (typeIs_str s _ _) F.entry_str_count (F.args_str_count_2 _ _) (Gives.meets (gives_str_count ⟨x.toArray⟩ ⟨y.toArray⟩ _ _)) ?_
  have hx:Str.length ⟨x.toArray⟩ = x.length:=by simp [Str.length]
  rw [hx]
  exact zbz W (.int _ _)
noncomputable def eqS (x y:AV):Option Bool:=match x with
  | .int a=>onI (fun b=>some (a == b)) y
  | .str a=>onS (fun b=>some (a == b)) y
  | _=>none
noncomputable def eqV:Value→Value→Bool
  | .int a _,.int b _=>a == b
  | .str a _,.str b _=>a.cps.toList == b.cps.toList
  | _,_=>false
theorem zqg {L:Addr→Prop} {h:Heap} {x y:AV} {v w:Value} {b:Bool} (e:eqS x y = some b) (r1:VR C ρ L h x v) (r2:VR C ρ L h y w):eqV v w = b∧MeetsSeq.EqGives v w (eqV v w):=by
  cases (x) with
  | int i =>
    replace r1:=VR.intI r1; rcases r1 with ⟨_⟩; apply onIR ?_ r2 e; clear r2 e; intro j t e
    replace e:=Option.some.inj e; subst e; exact ⟨rfl,MeetsSeq.EqGives.int _ _ _ _⟩
  | str i =>
    replace r1:=VR.strI r1; rcases r1 with ⟨_⟩; apply onSR ?_ r2 e; clear r2 e; intro j t e
    replace e:=Option.some.inj e; subst e; exact ⟨rfl,SeqRoads2.EqGives.str _ _ _ _⟩
  | _=>exact noS e
noncomputable def idxL (x:AV):List AV→Option Nat
  | []=>none
  | y ::r=>match eqS y x with
    | some true=>if r.all (fun z=>(eqS z x).isSome) then some 0 else none
    | some false=>(idxL x r).map (· + 1)
    | none=>none
theorem zzs (x:AV):idxL x [] =
   (none):=rfl
theorem zo5 (x:AV):∀ y r,idxL x (y ::r) =
   (match eqS y x with
    | some true=>if r.all (fun z=>(eqS z x).isSome) then some 0 else none
    | some false=>(idxL x r).map (· + 1)
    | none=>none):=fun _ _=>rfl
theorem zuf {x:AV}:∀ {xs:List AV} {j:Nat},idxL x xs = some j→(∀ y∈xs,(eqS y x).isSome = true)∧(∃ y,xs[j]? = some y∧eqS y x = some true)∧∀ m y,m < j→xs[m]? = some y→eqS y x = some false:=by
  intro xs
  induction xs with
  | nil =>
    intro _ e
    exact noS e
  | cons y r ih =>
    intro j e
    (first | rw [zo5] at e | rw [zzs] at e)
    generalize he:eqS y x = o at e
    cases (o) with
    | none=>exact noS e
    | some o =>
    cases (o) with
    | true =>
      revert e; refine ifR fun ha e=>?_
      replace e:=Option.some.inj e; subst e
      refine ⟨fun z hz=>?_,⟨y,rfl,he⟩,fun m _ h=>absurd h (Nat.not_lt_zero _)⟩
      rcases List.mem_cons.mp hz with rfl | hz
      · rw [he]; rfl
      · exact List.all_eq_true.mp ha z hz
    | false =>
      revert e; refine mR fun j' e q=>?_
      subst q
      obtain ⟨h1,⟨z,h2,h3⟩,h4⟩:=ih e
      refine ⟨fun z hz=>?_,⟨z,by simpa using h2,h3⟩,fun m z hm hz=>?_⟩
      · rcases List.mem_cons.mp hz with rfl | hz
        · rw [he]; rfl
        · exact h1 z hz
      · cases m with
        | zero=>simp at hz; rw [← hz]; exact he
        | succ m=>exact h4 m z (by lia) (by simpa using hz)
noncomputable def zgz:Fn:=fun args hp=>on2 (fun l x=>(zc0 hp l).bind fun xs=>(idxL x xs).bind fun j=>if j < 1000000 then some (.int j,hp) else none) args
theorem zj6:SimF C k (.builtin "list.index") zgz:=by
  intro A G a args hp v hp' e ρ s vs W r
  apply on2R ?_ e r; clear e r; intro l x w w2 r1 r2
  refine bR fun xs e1=>bR fun j e2=>ifR fun hz e3=>?_
  obtain ⟨h1,h2⟩:=zbf e3; clear e3; subst h1 h2
  obtain ⟨t,us,n,e4,rr⟩:=zcp W e1 r1
  obtain ⟨h1,⟨y,h2,h3⟩,h4⟩:=zuf e2
  have hlen:=rr.length
  obtain ⟨vy,hy,ry⟩:=rr.get h2
  have hj:j < us.toArray.size:=by rw [List.size_toArray]; exact (List.getElem?_eq_some_iff.mp hy).1
  have hyy:us.toArray[j] = vy:=by have:=(List.getElem?_eq_some_iff.mp hy).2; simpa using this
  refine call_meets F.slot_list_index ⟨_,e4,rfl⟩ F.entry_list_index (F.args_list_index_2 _ _) (MeetsSeq.list_index t us.toArray n w2 (fun y=>eqV y w2) (fun y hy=>?_) j hj (by lia) ?_ fun m hm hmj=>?_) ⟨e4,?_⟩
  · obtain ⟨i,hi⟩:=List.mem_iff_getElem?.mp (by simpa using hy)
    obtain ⟨z,hz,rz⟩:=rr.get' hi
    obtain ⟨b,hb⟩:=Option.isSome_iff_exists.mp (h1 z (List.mem_of_getElem? hz))
    exact (zqg hb rz r2).2
  · show eqV us.toArray[j] w2 = true
    rw [hyy]
    exact (zqg h3 ry r2).1
  · show eqV us.toArray[m] w2 = false
    have hm':us[m]? = some us.toArray[m]:=by
      rw [List.getElem?_eq_getElem (by simpa using hm)]; simp
    obtain ⟨z,hz,rz⟩:=rr.get' hm'
    exact (zqg (h4 m z hmj hz) rz r2).1
  · exact zbz W (.int _ _)
noncomputable def cntL (x:AV):List AV→Option Nat
  | []=>some 0
  | y ::r=>match eqS y x with
    | some b=>(cntL x r).map (· + b.toNat)
    | none=>none
theorem zz2 (x:AV):cntL x [] =
   (some 0):=rfl
theorem zu4 (x:AV):∀ y r,cntL x (y ::r) =
   (match eqS y x with
    | some b=>(cntL x r).map (· + b.toNat)
    | none=>none):=fun _ _=>rfl
noncomputable def zks:Fn:=fun args hp=>on2 (fun l x=>(zc0 hp l).bind fun xs=>(cntL x xs).map fun j:Nat=>(AV.int (j:Int),hp)) args
theorem zz3 {L:Addr→Prop} {h:Heap} {x:AV} {w:Value} (r2:VR C ρ L h x w):∀ {xs:List AV} {us:List Value} {j:Nat},cntL x xs = some j→VRs C ρ L h xs us→us.countP (fun y=>eqV y w) = j∧∀ y∈us,MeetsSeq.EqGives y w (eqV y w):=by
  intro xs
  induction xs with
  | nil =>
    intro _ _ e r
    replace r:=VRs.nilI r; subst r; replace e:=Option.some.inj e; subst e; exact ⟨rfl,fun _ h=>nomatch h⟩
  | cons y xs ih =>
    intro _ _ e r
    replace r:=Mine.VRs.consI r; obtain ⟨v,vs,r1,r⟩:=r
    (first | rw [zu4] at e | rw [zz2] at e)
    generalize hb:eqS y x = o at e
    cases (o) with
    | none=>exact noS e
    | some b =>
      revert e; refine mR fun j' e q=>?_
      subst q
      obtain ⟨h1,h2⟩:=ih e r
      obtain ⟨h3,h4⟩:=zqg hb r1 r2
      refine ⟨?_,fun z hz=>?_⟩
      · rw [List.countP_cons,h1,h3]; cases (b) <;> rfl
      · rcases List.mem_cons.mp hz with rfl | hz
        · exact h4
        · exact h2 z hz
theorem zqv:SimF C k (.builtin "list.count") zks:=by
  intro A G a args hp v hp' e ρ s vs W r
  apply on2R ?_ e r; clear e r; intro l x w w2 r1 r2
  refine bR fun xs e1=>mR fun j e2 e3=>?_
  cases (e3)
  obtain ⟨t,us,n,e4,rr⟩:=zcp W e1 r1
  obtain ⟨h1,h2⟩:=zz3 r2 e2 rr
  refine call_meets F.slot_list_count ⟨_,e4,rfl⟩ F.entry_list_count (F.args_list_count_2 _ _) (MeetsSeq.list_count t us.toArray n w2 (fun y=>eqV y w2) (fun y hy=>h2 y (by simpa using hy))) ⟨e4,?_⟩
  have:us.toArray.toList.countP (fun y=>eqV y w2) = j:=h1
  rw [this]
  exact zbz W (.int _ _)
noncomputable def zjp (x y:AV) (hp:Hp):Option (AV × Hp):=match x with
  | .int a=>onI (fun b=>some (.int (a + b),hp)) y
  | .str a=>onS (fun b=>if a.length + b.length≤1000000 then some (.str (a++b),hp) else none) y
  | _=>none
theorem zh9:SimO C k (inplaceOp .Add) zjp:=by
  intro A G a x y hp v hp' e ρ s xv yv W r1 r2
  cases (x) with
  | int i =>
    replace r1:=VR.intI r1; rcases r1 with ⟨_⟩; apply onIR ?_ r2 e; clear r2 e; intro j t e
    obtain ⟨h1,h2⟩:=zbf e; clear e; subst h1 h2
    exact PyProof.Rows.iadd_int (zbz W (.int _ _))
  | str i =>
    replace r1:=VR.strI r1; rcases r1 with ⟨_⟩; apply onSR ?_ r2 e; clear r2 e; intro j t; refine ifR fun hz e=>?_
    obtain ⟨h1,h2⟩:=zbf e; clear e; subst h1 h2
    refine PyProof.Rows.iadd_str (fun t' tk=>?_) (hsz:=by simpa [Str.length] using zhr hz)
    refine zbz W ?_
    rw [zhg]
    exact .str _ _
  | _=>exact noS e
noncomputable def mulL (m1 m2:ME):ML:=fun loc hp=>do
  let (x,hp) ← m1 loc hp
  let (y,hp) ← m2 loc hp
  onI (fun i=>(zc0 hp x).bind fun xs=>on1 (fun x=>if 0≤i∧i≤1000000 then some (List.replicate i.toNat x,hp) else none) xs) y
theorem zun {α:Type} (x:α):∀ (n:Nat) (acc:Array α),List.foldl (fun x1 x2=>x1++x2) acc (List.replicate n #[x]) = acc++(List.replicate n x).toArray:=by
  intro n
  induction n with
  | zero =>
    intro acc
    simp
  | succ n ih =>
    intro acc
    rw [List.replicate_succ,List.foldl_cons,ih,List.replicate_succ]
    apply Array.toList_inj.mp
    simp
theorem VRs.replicate {L:Addr→Prop} {h:Heap} {x:AV} {v:Value} (r:VR C ρ L h x v):∀ n,VRs C ρ L h (List.replicate n x) (List.replicate n v):=by
  intro n
  induction n with
  | zero =>
    exact .nil
  | succ n ih =>
    exact .cons r (ih)
theorem zpm {l r:Expr} {pos:Pos} {m1 m2:ME} (h1:SimE C k homes (eval l env) m1) (h2:SimE C k homes (eval r env) m2):SimL C k homes (eval (.BinOp l .Mult r pos) env) (mulL m1 m2):=by
  intro A G a loc hp v hp' e ρ s W R
  revert e; refine bpR fun x hp1 e1=>bpR fun y hp2 e2 e3=>?_
  refine wpAny_BinOp (zco (h1 A G a loc hp x hp1 e1 ρ s W R) fun xv s₁ ρ₁ S₁ r₁=>?_)
  refine zco (h2 A G a loc hp1 y hp2 e2 ρ₁ s₁ S₁.wr (R.step0 W S₁)) fun yv s₂ ρ₂ S₂ r₂=>?_
  apply onIR ?_ r₂ e3; clear r₂ e3; intro i tk2
  refine bR fun xs e3 e4=>?_
  obtain ⟨b1,vs,n1,g1,q1⟩:=zcp S₂.wr e3 (VR.up (S₂.up S₁.wr fun _ q=>q.elim) r₁)
  revert g1; apply on1R ?_ e4 q1; clear e4 q1; intro z vz rz; refine ifR fun hz e4 g1=>?_
  obtain ⟨h1,h2⟩:=zbf e4; clear e4; subst h1 h2
  refine wpAny_binaryOp_repeat_ref (T:="list") (U:="int") (by decide) ⟨_,g1,rfl⟩ (fun s'=>typeIs_int s' i tk2) noFill_list_mul F.fills_int_mul F.slot_int_rmul repeat_list F.slot_int_index.lookup
    (call_meets F.slot_int_rmul (typeIs_int s₂ i tk2) F.entry_int_rmul (F.args_int_rmul_2 _ _) (int___rmul___int_list i tk2 b1 [vz].toArray n1)
      ⟨g1,rfl,⟨_,g1,rfl⟩,call_meets F.slot_list_mul ⟨_,g1,rfl⟩ F.entry_list_mul (F.args_list_mul_2 _ _)
        (AutoListH.list___mul___list_int_3 b1 [vz].toArray n1 i tk2 (by simp [Builtin.List.listFitsIndex]; lia) (by simp; lia) (by simp [Builtin.List.listTooLong,sizeLine]; lia))
        ⟨g1,?_⟩⟩)
  have:(List.foldl (fun x1 x2=>x1++x2) #[] (List.replicate (if ([vz].toArray).isEmpty = true then 0 else i.toNat) [vz].toArray)) = (List.replicate i.toNat vz).toArray:=by
    have e0:([vz].toArray).isEmpty = false:=rfl
    rw [e0]
    simp only [Bool.false_eq_true,if_false]
    rw [zun]; simp
  rw [this]
  exact FLPost.push (S₁.trans S₂) W (VRs.replicate rz _)
end
end Mine
end
section
open PySem PySem.W PyProof.Rows PySem.Calls PySem.SeqAt Builtin Builtin.ObjectAttr
namespace Mine
theorem zwb {α:Type} [BEq α] [LawfulBEq α]:∀ {l m:List α},l.Nodup→(∀ x∈l,x∈m)→l.length≤m.length:=by
  intro l
  induction l with
  | nil =>
    intro _ _ _
    exact Nat.zero_le _
  | cons x l ih =>
    intro m nd h
    rw [List.nodup_cons] at nd
    have hx:=h x (.head _)
    have:=ih nd.2 fun y hy=>(List.mem_erase_of_ne (fun e:y = x=>nd.1 (e ▸ hy))).mpr (h y (.tail _ hy))
    rw [List.length_erase_of_mem hx] at this
    have:0 < m.length:=List.length_pos_of_mem hx
    simp only [List.length_cons]
    lia
theorem zio (nm:Str) (t:Tok) (x:Str):(Value.str nm t).isStr x = (nm == x):=rfl
theorem zte {ns:List Str} {x:Str} (hx:x∈ns) {hs:Int} {t:Tok} {v:Value}:∀ {es:List DictEntry},zfo ns es→zfo ns (putL x hs (.str x t) v es):=by
  intro es
  induction es with
  | nil =>
    intro _
    exact fun e he=>by
      simp only [putL,List.mem_singleton] at he
      subst he; exact ⟨x,t,hx,rfl⟩
  | cons e r ih =>
    intro h
    unfold putL
    split
    · intro e' he
      rcases List.mem_cons.mp he with rfl | he
      · exact h e (.head _)
      · exact h e' (.tail _ he)
    · intro e' he
      rcases List.mem_cons.mp he with rfl | he
      · exact h e' (.head _)
      · exact ih (fun e he=>h e (.tail _ he)) e' he
theorem zq5 {ns:List Str} {x:Str} {hs:Int} {t:Tok} {v:Value}:∀ {es:List DictEntry},zfo ns es→(putL x hs (.str x t) v es).map (fun e=>zko e.key) = if es.any (·.key.isStr x) then es.map (fun e=>zko e.key) else es.map (fun e=>zko e.key)++[some x]:=by
  intro es
  induction es with
  | nil =>
    intro _
    exact rfl
  | cons e r ih =>
    intro h
    have ih:=ih fun e he=>h e (.tail _ he)
    unfold putL
    cases hb:e.key.isStr x with
    | true=>simp [hb]
    | false =>
      simp only [Bool.false_eq_true,if_false,List.map_cons,List.any_cons,hb,Bool.false_or]
      rw [ih]
      split <;> rfl
theorem zw6 {ns:List Str} {x:Str}:∀ {es:List DictEntry},zfo ns es→(es.any (·.key.isStr x) = true↔some x∈es.map (fun e=>zko e.key)):=by
  intro es
  induction es with
  | nil =>
    intro _
    simp
  | cons e r ih =>
    intro h
    obtain ⟨nm,t,_,hk⟩:=h e (.head _)
    have ih:=ih fun e he=>h e (.tail _ he)
    simp only [List.any_cons,List.map_cons,List.mem_cons,Bool.or_eq_true,ih,hk,zio,zko,beq_iff_eq,Option.some.injEq]
    constructor
    · rintro (rfl | h)
      · exact .inl rfl
      · exact .inr h
    · rintro (rfl | h)
      · exact .inl rfl
      · exact .inr h
theorem zyt {ns:List Str} {x:Str} {hs:Int} {t:Tok} {v:Value} {es:List DictEntry} (h:zfo ns es) (nd:zjm es):zjm (putL x hs (.str x t) v es):=by
  unfold zjm
  rw [zq5 h]
  split
  · exact nd
  · rename_i q
    have:some x ∉ es.map (fun e=>zko e.key):=fun z=>q ((zw6 h).mpr z)
    refine List.nodup_append.mpr ⟨nd,by simp,fun a ha b hb=>?_⟩
    rw [List.mem_singleton] at hb
    subst hb
    exact fun e=>this (e ▸ ha)
theorem noRef {ns:List Str} {es:List DictEntry} (h:zfo ns es):es.any (·.refKey) = false:=by
  rw [List.any_eq_false]
  intro e he
  obtain ⟨nm,t,_,hk⟩:=h e he
  simp [DictEntry.refKey,hk]
theorem zuk {ns:List Str} {x:Str} {es:List DictEntry} (h:zfo ns es):(getL x es).isSome = true:=by
  unfold getL
  split
  · rfl
  · rw [noRef h]; rfl
theorem zp9 {ns:List Str} {x:Str} {es:List DictEntry} (h:zfo ns es) (hx:x ∉ ns):getL x es = some none:=by
  unfold getL
  have:es.find? (·.key.isStr x) = none:=by
    rw [List.find?_eq_none]
    intro e he
    obtain ⟨nm,t,hn,hk⟩:=h e he
    rw [hk,zio]
    simp only [beq_iff_eq]
    rintro rfl
    exact hx hn
  rw [this,noRef h]; rfl
theorem zix {e:DictEntry} {r:List DictEntry} {x:Str} {v:Value}:zjq (e ::r) x v↔if e.key.isStr x = true then e.val = v else zjq r x v:=by
  unfold zjq getL
  simp only [List.find?_cons]
  cases e.key.isStr x with
  | true=>simp
  | false =>
    simp only [Bool.false_eq_true,if_false]
    cases r.find? (fun z=>z.key.isStr x) with
    | some z=>simp
    | none =>
      dsimp only
      constructor <;> (intro h; split at h <;> (first | (exact noS h) | (cases (h))))
theorem ztd {x:Str} {hs:Int} {t:Tok} {v:Value}:∀ {es:List DictEntry},zjq (putL x hs (.str x t) v es) x v:=by
  intro es
  induction es with
  | nil =>
    simp [zjq,getL,putL,zio]
  | cons e r ih =>
    unfold putL
    split
    · rename_i hb
      rw [zix,if_pos (by exact hb)]
    · rename_i hb
      rw [zix,if_neg hb]
      exact ih
theorem zq4 {ns:List Str} {x y:Str} {hs:Int} {t:Tok} {v u:Value} (hne:y≠x):∀ {es:List DictEntry},zfo ns es→zjq es y u→zjq (putL x hs (.str x t) v es) y u:=by
  intro es
  induction es with
  | nil =>
    intro _ h
    cases (h)
  | cons e r ih =>
    intro ho h
    obtain ⟨nm,tt,_,hk⟩:=ho e (.head _)
    have hor:zfo ns r:=fun e he=>ho e (.tail _ he)
    rw [zix] at h
    unfold putL
    split
    · rename_i hb
      have hy:¬ e.key.isStr y = true:=by
        rw [hk,zio] at hb ⊢
        simp only [beq_iff_eq] at hb ⊢
        rw [hb]; exact fun q=>hne q.symm
      rw [if_neg hy] at h
      rw [zix,if_neg (by exact hy)]
      exact h
    · rw [zix]
      split
      · rename_i hy
        rw [if_pos hy] at h; exact h
      · rename_i hy
        rw [if_neg hy] at h
        exact ih hor h
section
variable {prog:Program} {w:World} {A:Around} {E:Value→Shared→Prop} {s:Shared} {K:Frag} {x Cc dx:Addr} {es:List DictEntry} {n:Nat} {name:Str} {v:Value} {R:Result→Shared→Prop}
theorem zy3 {ox od od':Obj} {tk:Tok} {es':List DictEntry} (D:s.heap.get? dx = some od) (X:K.In s.heap) (I:InstAt s.heap x ox Cc (some od)) (hd:ox.dict = some dx) (hp:plainOver K Cc = true) (ht:takerIn K Cc name = some none)
    (hh:(clsIn K Cc).any (·.hasDict) = true) (hl:(lookIn name od).isSome = true) (D':(s.heap.update dx (Obj.putName name (PyData.keyHash w.params name) (.str name s.toks) v)).get? dx = some od') (e':od'.data = .dict es'.toArray n) (hz:es'.length≤1000)
    (h:R (.ok (.ret .none)) {s with heap:=s.heap.update dx (Obj.putName name (PyData.keyHash w.params name) (.str name s.toks) v),toks:=s.toks + 1}) :
    codeAny (model prog w) A (.call (.builtin "object.__setattr__") ⟨[.ref x,.str name tk,v],[]⟩) R s:=by
  refine osa_open X I hp ht fun b=>?_
  obtain ⟨cd,hc,hd'⟩:=any_some hh
  obtain ⟨hx,hcl,hn,-⟩:=I
  obtain ⟨oc,odi,oda,osl⟩:=ox
  dsimp only at hcl hd
  subst hcl hd
  refine wpAny_bind (wpAny_pure (wpAny_bind (wpAny_bind (wpAny_loadPart hx (wpAny_bind ((looks_clsIn X hc).here ?_))))))
  rw [hd']
  refine wpAny_pure (a:=some dx) (wpAny_bind (wpAny_pure (wpAny_bind ?_)))
  unfold nsSet
  refine wpAny_bind (wpAny_bind (wpAny_askSetting (wpAny_pure (wpAny_bind (wpAny_mkText (wpAny_bind (wpAny_loadPart D ?_)))))))
  unfold lookIn at hl
  split at hl
  · rename_i es₀ n₀ q
    rw [q]
    dsimp only
    have c:(!es₀.any (·.key.isStr name) && es₀.any (·.refKey)) = false:=by
      rw [← Array.any_toList,← Array.any_toList]
      split at hl
      · rename_i en he
        rw [List.any_eq_true.mpr ⟨en,List.mem_of_find?_eq_some he,List.find?_some he⟩]; rfl
      · split at hl
        · cases (hl)
        · rename_i z; rw [Bool.not_eq_true] at z; rw [z,Bool.and_false]
    rw [aRefKeyMayBeTheName_at,c]
    refine wpAny_updatePart D ?_
    refine wpAny_bind (wpAny_lookBehind D' (by rw [e']; exact pastItsLine_dict (by rw [List.size_toArray,sizeLine_eq]; lia)) ?_)
    exact wpAny_pure h
  · cases (hl)
theorem zyo {Q:Unit→Shared→Prop} (X:K.In s.heap) (D:s.heap.get? dx = some (dictOf es n)) (I:InstAt s.heap x (instObj Cc dx) Cc (some (dictOf es n)))
    (hs:findIn K (.ref Cc) "__setattr__" = some (some (.builtin "object.__setattr__"))) (hp:plainOver K Cc = true) (ht:takerIn K Cc name = some none) (hh:hasDictIn K Cc = true) (hl:(getL name es).isSome = true) (hz:es.length≤500)
    (h:∀ h' t hsh n',Heap.SameBut dx s.heap h'→h'.get? dx = some (dictOf (putL name hsh (.str name t) v es) n')→Q () {s with heap:=h',toks:=s.toks + 2}) :
    wpAny (model prog w) A (setAttr (.ref x) name v) Q E s:=by
  have hlen:∀ (hsh:Int) (key:Value) (l:List DictEntry),(putL name hsh key v l).length≤l.length + 1:=fun hsh key l=>by
    induction l with
    | nil=>simp [putL]
    | cons e r ih =>
      unfold putL
      split
      · simp
      · simp only [List.length_cons]; lia
  have D':(s.heap.update dx (Obj.putName name (PyData.keyHash w.params name) (.str name (s.toks + 1)) v)).get? dx = some (dictOf (putL name (PyData.keyHash w.params name) (.str name (s.toks + 1)) v es) (putN name es n)):=by
    rw [Heap.get?_update_self _ D (by rw [putName_dict]; rfl),putName_dict]
  refine set_plain X I hs (zy3 (s:={s with toks:=s.toks + 1}) D X I rfl hp ht hh hl D' rfl (Nat.le_trans (hlen _ _ _) (by lia)) ?_)
  exact h _ _ _ _ (Heap.SameBut.update ..) D'
end
structure ClsOk (C:Cfg) (c:Nat):Prop where
  inK:C.K.In C.base
  dict:hasDictIn C.K (C.cls c) = true
  get:plainGet C.K (C.cls c) "" = true
  over:plainOver C.K (C.cls c) = true
  sets:findIn C.K (.ref (C.cls c)) "__setattr__" = some (some (.builtin "object.__setattr__"))
  none_:∀ x∈C.fld c,findIn C.K (.ref (C.cls c)) x = some none
  make:makesIn C.K (C.cls c) = true
  nd:(C.fld c).Nodup
  len:(C.fld c).length≤50
noncomputable def okV:AV→Bool
  | .val _=>false
  | _=>true
noncomputable def zoa (c i:Nat) (x:AV) (hp:Hp):Option AV:=match x with
  | .loc n=>zgj (fun c' fs=>if c' = c then (fs[i]?).bind id else none) (hp.H n)
  | .obj c' fs=>if c' = c then fs[i]? else none
  | _=>none
theorem getAt_l (c i n:Nat) (hp:Hp):zoa c i (.loc n) hp = zgj (fun c' fs=>if c' = c then (fs[i]?).bind id else none) (hp.H n):=rfl
theorem getAt_o (c i c':Nat) (fs:List AV) (hp:Hp):zoa c i (.obj c' fs) hp = if c' = c then fs[i]? else none:=rfl
theorem onInst_e {γ:Type} (k:Nat→List (Option AV)→Option γ) (c:Nat) (xs:List (Option AV)):zgj k (some (.inst c xs)) = k c xs:=rfl
noncomputable def attE (c i:Nat) (m:ME):ME:=fun loc hp=>do
  let (x,hp) ← m loc hp
  let v ← zoa c i x hp
  if okV v then some (v,hp) else none
noncomputable def zq6 (c i:Nat) (x v:AV) (hp:Hp):Option Hp:=zn0 (fun n=>zgj (fun c' fs=>if c' = c∧i < fs.length then some (hp.put n (.inst c (fs.set i (some v)))) else none) (hp.H n)) x
theorem putAt_e (c i n:Nat) (v:AV) (hp:Hp):zq6 c i (.loc n) v hp = zgj (fun c' fs=>if c' = c∧i < fs.length then some (hp.put n (.inst c (fs.set i (some v)))) else none) (hp.H n):=rfl
section
variable {C:Cfg} {k:Nat} {env:Env} {homes:List Home} {A:Around} {G:Addr→Prop} {ρ:Ren} {hp:Hp} {s:Shared}
theorem zq8 {L:Addr→Prop} {h:Heap} {v:AV} {w:Value} (e:okV v = true) (r:VR C ρ L h v w):handedIn w = true:=by
  cases (r) <;> first | rfl | cases (e)
theorem zjm.le {ns:List Str} {es:List DictEntry} (nd:zjm es) (h:zfo ns es):es.length≤ns.length:=by
  have:=zwb (m:=ns.map some) nd fun x hx=>by
    obtain ⟨e,he,rfl⟩:=List.mem_map.mp hx
    obtain ⟨nm,t,hn,hk⟩:=h e he
    rw [hk]
    exact List.mem_map.mpr ⟨nm,hn,rfl⟩
  simpa using this
inductive get_atR (C:Cfg) (G:Addr→Prop) (ρ:Ren) (hp:Hp) (s:Shared) (c:Nat) (v:AV) (w:Value) (name:Str):Prop
  | mk (a:_) (dx:_) (es:_) (n:_) (u:_) (q1:w = .ref a) (q2:InstAt s.heap a (instObj (C.cls c) dx) (C.cls c) (some (dictOf es n))) (q3:zjq es name u) (q4:VR C ρ (Own ρ hp G) s.heap v u):get_atR C G ρ hp s c v w name
theorem get_at {c i:Nat} {x v:AV} {w:Value} {name:Str} (e:zoa c i x hp = some v) (hn:(C.fld c)[i]? = some name) (W:WR C G ρ hp s) (r:VR C ρ (Own ρ hp G) s.heap x w):get_atR C G ρ hp s c v w name:=by
  cases (x) with
  | loc n =>
    revert e; refine zkl fun c' fs eh=>ifR fun hc=>bR fun z hfi e=>?_
    subst hc
    replace r:=Mine.VR.locI r; obtain ⟨_,_,er⟩:=r
    obtain ⟨m,x,e2,o⟩:=W.obj _ _ eh
    rw [er] at e2
    obtain ⟨h1,h2⟩:=zbf e2; clear e2; subst h1 h2
    replace o:=Mine.OR.instI o; obtain ⟨_,_,e1,n1,e3,ks,ln,f⟩:=o
    obtain ⟨u,hu,ru⟩:=f i name v hn (hfi.trans (congrArg some e))
    exact ⟨_,_,_,_,u,rfl,⟨e1,rfl,rfl,e3⟩,hu,ru⟩
  | obj c' fs =>
    revert e; refine ifR fun hc e=>?_
    subst hc
    replace r:=Mine.VR.objI r; obtain ⟨_,_,_,_,_,e1,e3,n1,n3,ks,rr,f⟩:=r
    obtain ⟨u,hu,ru⟩:=rr.get e
    exact ⟨_,_,_,_,u,rfl,⟨e1,rfl,rfl,e3⟩,f i name u hn hu,ru⟩
  | _=>exact noS e
theorem zj7 {c i:Nat} {x v:AV} {w:Value} {name:Str} {expr:Bool} {Q:Value→Shared→Prop} {E:Value→Shared→Prop} (O:ClsOk C c) (e:zoa c i x hp = some v) (ok:okV v = true) (hn:(C.fld c)[i]? = some name) (W:WR C G ρ hp s) (r:VR C ρ (Own ρ hp G) s.heap x w)
    (h:∀ u,VR C ρ (Own ρ hp G) s.heap v u→Q u {s with toks:=s.toks + 1}):wpAny (model C.prog C.w) A (getAttr w name expr) Q E s:=by
  obtain ⟨a,dx,es,n,u,rfl,I,hu,ru⟩:=get_at e hn W r
  refine get_value (O.inK.keeps W.keep) I (plainGet_of O.get).1 (findObj_own O.dict (O.none_ name (List.mem_of_getElem? hn)) rfl ?_) (zq8 ok ru) (h u ru)
  exact hu
theorem zby {value:Expr} {attr:Str} {pos:Pos} {m:ME} (c i:Nat) (O:ClsOk C c) (hn:(C.fld c)[i]? = some attr) (h:SimE C k homes (eval value env) m) (hb:attributeBase value attr env (eval value env) = eval value env) :
    SimE C k homes (eval (.Attribute value attr pos) env) (attE c i m):=by
  intro A G a loc hp v hp' e ρ s W R
  revert e; refine bpR fun x hp1 e1=>bR fun v' e2 e3=>?_
  revert e3; refine ifR fun _ e3=>?_
  rename_i ok
  obtain ⟨h1,h2⟩:=zbf e3; clear e3; subst h1 h2
  rw [arm_eval_Attribute,hb]
  refine wpAny_bind (zco (h A G a _ _ _ _ e1 ρ s W R) fun xv s₁ ρ₁ S₁ r₁=>?_)
  refine wpAny_bind (wpAny_standAt (wpAny_bind (wpAny_holding ?_)))
  refine zj7 O e2 ok hn S₁.wr r₁ fun u ru=>?_
  exact wpAny_bind (wpAny_letTemporaryGo (wpAny_pure (zb3 S₁ (zbz S₁.wr ru))))
theorem zj5 {c i:Nat} {x v:AV} {hp':Hp} {o w:Value} {name:Str} {Q:Unit→Shared→Prop} {E:Value→Shared→Prop} (O:ClsOk C c) (e:zq6 c i x v hp = some hp') (hn:(C.fld c)[i]? = some name) (W:WR C G ρ hp s)
    (r1:VR C ρ (Own ρ hp G) s.heap x o) (r2:VR C ρ (Own ρ hp G) s.heap v w) (h:∀ s',Step C G (fun _=>False) ρ hp s ρ hp' s'→Q () s'):wpAny (model C.prog C.w) A (setAttr o name w) Q E s:=by
  revert e; refine zkj fun n q=>zkl fun c' fs eh=>ifR fun hc e=>?_
  subst q
  obtain ⟨rfl,hi⟩:=hc
  replace e:=Option.some.inj e; subst e
  replace r1:=Mine.VR.locI r1; obtain ⟨ad,y,er⟩:=r1
  obtain ⟨m,x,e2,oo⟩:=W.obj _ _ eh
  rw [er] at e2
  obtain ⟨h1,h2⟩:=zbf e2; clear e2; subst h1 h2
  replace oo:=Mine.OR.instI oo; obtain ⟨n9,es,e1,n1,e3,ks,ln,f⟩:=oo
  have hname:=List.mem_of_getElem? hn
  refine zyo (O.inK.keeps W.keep) e3 ⟨e1,rfl,rfl,e3⟩ O.sets O.over (by unfold takerIn; rw [O.none_ name hname]; rfl) O.dict (zuk ks) (Nat.le_trans (ln.le ks) (Nat.le_trans O.len (by lia))) fun h' t hsh n' hs hd=>h _ ?_
  have hx:Lv ρ hp y:=⟨n,ad,by rw [eh]; simp,er⟩
  have hown:∀ b,Own ρ (hp.put n (.inst c' (fs.set i (some v)))) G b→Own ρ hp G b:=fun b q=>q.imp (fun zv1=>by
    obtain ⟨j,m',h1,h2⟩:=zv1
    refine ⟨j,m',?_,h2⟩
    simp only [Hp.put] at h1
    by_cases q:j = n
    · rw [q,eh]; simp
    · simpa [q] using h1) id
  have U:Up C ρ ρ (Own ρ hp G) (Own ρ (hp.put n (.inst c' (fs.set i (some v)))) G) s.heap h':=⟨fun _ _ e=>e,fun b o e nb _=>(hs.2 b fun q=>nb (.inl (q ▸ hx))).trans e,fun b q=>.inl (hown b q),W.tabAt⟩
  refine Step.put W eh er (fun b o nb e=>(hs.2 b nb).trans e) ⟨_,hd⟩ (.inst ((hs.2 _ fun q=>n1 (.inl (by rw [q]; exact hx))).trans e1) (fun q=>n1 (hown _ q)) hd (zte hname ks) (zyt ks ln) fun j y f' h1 h2=>?_)
  by_cases hj:i = j
  · subst hj
    rw [hn] at h1
    replace h1:=Option.some.inj h1; subst h1
    rw [List.getElem?_set_self hi] at h2
    cases (h2)
    exact ⟨w,ztd,VR.up U r2⟩
  · rw [List.getElem?_set_ne hj] at h2
    obtain ⟨u,hu,ru⟩:=f j y f' h1 h2
    refine ⟨u,zq4 (fun q=>?_) ks hu,VR.up U ru⟩
    subst q
    exact hj (by
      obtain ⟨a1,b1⟩:=List.getElem?_eq_some_iff.mp hn
      obtain ⟨a2,b2⟩:=List.getElem?_eq_some_iff.mp h1
      exact (List.getElem_inj (h₀:=a1) (h₁:=a2) O.nd).mp (by rw [b1,b2]))
noncomputable def zee (c i:Nat) (m mo:ME):MS:=fun loc hp=>do
  let (v,hp) ← m loc hp
  let (o,hp) ← mo loc hp
  let hp ← zq6 c i o v hp
  some (.nx,loc,hp)
theorem zcx {o value:Expr} {attr:Str} {p pos:Pos} {m mo:ME} (c i:Nat) (O:ClsOk C c) (hn:(C.fld c)[i]? = some attr) (hm:SimE C k homes (eval value env) m) (ho:SimE C k homes (eval o env) mo)
    (hs:swapsWith value (some (.Attribute o attr p)) pos.line env = pure false):SimS C k homes (exec (.Assign [.Attribute o attr p] value pos) env) (zee c i m mo):=by
  intro A G a loc hp f loc' hp' e ρ s W R
  revert e; refine bpR fun v hp1 e1=>bpR fun x hp2 e2=>bR fun hp4 e4 e5=>?_
  obtain ⟨h1,h2,h3⟩:=zev e5; clear e5; subst h1 h2 h3
  refine plainObj_wpAny_Assign_Attribute (zco (hm A G a _ _ _ _ e1 ρ s W R) fun w s₁ ρ₁ S₁ r₁=>?_) hs
  have R1:=R.step0 W S₁
  refine zco (ho A G a _ _ _ _ e2 ρ₁ s₁ S₁.wr R1) fun ov s₂ ρ₂ S₂ r₂=>?_
  refine zj5 O e4 hn S₂.wr r₂ (VR.up (S₂.up S₁.wr fun _ q=>q.elim) r₁) fun s₄ S₄=>?_
  exact ⟨ρ₂,(S₁.trans (S₂.trans S₄)).none,(R1.step0 S₁.wr S₂).step0 S₂.wr S₄,.nx⟩
noncomputable def zpb (c i:Nat) (mo mv:ME) (op:AV→AV→Hp→Option (AV × Hp)):MS:=fun loc hp=>do
  let (o,hp) ← mo loc hp
  let old ← zoa c i o hp
  let (v,hp) ← mv loc hp
  let (nw,hp) ← op old v hp
  let hp ← zq6 c i o nw hp
  if okV old then some (.nx,loc,hp) else none
theorem znp {o value:Expr} {attr:Str} {tp pos:Pos} {op:Operator} {mo mv:ME} {f2:AV→AV→Hp→Option (AV × Hp)} (c i:Nat) (O:ClsOk C c) (hn:(C.fld c)[i]? = some attr) (ho:SimE C k homes (eval o env) mo) (hv:SimE C k homes (eval value env) mv)
    (hop:SimO C k (inplaceOp op) f2):SimS C k homes (exec (.AugAssign (.Attribute o attr tp) op value pos) env) (zpb c i mo mv f2):=by
  intro A G a loc hp f loc' hp' e ρ s W R
  revert e; refine bpR fun x hp1 e1=>bR fun old e2=>bpR fun v hp3 e3=>bpR fun nw hp4 e4=>bR fun hp5 e5 e6=>?_
  revert e6; refine ifR fun _ e6=>?_
  rename_i ok
  obtain ⟨h1,h2,h3⟩:=zev e6; clear e6; subst h1 h2 h3
  refine wpAny_AugAssign_AttributeAny (zco (ho A G a _ _ _ _ e1 ρ s W R) fun ov s₁ ρ₁ S₁ r₁=>?_)
  have R1:=R.step0 W S₁
  refine zj7 O e2 ok hn S₁.wr r₁ fun u ru=>?_
  have ST:=Step.toks (X:=fun _=>False) S₁.wr (s₁.toks + 1)
  refine zco (hv A G a _ _ _ _ e3 ρ₁ _ ST.wr R1) fun vv s₃ ρ₃ S₃ r₃=>?_
  have U3:=S₃.up ST.wr fun _ q=>q.elim
  refine zco (hop A G a _ _ _ _ _ e4 ρ₃ s₃ _ _ S₃.wr (VR.up U3 ru) r₃) fun nv s₄ ρ₄ S₄ r₄=>?_
  have U4:=S₄.up S₃.wr fun _ q=>q.elim
  refine zj5 O e5 hn S₄.wr (VR.up U4 (VR.up U3 r₁)) r₄ fun s₅ S₅=>?_
  refine ⟨ρ₄,(S₁.trans (ST.trans (S₃.trans (S₄.trans S₅)))).none,?_,.nx⟩
  exact (LR.step0 (LR.step0 (s:={s₁ with toks:=s₁.toks + 1}) R1 ST.wr S₃) S₃.wr S₄).step0 S₄.wr S₅
noncomputable def zn4 (c:Nat) (x:AV) (hp:Hp):Bool:=(match x with
  | .loc n=>zgj (fun c' _=>if c' = c then some () else none) (hp.H n)
  | .obj c' _=>if c' = c then some () else none
  | _=>none).isSome
theorem isInst_l (c n:Nat) (hp:Hp):zn4 c (.loc n) hp = (zgj (fun c' _=>if c' = c then some () else none) (hp.H n)).isSome:=rfl
inductive inst_atR (C:Cfg) (s:Shared) (c:Nat) (w:Value):Prop
  | mk (a:_) (dx:_) (es:_) (n:_) (q1:w = .ref a) (q2:InstAt s.heap a (instObj (C.cls c) dx) (C.cls c) (some (dictOf es n))) (q3:zfo (C.fld c) es):inst_atR C s c w
theorem zzn {c:Nat} {x:AV} {w:Value} (e:zn4 c x hp = true) (W:WR C G ρ hp s) (r:VR C ρ (Own ρ hp G) s.heap x w):inst_atR C s c w:=by
  obtain ⟨_,e⟩:=Option.isSome_iff_exists.mp e
  cases (x) with
  | loc n =>
    revert e; refine zkl fun c' fs eh=>ifR fun hc _=>?_
    subst hc
    replace r:=Mine.VR.locI r; obtain ⟨_,_,er⟩:=r
    obtain ⟨m,x,e2,o⟩:=W.obj _ _ eh
    rw [er] at e2
    obtain ⟨h1,h2⟩:=zbf e2; clear e2; subst h1 h2
    cases o with | inst e1 n1 e3 ks ln f=>exact ⟨_,_,_,_,rfl,⟨e1,rfl,rfl,e3⟩,ks⟩
  | obj c' fs =>
    revert e; refine ifR fun hc _=>?_
    subst hc
    cases r with | obj e1 e3 n1 n3 ks rr f=>exact ⟨_,_,_,_,rfl,⟨e1,rfl,rfl,e3⟩,ks⟩
  | _=>exact noS e
noncomputable def zcj (c:Nat) (fn:Fn) (m1:ME) (m2:MEs):ME:=fun loc hp=>do
  let (x,hp) ← m1 loc hp
  if zn4 c x hp then
    let (xs,hp) ← m2 loc hp
    fn (x ::xs) hp
  else none
theorem zbr {o:Expr} {name:Str} {apos pos:Pos} {args:List Expr} {f:Addr} {m1:ME} {m2:MEs} {fn:Fn} (c:Nat) (O:ClsOk C c) (h1:SimE C k homes (eval o env) m1) (hargs:zhe C k homes (spliced (backTo pos (starEach args env))) m2) (hf:SimF C k (.ref f) fn)
    (hk:zk6 C (.ref f)) (hfind:findIn C.K (.ref (C.cls c)) name = some (some (.ref f))) (hty:typeIn C.K (.ref f) = some (.type "function")) (hout:name ∉ C.fld c)
    (hbase:attributeBase o name env (eval o env) = eval o env)
    (hfew:((backTo pos (starEach args env)).all (fun x=>!x.1) && (backToKw pos (keywordEach [] env)).all (fun x=>x.1.isSome) && decide (args.length + ([]:List Keyword).length + (if ([]:List Keyword).isEmpty then 0 else 1) < 30)) = true)
    (hline:(apos.endLine == pos.line) = true) (hs:(starEach args env).any (·.1) = false) :
    SimE C k homes (eval (.Call (.Attribute o name apos) args [] pos) env) (zcj c fn m1 m2):=by
  intro A G a loc hp v hp' e ρ s W R
  revert e; refine bpR fun x hp1 e1=>ifR fun hT=>bpR fun xs hp2 e2 e3=>?_
  rw [arm_eval_Call,hbase]
  refine wpAny_bind (zco (h1 A G a loc hp x hp1 e1 ρ s W R) fun ov s₁ ρ₁ S₁ r₁=>?_)
  refine wpAny_bind (wpAny_standAt ?_)
  obtain ⟨b,dx,es,n,rfl,I,ks⟩:=zzn hT S₁.wr r₁
  have hform:methodCallForm (args.length + ([]:List Keyword).length) (backTo pos (starEach args env)) (backToKw pos (keywordEach [] env)) = true:=hfew
  have hpos:methodCallPos true o env apos pos = pure pos:=by unfold methodCallPos; simp [hline]
  unfold methodCall
  rw [hform]
  refine wpAny_bind (wpAny_holding (method_fn (O.inK.keeps S₁.wr.keep) I (plainGet_of O.get).1 (plainGet_of O.get).2 hfind hty (by show (lookIn name (dictOf es n)).map _ = _; rw [lookIn_dict,zp9 ks hout]; rfl) ?_))
  refine wpAny_bind (wpAny_of_eq hpos ?_)
  exact zde (zf9 (first:=[.ref b]) (fx:=[x]) a hk hs hargs hf S₁.wr (R.step0 W S₁) (.cons r₁ .nil) e2 e3) fun w s₂ h=>zb3 S₁ h
end
noncomputable def zh1:List (Option AV)→Option (List AV)
  | []=>some []
  | some x ::r=>(zh1 r).map (x ::·)
  | _=>none
theorem allSome_n:zh1 [] = some []:=rfl
theorem allSome_s (x:AV) (r:List (Option AV)):zh1 (some x ::r) = (zh1 r).map (x ::·):=rfl
theorem zrt:∀ {fs:List (Option AV)} {xs:List AV},zh1 fs = some xs→fs = xs.map some:=by
  intro fs
  induction fs with
  | nil=>intro _ e; replace e:=Option.some.inj e; subst e; rfl
  | cons x r ih =>
    intro _ e
    cases (x) with
    | none=>exact noS e
    | some x =>
      obtain ⟨ys,e3,e2⟩:=Option.map_eq_some_iff.mp e
      subst e2; rw [ih e3]; rfl
noncomputable def onN {γ:Type} (k:Option γ):AV→Option γ
  | .none=>k
  | _=>none
theorem onNR {γ:Type} {r:γ} {k:Option γ} {R:Prop} {x:AV} (H:x = .none→k = some r→R):onN k x = some r→R:=fun e=>by
  cases (x) with
  | none=>exact H rfl e
  | _=>exact noS e
noncomputable def zze (c nf:Nat) (init:Fn):Fn:=fun args hp=>(init (.loc hp.N ::args) (hp.new (.inst c (List.replicate nf none)))).bind fun z=>onN (some (.loc hp.N,z.2)) z.1
noncomputable def zty (c nf:Nat) (init:Fn):Fn:=fun args hp=>(init (.loc hp.N ::args) (hp.new (.inst c (List.replicate nf none)))).bind fun z=>onN (zgj (fun c' fs=>if c' = c∧fs.length = nf then (zh1 fs).map fun xs=>(.obj c xs,z.2.free hp.N) else none) (z.2.H hp.N)) z.1
theorem zwf {c nf:Nat} {init:Fn} {args:List AV} {hp hp':Hp} (h:init (.loc hp.N ::args) (hp.new (.inst c (List.replicate nf none))) = some (.none,hp')):zze c nf init args hp = some (.loc hp.N,hp'):=(congrArg (fun z=>Option.bind z _) h).trans rfl
theorem ztx {c nf:Nat} {init:Fn} {args:List AV} {hp hp':Hp} (h:init (.loc hp.N ::args) (hp.new (.inst c (List.replicate nf none))) = some (.none,hp')):zty c nf init args hp = zgj (fun c' fs=>if c' = c∧fs.length = nf then (zh1 fs).map fun xs=>(.obj c xs,hp'.free hp.N) else none) (hp'.H hp.N):=(congrArg (fun z=>Option.bind z _) h).trans rfl
section
variable {C:Cfg} {k:Nat} {env:Env} {homes:List Home} {A:Around} {G:Addr→Prop} {ρ:Ren} {hp:Hp} {s:Shared}
theorem AOk.make {A:Around} (a:AOk (k + 1) A) (c:Addr) (vs:List Value):AOk k (A.under (.builtin "type.__call__" ⟨.ref c ::vs,[]⟩)):=by
  have h1:(Code.builtin "type.__call__" ⟨.ref c ::vs,[]⟩).weight≤1:=by
    have:(Code.builtin "type.__call__" ⟨.ref c ::vs,[]⟩).weight = 1:=by kernel_rfl
    lia
  have h2:(Code.builtin "type.__call__" ⟨.ref c ::vs,[]⟩).cUnits≤20:=by
    have:(Code.builtin "type.__call__" ⟨.ref c ::vs,[]⟩).cUnits = 1:=by kernel_rfl
    lia
  exact ⟨a.hd,by have:=a.dp; simp only [Around.under]; lia,by have:=a.un; simp only [Around.under]; lia⟩
theorem zrb {c:Nat} (O:ClsOk C c) (W:WR C G ρ hp s) :
    Step C G (fun _=>False) ρ hp s (ρ.new hp.N (s.heap.objs.size + 1,s.heap.objs.size)) (hp.new (.inst c (List.replicate (C.fld c).length none))) {s with heap:=(s.heap.push emptyDict).push (instObj (C.cls c) s.heap.objs.size)}:=by
  have k0:∀ b o,s.heap.get? b = some o→((s.heap.push emptyDict).push (instObj (C.cls c) s.heap.objs.size)).get? b = some o:=fun b o e=>Heap.get?_push_of_some _ (Heap.get?_push_of_some _ e)
  have hd:((s.heap.push emptyDict).push (instObj (C.cls c) s.heap.objs.size)).get? s.heap.objs.size = some (dictOf [] 0):=Heap.get?_push_of_some _ (Heap.get?_push_size _ rfl)
  have hx:((s.heap.push emptyDict).push (instObj (C.cls c) s.heap.objs.size)).get? (s.heap.objs.size + 1) = some (instObj (C.cls c) s.heap.objs.size):=by
    have:=Heap.get?_push_size (h:=s.heap.push emptyDict) (o:=instObj (C.cls c) s.heap.objs.size) rfl
    rwa [Heap.size_push] at this
  have nos:∀ b,@LE.le Nat _ s.heap.objs.size b→s.heap.get? b = none:=fun b hb=>by
    cases q:s.heap.get? b with
    | none=>rfl
    | some o=>exact absurd (Heap.lt_size q) (Nat.not_lt.mpr hb)
  have hg:∀ b,plus G s.heap.objs.size b→G b∨s.heap.get? b = none:=fun b q=>q.imp id fun (e:b = s.heap.objs.size)=>by rw [e]; exact zch
  have W1:WR C (plus G s.heap.objs.size) ρ hp {s with heap:=(s.heap.push emptyDict).push (instObj (C.cls c) s.heap.objs.size),toks:=s.toks}:=W.more k0 hg fun b q=>q.elim (fun q=>(W.gt b q).imp fun o e=>k0 b o e) fun (q:b = s.heap.objs.size)=>⟨dictOf [] 0,by rw [q]; exact hd⟩
  have hb:C.base.get? s.heap.objs.size = none:=by
    cases q:C.base.get? s.heap.objs.size with
    | none=>rfl
    | some o=>have:=W.keep _ o q; rw [zch] at this; exact noS this
  have hGs:¬ G s.heap.objs.size:=fun q=>by
    obtain ⟨o,e⟩:=W.gt _ q
    rw [zch] at e; exact noS e
  have hlv:∀ b,Lv (ρ.new hp.N (s.heap.objs.size + 1,s.heap.objs.size)) (hp.new (.inst c (List.replicate (C.fld c).length none))) b→Lv ρ hp b∨b = s.heap.objs.size:=fun b zv1=>by
    obtain ⟨n,m',h1,h2⟩:=zv1
    by_cases hn:n = hp.N
    · simp only [Ren.new,hn,if_true] at h2
      cases (h2); exact .inr rfl
    · simp only [Ren.new,Hp.new,hn,if_false] at h1 h2
      exact .inl ⟨n,m',h1,h2⟩
  have hnm:¬ Own (ρ.new hp.N (s.heap.objs.size + 1,s.heap.objs.size)) (hp.new (.inst c (List.replicate (C.fld c).length none))) G (s.heap.objs.size + 1):=fun q=>by
    rcases q with q | q
    · rcases hlv _ q with q | q
      · obtain ⟨o,e⟩:=W.lv q
        rw [nos _ (Nat.le_succ _)] at e; exact noS e
      · exact absurd q (Nat.succ_ne_self _)
    · obtain ⟨o,e⟩:=W.gt _ q
      rw [nos _ (Nat.le_succ _)] at e; exact noS e
  obtain ⟨W2,_⟩:=WR.new (m:=s.heap.objs.size + 1) W1 hb hGs (o:=.inst c (List.replicate (C.fld c).length none)) (.inst hx hnm hd (fun _ h=>nomatch h) (by simp [zjm]) fun i x f h1 h2=>by
    rw [List.getElem?_replicate] at h2
    split at h2 <;> simp at h2)
  refine ⟨W2,Ren.ext_new W _,Nat.le_succ _,fun b o e _ _ _=>k0 b o e,fun b o e=>⟨o,k0 b o e⟩,fun b q=>?_⟩
  rcases hlv b q with q | q
  · exact .inl q
  · exact .inr (q ▸ zch)
theorem zp1 {c:Nat} {fI:Addr} {init:Fn} {args:List AV} {vs:List Value} {hp':Hp} {R:Result→Shared→Prop} (O:ClsOk C c) (hi:findIn C.K (.ref (C.cls c)) "__init__" = some (some (.ref fI))) (hf:typeIn C.K (.ref fI) = some (.type "function")) (h:zc1 C k (.ref fI) init)
    (a:AOk (k + 1) A) (W:WR C G ρ hp s) (r:VRs C ρ (Own ρ hp G) s.heap args vs) (e:init (.loc hp.N ::args) (hp.new (.inst c (List.replicate (C.fld c).length none))) = some (.none,hp'))
    (hq:∀ ρ' s' m dx,Step C G (fun _=>False) ρ hp s ρ' hp' s'→ρ' hp.N = some (m,dx)→R (.ok (.ret (.ref m))) s'):codeAny (model C.prog C.w) A (.call (.ref (C.cls c)) ⟨vs,[]⟩) R s:=by
  have S1:=zrb O W
  obtain ⟨hh,g,d,t,os⟩:=s
  refine make_core (makes_of (O.inK.keeps W.keep) O.make) (looks_findIn (O.inK.keeps W.keep) hi) (fun self=>bind_fn (O.inK.keeps W.keep) self hf) (.inl rfl) ?_
  have hN:(ρ.new hp.N (hh.objs.size + 1,hh.objs.size)) hp.N = some (hh.objs.size + 1,hh.objs.size):=by simp [Ren.new]
  refine codeAny_mono (h _ G (a.make _ vs) _ _ _ _ e _ _ (.ref (hh.objs.size + 1) ::vs) S1.wr (.cons (.loc hN) (VRs.up (S1.up W fun _ q=>q.elim) r))) fun r' s' z=>?_
  rcases r' with e | (v | _ | _ | _) <;> try exact z.elim
  obtain ⟨ρ',S2,rv⟩:=z
  replace rv:=VR.noneI rv; subst rv
  exact ⟨rfl,hq ρ' s' _ _ (S1.trans S2) (S2.ext _ _ hN)⟩
theorem zqx {c:Nat} {fI:Addr} {init:Fn} (O:ClsOk C c) (hi:findIn C.K (.ref (C.cls c)) "__init__" = some (some (.ref fI))) (hf:typeIn C.K (.ref fI) = some (.type "function")) (h:zc1 C k (.ref fI) init) :
    zc1 C (k + 1) (.ref (C.cls c)) (zze c (C.fld c).length init):=by
  intro A G a args hp v hp' e ρ s vs W r
  revert e; refine bpR fun z hp1 em=>onNR fun q e=>?_
  cases (q)
  obtain ⟨h1,h2⟩:=zbf e; clear e; subst h1 h2
  exact zp1 O hi hf h a W r em fun ρ' s' m dx S hN=>⟨ρ',S,.loc hN⟩
theorem zpx {ρ:Ren} {L:Addr→Prop} {h:Heap} {es:List DictEntry}:∀ {names:List Str} {xs:List AV},xs.length = names.length→(∀ (i:Nat) x f,names[i]? = some x→(xs.map some)[i]? = some (some f)→FV C ρ L h es x f)→
    ∃ vs,VRs C ρ L h xs vs∧∀ (i:Nat) x v,names[i]? = some x→vs[i]? = some v→zjq es x v
  | [],[],_,_=>⟨[],.nil,fun i x v h=>by simp at h⟩
  | n ::names,x ::xs,hl,f=>by
    obtain ⟨v,h1,h2⟩:=f 0 n x rfl rfl
    obtain ⟨vs,h3,h4⟩:=zpx (names:=names) (xs:=xs) (by simpa using hl) fun i y g e1 e2=>f (i + 1) y g (by simpa using e1) (by simpa using e2)
    refine ⟨v ::vs,.cons h2 h3,fun i y u e1 e2=>?_⟩
    cases i with
    | zero=>simp at e1 e2; rw [← e1,← e2]; exact h1
    | succ i=>exact h4 i y u (by simpa using e1) (by simpa using e2)
  | [],_ ::_,hl,_=>by cases (hl)
  | _ ::_,[],hl,_=>by cases (hl)
theorem zns {c:Nat} {fI:Addr} {init:Fn} (O:ClsOk C c) (hi:findIn C.K (.ref (C.cls c)) "__init__" = some (some (.ref fI))) (hf:typeIn C.K (.ref fI) = some (.type "function")) (h:zc1 C k (.ref fI) init) :
    zc1 C (k + 1) (.ref (C.cls c)) (zty c (C.fld c).length init):=by
  intro A G a args hp v hp' e ρ s vs W r
  revert e; refine bpR fun z hp1 em=>onNR fun q=>zkl fun c' fs eh=>ifR fun hc=>mR fun xs ea e=>?_
  cases (q)
  cases (e)
  have hfs:=zrt ea
  obtain ⟨rfl,hlen⟩:=hc
  refine zp1 O hi hf h a W r em fun ρ' s' m dx S hN=>?_
  obtain ⟨W',hlv,hno⟩:=zx0 S.wr eh
  have S':Step C G (fun _=>False) ρ' hp1 s' ρ' (hp1.free hp.N) s':=⟨W',fun _ _ e=>e,Nat.le_refl _,fun _ _ e _ _ _=>e,fun _ o e=>⟨o,e⟩,fun b q=>.inl (hlv b q)⟩
  have hw:∀ b,Own ρ' (hp1.free hp.N) G b→Own ρ' hp1 G b:=fun b q=>q.imp (hlv b) id
  obtain ⟨m2,x2,e2,o⟩:=S.wr.obj _ _ eh
  rw [hN] at e2
  obtain ⟨h1,h2⟩:=zbf e2; clear e2; subst h1 h2
  replace o:=Mine.OR.instI o; obtain ⟨_,_,e1,n1,e3,ks,ln,f⟩:=o
  subst hfs
  obtain ⟨us,ru,fu⟩:=zpx (by simpa using hlen) f
  refine ⟨ρ',S.trans S',.obj e1 e3 (fun q=>n1 (hw _ q)) (fun q=>?_) ks (VRs.weak hw ru) fu⟩
  rcases q with q | q
  · exact hno _ _ hN q
  · exact S.wr.ng dx ⟨hp.N,m,by rw [eh]; simp,hN⟩ q
theorem za5 {f:Value} (X:C.K.In C.base) (h:keepIn C.K f = true):zk6 C f:=fun hh k=>keeps_K h hh (X.keeps k)
theorem znt {x attr:Str} {cl:Addr} {p pos:Pos} {v:Value} {av:AV} {mc:Value} (X:C.K.In C.base) (g:zgp C x (.ref cl)) (hr:readsIn C.K cl mc = true) (e:findCls C.K (.ref cl) mc attr = some (.val v)) (hh:handedIn v = true) (hv:∀ ρ L h,VR C ρ L h av v)
    (hk:env.scope.kind = .function) (hl:env.kindOf x = some .globalImplicit) (hg:env.globals = mainGlobals) (hb:env.builtins = builtinsNs) (hd:(x == ("__debug__" : Str)) = false)
    (hbs:attributeBase (.Name x p) attr env (eval (.Name x p) env) = eval (.Name x p) env):SimE C k homes (eval (.Attribute (.Name x p) attr pos) env) (cst av):=by
  intro A G a loc hp v' hp' e' ρ s W R
  obtain ⟨h1,h2⟩:=zbf e'; clear e'; subst h1 h2
  rw [arm_eval_Attribute,hbs]
  refine wpAny_bind (zha W g hk hl hg hb hd ?_)
  refine wpAny_bind (wpAny_standAt (wpAny_bind (wpAny_holding ?_)))
  refine cls_value (X.keeps W.keep) hr e hh ?_
  exact wpAny_bind (wpAny_letTemporaryGo (wpAny_pure (zbz W (hv _ _ _))))
noncomputable def onB {γ:Type} (k:Bool→Option γ):AV→Option γ
  | .bool i=>k i
  | _=>none
theorem onBR {ρ:Ren} {L:Addr→Prop} {h:Heap} {γ:Type} {r:γ} {k:Bool→Option γ} {x:AV} {v:Value} {P:Value→Prop} (H:∀ b,x = .bool b→k b = some r→P (.bool b)) (q:VR C ρ L h x v) (e:onB k x = some r):P v:=by
  cases q with
  | bool b=>exact H b rfl e
  | _=>exact noS e
noncomputable def zu5 (o1 o2:AV→AV→Hp→Option (AV × Hp)) (m1 m2 m3:ME):ME:=fun loc hp=>do
  let (x,hp) ← m1 loc hp
  let (y,hp) ← m2 loc hp
  let (c,hp) ← o1 x y hp
  onB (fun b=>bif b then (m3 loc hp).bind fun z=>o2 y z.1 z.2 else some (c,hp)) c
theorem zov {l r1 r2:Expr} {op1 op2:CmpOp} {pos:Pos} {m1 m2 m3:ME} {o1 o2:AV→AV→Hp→Option (AV × Hp)} (h1:SimE C k homes (eval l env) m1) (h2:SimE C k homes (eval r1 env) m2) (h3:SimE C k homes (eval r2 env) m3)
    (ho1:SimO C k (compareOp op1) o1) (ho2:SimO C k (compareOp op2) o2) (hm:markedEach [op1,op2] [r1,r2] (evalEach [r1,r2] env) = [eval r1 env,eval r2 env]) :
    SimE C k homes (eval (.Compare l [op1,op2] [r1,r2] pos) env) (zu5 o1 o2 m1 m2 m3):=by
  intro A G a loc hp v hp' e ρ s W R
  revert e; refine bpR fun x hp1 e1=>bpR fun y hp2 e2=>bpR fun c hp3 e3 e4=>?_
  show wpAny _ A (do compareChain pos (← eval l env) [op1,op2] (markedEach [op1,op2] [r1,r2] (evalEach [r1,r2] env))) _ _ s
  rw [hm]
  refine wpAny_bind (zco (h1 A G a _ _ _ _ e1 ρ s W R) fun xv s₁ ρ₁ S₁ r₁=>?_)
  have R1:=R.step0 W S₁
  refine chain_link (zco (h2 A G a _ _ _ _ e2 ρ₁ s₁ S₁.wr R1) fun yv s₂ ρ₂ S₂ r₂=>?_)
  have R2:=R1.step0 S₁.wr S₂
  refine zco (ho1 A G a _ _ _ _ _ e3 ρ₂ s₂ _ _ S₂.wr (VR.up (S₂.up S₁.wr fun _ q=>q.elim) r₁) r₂) fun cv s₃ ρ₃ S₃ r₃=>?_
  have R3:=R2.step0 S₂.wr S₃
  have S13:=S₁.trans (S₂.trans S₃)
  apply onBR ?_ r₃ e4; clear r₃ e4; intro b q e4
  refine wpAny_truthy_bool ?_
  cases (b) with
  | true =>
    revert e4; refine bpR fun z hp4 e5 e6=>?_
    refine chain_last (zco (h3 A G a _ _ _ _ e5 ρ₃ s₃ S₃.wr R3) fun zv s₄ ρ₄ S₄ r₄=>?_)
    refine zde (ho2 A G a _ _ _ _ _ e6 ρ₄ s₄ _ _ S₄.wr (VR.up ((S₃.trans S₄).up S₂.wr fun _ q=>q.elim) r₂) r₄) fun w s₅ h=>?_
    exact zb3 (S13.trans S₄) h
  | false =>
    subst q
    obtain ⟨h1,h2⟩:=zbf e4; clear e4; subst h1 h2
    exact ⟨ρ₃,S13,.bool _⟩
noncomputable def zjk (x:Int):List Int→List Int
  | []=>[x]
  | y ::r=>if x≤y then x ::y ::r else y ::zjk x r
theorem zit (x:Int):zjk x [] =
   ([x]):=rfl
theorem zis (x:Int):∀ y r,zjk x (y ::r) =
   (if x≤y then x ::y ::r else y ::zjk x r):=fun _ _=>rfl
noncomputable def zgb:List Int→List Int
  | []=>[]
  | x ::r=>zjk x (zgb r)
theorem zkv (x:Int):∀ l,(zjk x l).Perm (x ::l):=by
  intro l
  induction l with
  | nil =>
    exact .refl _
  | cons y r ih =>
    (first | rw [zis] | rw [zit])
    split
    · exact .refl _
    · exact ((ih).cons y).trans (.swap ..)
theorem zmv (x:Int):∀ {l:List Int},l.Pairwise (·≤·)→(zjk x l).Pairwise (·≤·):=by
  intro l
  induction l with
  | nil =>
    intro _
    simp [zit,zis]
  | cons y r ih =>
    intro h
    have h':=List.pairwise_cons.mp h
    (first | rw [zis] | rw [zit])
    split
    · rename_i hxy
      refine List.pairwise_cons.mpr ⟨fun z hz=>?_,h⟩
      rcases List.mem_cons.mp hz with rfl | hz
      · exact hxy
      · exact Int.le_trans hxy (h'.1 z hz)
    · rename_i hxy
      refine List.pairwise_cons.mpr ⟨fun z hz=>?_,ih h'.2⟩
      rcases List.mem_cons.mp ((zkv x r).mem_iff.mp hz) with rfl | hz
      · lia
      · exact h'.1 z hz
theorem znn:∀ l,(zgb l).Perm l:=by
  intro l
  induction l with
  | nil =>
    exact .refl _
  | cons x r ih =>
    exact (zkv x _).trans ((ih).cons x)
theorem zk8:∀ l,(zgb l).Pairwise (·≤·):=by
  intro l
  induction l with
  | nil =>
    exact .nil
  | cons x r ih =>
    exact zmv x (ih)
theorem zmc {l m:List Int} (h:l.Perm m) (hl:l.Pairwise (·≤·)) (hm:m.Pairwise (·≤·)):l = m:=h.eq_of_pairwise (fun _ _ _ _ a b=>Int.le_antisymm a b) hl hm
noncomputable def zjs (m:MEs):ML:=fun loc hp=>do
  let (args,hp) ← m loc hp
  on1 (fun x=>(zc0 hp x).bind fun xs=>(zma xs).bind fun ns=>if ns.length≤60 then some ((zgb ns).map .int,hp) else none) args
theorem znr {p pos:Pos} {args:List Expr} {m:MEs} (g:zgp C "sorted" (.builtin "sorted")) (hargs:zhe C k homes (spliced (backTo pos (starEach args env))) m)
    (hkd:env.scope.kind = .function) (hl:env.kindOf "sorted" = some .globalImplicit) (hg:env.globals = mainGlobals) (hb:env.builtins = builtinsNs) (hs:(starEach args env).any (·.1) = false) :
    SimL C k homes (eval (.Call (.Name "sorted" p) args [] pos) env) (zjs m):=by
  intro A G a loc hp xs hp' e ρ s W R
  revert e; refine bpR fun x hp1 e1 e2=>?_
  refine zhd a g (zar _) hargs hkd hl hg hb (by decide) hs W R e1 fun ρ₁ s₁ vs S₁ r₁=>?_
  apply on1R ?_ e2 r₁; clear e2 r₁; intro _ w r1
  refine bR fun ys e2=>bR fun ns e3=>ifR fun hz e4=>?_
  obtain ⟨h1,h2⟩:=zbf e4; clear e4; subst h1 h2
  obtain ⟨t,us,n,e5,rr⟩:=zcp S₁.wr e2 r1
  have hI:=zom e3 rr
  have hIl:=IntsAre.length hI
  refine sorted_ints ⟨_,e5,rfl,_,rfl⟩ hI (by lia) fun out ns' h1 h2 h3=>?_
  obtain ⟨ep,he⟩:=sortedAll_at s₁.heap us out
  have hns:ns' = zgb ns:=zmc (h2.trans (znn ns).symm) h3 (zk8 ns)
  subst hns
  exact FLPost.make (vs:=out.toList) S₁ (fun _ _=>sortedAll_old) (by
    cases q:s₁.heap.get? (s₁.heap.objs.size + 1) with
    | none=>rfl
    | some o=>exact absurd (Heap.lt_size q) (Nat.not_lt.mpr (Nat.le_succ _))) (n:=ep) (by rw [he]) (zn5 h1)
end
theorem zpw:Manifest.owners.lookup (String.ofList ['r','o','t','a','r','e','t','i','_','e','l','b','a','l','l','a','c'].reverse) = some Manifest.sig_callable_iterator:=by kernel_rfl
theorem zfb:Slot "callable_iterator" "__next__" "callable_iterator.__next__" :=
  .of (owner:="callable_iterator") (n:="__next__") (by rw [typeLookup_type,builtinLookup_eq_fast]; kernel_rfl) (by decide +kernel) (by decide +kernel) (by decide +kernel)
    (by first | exact .inl (by decide +kernel) | exact .inr (by decide +kernel)) (by rw [isSubtype_type]; kernel_rfl)
theorem ziy:entryFor table "callable_iterator.__next__" = some Builtin.«callable_iterator.__next__»:=entryFor_of_tree (by kernel_rfl)
theorem zhq (a:Value):argsOk "callable_iterator.__next__" ⟨[a],[]⟩:=by
  unfold argsOk; rw [signature?_of (id:="callable_iterator.__next__") (n:=['_','_','t','x','e','n','_','_']) (o:=['r','o','t','a','r','e','t','i','_','e','l','b','a','l','l','a','c']) (by kernel_rfl) zpw]; kernel_rfl
theorem zjc:Slot "callable_iterator" "__iter__" "callable_iterator.__iter__" :=
  .of (owner:="callable_iterator") (n:="__iter__") (by rw [typeLookup_type,builtinLookup_eq_fast]; kernel_rfl) (by decide +kernel) (by decide +kernel) (by decide +kernel)
    (by first | exact .inl (by decide +kernel) | exact .inr (by decide +kernel)) (by rw [isSubtype_type]; kernel_rfl)
theorem zlf (a:Value):argsOk "callable_iterator.__iter__" ⟨[a],[]⟩:=by
  unfold argsOk; rw [signature?_of (id:="callable_iterator.__iter__") (n:=['_','_','r','e','t','i','_','_']) (o:=['r','o','t','a','r','e','t','i','_','e','l','b','a','l','l','a','c']) (by kernel_rfl) zpw]; kernel_rfl
theorem zm6:entryFor table "callable_iterator.__iter__" = some Builtin.«dict_keyiterator.__iter__» :=
  entryFor_alias (id':="dict_keyiterator.__iter__") (by kernel_rfl) (by first | rfl | decide +kernel | (unfold String.splitOn; simp +decide [String.splitOnAux])) (by decide +kernel) (by kernel_rfl)
theorem zk0 (f:Value) (pos:List Value):callBorrowed f pos = (call f pos []).keep [borrowed] :=
  congrArg (Sem.call (.call f ⟨pos,[]⟩) none false [borrowed]) (funext fun r=>by rcases r with e | (v | _ | _ | _) <;> rfl)
theorem zik:typeLookup (.type "method") "__call__" = pure (some (.builtin "method.__call__")):=by rw [typeLookup_type,builtinLookup_eq_fast]; kernel_rfl
theorem zre:builtinKind "iter" = none:=by decide +kernel
theorem zoy:plainId "iter" = true:=by decide +kernel
theorem zrs (a b:Value):argsOk "iter" ⟨[a,b],[]⟩:=by unfold argsOk; kernel_rfl
noncomputable abbrev zi1 (q:Addr) (t:Tok):Obj:={cls:=.type "callable_iterator",dict:=none,data:=.fields #[.ref q,.str ⟨#[]⟩ t,.bool false],slots:=#[]}
noncomputable abbrev zx2:Obj:={cls:=.type "callable_iterator",dict:=none,data:=.fields #[.none,.none,.bool true],slots:=#[]}
section
variable {prog:Program} {w:World} {A:Around} {E:Value→Shared→Prop} {s:Shared} {I q:Addr}
theorem ztc {o:Obj} {Q:Value→Shared→Prop} (ho:s.heap.get? I = some o) (hc:o.cls = .type "callable_iterator") (h:Q (.ref I) s):wpAny (model prog w) A (pyIter (.ref I)) Q E s:=by
  have hT:s.TypeIs (.ref I) "callable_iterator" := ⟨_,ho,hc⟩
  refine wpAny_pyIter_slot hT zjc (wpAny_call_entry zjc hT zm6 ?_ (zlf _))
  show wpAny _ _ (ret (.ref I)) _ _ s
  exact wpAny_pure ⟨_,rfl,"callable_iterator",_,hT,zfb.lookup,h⟩
theorem znl {α:Type} {Q:α→Shared→Prop} (hh:A.handled = none) (h:∀ h' e,(∀ b o,s.heap.get? b = some o→h'.get? b = some o)→({s with heap:=h'}:Shared).TypeIs (.ref e) "StopIteration"→E (.ref e) {s with heap:=h'}):wpAny (model prog w) A (Builtin.SmallTypes.stopIteration:Sem α) Q E s:=by
  unfold Builtin.SmallTypes.stopIteration
  show wpAny _ _ (newExc (.type "StopIteration") [] >>= _) _ _ _
  refine wpAny_bind ?_
  simp only [newExc,newTuple]
  refine wpAny_bind (wpAny_newObj_type ?_ (by size_fits))
  refine wpAny_bind (m:=firstArgMember _ _) (wpAny_of_eq (a:=Value.none) (by first | rfl | (simp only [firstArgMember]; rfl)) ?_)
  refine wpAny_newObj_type ?_ (by size_fits)
  unfold raiseNew
  refine wpAny_bind (wpAny_handled ?_)
  rw [hh]
  refine wpAny_bind (wpAny_pure (wpAny_throw ?_))
  exact h _ _ (fun b o e=>Heap.get?_push_of_some _ (Heap.get?_push_of_some _ e)) ⟨_,Heap.get?_push_size _ rfl,rfl⟩
theorem ztr {Q:Option Value→Shared→Prop} (hh:A.handled = none) (ho:s.heap.get? I = some zx2) (h:∀ h',(∀ b o,s.heap.get? b = some o→h'.get? b = some o)→Q none {s with heap:=h'}):wpAny (model prog w) A (pyNext (.ref I)) Q E s:=by
  have hT:s.TypeIs (.ref I) "callable_iterator" := ⟨_,ho,rfl⟩
  unfold pyNext
  refine wpAny_bind (wpAny_attempt (wpAny_callSpecial?_slot (name:=Str.ofString "__next__") hT zfb (wpAny_call_entry zfb hT ziy ?_ (zhq _))))
  unfold Builtin.«callable_iterator.__next__»
  refine wpAny_bind (m:=slotArgs _ _ _) (wpAny_of_eq (a:=(Value.ref I,[])) (by rfl) ?_)
  refine wpAny_bind (wpAny_field ho rfl (x:=.bool true) rfl ?_)
  show wpAny _ _ (rule "callable_iterator.__next__.ended" >>= fun _=>Builtin.SmallTypes.stopIteration >>= _) _ _ s
  refine wpAny_bind (wpAny_rule (wpAny_bind (znl hh fun h' e hk ht=>?_)))
  refine wpAny_bind (wpAny_isInstance (T:="StopIteration") (b:=true) ht isSubtype_stop ?_)
  exact wpAny_pure (h h' hk)
theorem zt8 {f:Addr} {o:Obj} {fd:FuncData} {Q:Bool→Shared→Prop} {lx:Value} (hq:s.heap.get? q = some (methodObj (.ref f) lx)) (hf:s.heap.get? f = some o) (hd:o.data = .func fd) (h:Q true s):wpAny (model prog w) A (borrowsExactly (.ref q)) Q E s:=by
  unfold borrowsExactly
  refine wpAny_bind (wpAny_load hq ?_)
  dsimp only
  rw [if_pos (by rfl)]
  show wpAny _ _ (do match (← load f).data with | .func _=>pure true | _=>pure false) _ _ _
  refine wpAny_bind (wpAny_load hf ?_)
  rw [hd]
  exact wpAny_pure h
theorem ztq {f lx:Addr} {o:Obj} {fd:FuncData} {t:Tok} {Q:Option Value→Shared→Prop} (hh:A.handled = none) (ho:s.heap.get? I = some (zi1 q t)) (hq:s.heap.get? q = some (methodObj (.ref f) (.ref lx))) (hf:s.heap.get? f = some o) (hd:o.data = .func fd)
    (h:codeAny (model prog w) A.in1 (.call (.ref f) ⟨[.ref lx],[]⟩) (fun r s'=>match r with
      | .ok (.ret v)=>∃ cs tk q' t',v = .str ⟨List.toArray cs⟩ tk∧s'.heap.get? I = some (zi1 q' t')∧s'.heap.get? q' = some (methodObj (.ref f) (.ref lx))∧s'.heap.get? f = some o∧
          (cs≠[]→Q (some v) s')∧(cs = []→∀ h',h'.get? I = some zx2→(∀ b o,b≠I→s'.heap.get? b = some o→h'.get? b = some o)→Q none {s' with heap:=h'})
      | _=>False) s):wpAny (model prog w) A (pyNext (.ref I)) Q E s:=by
  have hT:s.TypeIs (.ref I) "callable_iterator" := ⟨_,ho,rfl⟩
  unfold pyNext
  refine wpAny_bind (wpAny_attempt (wpAny_callSpecial?_slot (name:=Str.ofString "__next__") hT zfb (wpAny_call_entry zfb hT ziy ?_ (zhq _))))
  unfold Builtin.«callable_iterator.__next__»
  refine wpAny_bind (m:=slotArgs _ _ _) (wpAny_of_eq (a:=(Value.ref I,[])) (by rfl) ?_)
  refine wpAny_bind (wpAny_field ho rfl (x:=.bool false) rfl ?_)
  show wpAny _ _ (if (Value.bool false == Value.bool true) = true then _ else _) _ _ _
  rw [if_neg (by decide)]
  refine wpAny_bind (wpAny_field ho rfl (x:=.ref q) rfl ?_)
  refine wpAny_bind (wpAny_attempt ?_)
  unfold callOutOfASlot
  refine wpAny_bind (zt8 hq hf hd ?_)
  rw [if_pos rfl]
  rw [zk0]
  refine Calls.wpAny_keep (wpAny_call (method_call hq (codeAny_mono h fun r s' z=>?_)))
  rcases r with e | (v | _ | _ | _) <;> try exact z.elim
  obtain ⟨cs,tk,q,t,rfl,ho',hq',hf',z1,z2⟩:=z
  show wpAny _ _ (field (.ref I) 2 >>= _) _ _ _
  refine wpAny_bind (wpAny_field ho' rfl (x:=.bool false) rfl ?_)
  show wpAny _ _ (if (Value.bool false == Value.bool true) = true then _ else _) _ _ _
  rw [if_neg (by decide)]
  refine wpAny_bind (wpAny_field ho' rfl (x:=.str ⟨#[]⟩ t) rfl ?_)
  refine wpAny_bind (wpAny_holding (SeqRoads2.EqGives.str ⟨#[]⟩ ⟨cs.toArray⟩ t tk _ _ _ _ _ _ ?_))
  cases cs with
  | cons c cs =>
    have e0:(((⟨#[]⟩:Str).cps.toList == (⟨(c ::cs).toArray⟩:Str).cps.toList)) = false:=rfl
    rw [e0,Bool.not_false,if_pos rfl]
    refine wpAny_bind (wpAny_pure ?_)
    exact wpAny_pure ⟨_,rfl,wpAny_pure (z1 (by simp))⟩
  | nil =>
    have e0:(((⟨#[]⟩:Str).cps.toList == (⟨([]:List Nat).toArray⟩:Str).cps.toList)) = true:=rfl
    rw [e0,Bool.not_true,if_neg Bool.false_ne_true]
    refine wpAny_bind (wpAny_rule (wpAny_bind ?_))
    show wpAny _ _ (field (.ref I) 0 >>= fun f=>slotLetsGo "callable_iterator.__next__" f _ >>= fun _=>setField (.ref I) 0 .none >>= fun _=>setField (.ref I) 1 .none >>= fun _=>setField (.ref I) 2 (.bool true)) _ _ _
    refine wpAny_bind (wpAny_field ho' rfl (x:=.ref q) rfl ?_)
    refine wpAny_bind ?_
    unfold slotLetsGo
    refine wpAny_bind (zt8 hq' hf' hd ?_)
    rw [if_pos rfl]
    refine wpAny_pure ?_
    refine wpAny_bind (wpAny_setField_rec ho' (by simp) fun h1 g1 s1=>?_)
    refine wpAny_bind (wpAny_setField_rec g1 (by simp) fun h2 g2 s2=>?_)
    refine wpAny_setField_rec g2 (by simp) fun h3 g3 s3=>?_
    refine znl (A:=A.in1) hh fun h' e hk ht=>?_
    refine wpAny_bind (wpAny_isInstance (T:="StopIteration") (b:=true) ht isSubtype_stop ?_)
    refine wpAny_pure (z2 rfl h' (hk _ _ g3) fun b o hb e=>hk b o ?_)
    exact (s3.2 b hb).trans ((s2.2 b hb).trans ((s1.2 b hb).trans e))
end
noncomputable def onCi {γ:Type} (k:Nat→Bool→Option γ):Option AO→Option γ
  | some (.citer n b)=>k n b
  | _=>none
theorem zy5 {γ:Type} {r:γ} {k:Nat→Bool→Option γ} {R:Prop} {o:Option AO} (H:∀ n b,o = some (.citer n b)→k n b = some r→R):onCi k o = some r→R:=fun e=>by
  cases o with
  | none=>exact noS e
  | some o =>
    cases o with
    | citer n b=>exact H n b rfl e
    | _=>exact noS e
noncomputable def zdy (rd:Fn) (i:Nat) (hp:Hp):Option (Option AV × Hp):=onCi (fun n b=>bif b then (rd [.loc n] hp).bind fun z=>onS (fun cs=>onCi (fun n' b'=>if n' = n∧b' = true then if cs = [] then some (none,z.2.put i (.citer n false)) else some (some (.str cs),z.2) else none) (z.2.H i)) z.1 else some (none,hp)) (hp.H i)
theorem zjl {rd:Fn} {i n:Nat} {hp hp':Hp} {cs:List Nat} (h:hp.H i = some (.citer n true)) (h2:rd [.loc n] hp = some (.str cs,hp')) (h3:hp'.H i = some (.citer n true)):zdy rd i hp = if cs = [] then some (none,hp'.put i (.citer n false)) else some (some (.str cs),hp'):=by
  unfold zdy
  rw [h]
  show Option.bind _ _ = _
  rw [h2]
  show onCi _ (hp'.H i) = _
  rw [h3]
  exact if_pos ⟨rfl,rfl⟩
section
variable {C:Cfg} {k:Nat} {env:Env} {homes:List Home} {A:Around} {G:Addr→Prop} {ρ:Ren} {hp:Hp} {s:Shared}
theorem AOk.in1 (a:AOk (k + 1) A):AOk k A.in1:=⟨a.hd,by have:=a.dp; simp only [Around.in1_depth]; lia,by have:=a.un; simp only [Around.in1_units]; lia⟩
theorem zia {rd:Fn} {i:Nat} {r:Option AV} {hp':Hp} {m I:Addr} {o:Obj} {fd:FuncData} {Q:Option Value→Shared→Prop} {E:Value→Shared→Prop} (hf:C.base.get? C.readf = some o) (hd:o.data = .func fd) (h:zc1 C k (.ref C.readf) rd) (a:AOk (k + 1) A)
    (e:zdy rd i hp = some (r,hp')) (W:WR C G ρ hp s) (er:ρ i = some (m,I))
    (hQ:∀ ρ' s' rv,Step C G (fun _=>False) ρ hp s ρ' hp' s'→(∀ x,r = some x→WV C ρ' (Own ρ' hp' G) s'.heap rv x)→(r = none→rv = none)→Q rv s'):wpAny (model C.prog C.w) A (pyNext (.ref m)) Q E s:=by
  revert e; refine zy5 fun n b eh e=>?_
  obtain ⟨m',x,e2,oo⟩:=W.obj _ _ eh
  rw [er] at e2
  obtain ⟨h1,h2⟩:=zbf e2; clear e2; subst h1 h2
  cases b with
  | false =>
    obtain ⟨h1,h2⟩:=zbf e; clear e; subst h1 h2
    cases oo with | dead e1 =>
    refine ztr a.hd e1 fun h' hk=>hQ ρ _ _ (Step.same (tk:=s.toks) W hk) (fun x hx=>nomatch hx) fun _=>rfl
  | true =>
    cases oo with | @live _ _ q lx dx t e1 e3 n3 er2 =>
    revert e; refine bpR fun v1 hp1 erd e=>?_
    refine ztq a.hd e1 e3 (W.keep _ _ hf) hd (codeAny_mono (h _ G a.in1 _ _ _ _ erd ρ s [.ref lx] W (.cons (.loc er2) .nil)) fun r' s' z=>?_)
    rcases r' with e | (v | _ | _ | _) <;> try exact z.elim
    obtain ⟨ρ',S,rv⟩:=z
    apply onSR ?_ rv e; clear rv e; intro cs tk
    refine zy5 fun n' b' eh'=>ifR fun hn' e=>?_
    obtain ⟨rfl,rfl⟩:=hn'
    obtain ⟨m2,x2,e4,oo2⟩:=S.wr.obj _ _ eh'
    rw [S.ext _ _ er] at e4
    obtain ⟨h1,h2⟩:=zbf e4; clear e4; subst h1 h2
    cases oo2 with | @live _ _ q' lx' dx' t' f1 f3 fn3 fer2 =>
    rw [S.ext _ _ er2] at fer2
    obtain ⟨h1,h2⟩:=zbf fer2; clear fer2; subst h1 h2
    refine ⟨cs,tk,q',t',rfl,f1,f3,S.wr.keep _ _ hf,fun hc=>?_,fun hc h' hd' hk=>?_⟩
    · rw [if_neg hc] at e
      obtain ⟨h1,h2⟩:=zbf e; clear e; subst h1 h2
      exact hQ ρ' s' _ S (fun x hx=>⟨_,rfl,by replace hx:=Option.some.inj hx; subst hx; exact .str _ _⟩) fun hx=>nomatch hx
    · rw [if_pos hc] at e
      obtain ⟨h1,h2⟩:=zbf e; clear e; subst h1 h2
      exact hQ ρ' _ _ (S.trans (Step.put (tk:=s'.toks) S.wr eh' (S.ext _ _ er) hk ⟨_,hd'⟩ (.dead hd'))) (fun x hx=>nomatch hx) fun _=>rfl
noncomputable def zgv (rd:Fn) (t:MT) (body:MS) (i:Nat):Nat→MS
  | 0=>fun _ _=>none
  | f + 1=>fun loc hp=>(zdy rd i hp).bind fun
    | (none,hp)=>some (.nx,loc,hp)
    | (some v,hp)=>(t v loc hp).bind fun (loc,hp)=>(body loc hp).bind fun
      | (.nx,loc,hp)=>zgv rd t body i f loc hp
      | (.ct,loc,hp)=>zgv rd t body i f loc hp
      | (.br,loc,hp)=>some (.nx,loc,hp)
      | x=>some x
theorem forCM_e1 (rd:Fn) (t:MT) (body:MS) (i:Nat):zgv rd t body i 0 =
   ((fun _ _=>none)):=rfl
theorem forCM_e2 (rd:Fn) (t:MT) (body:MS) (i:Nat):∀ f,zgv rd t body i (f + 1) =
   ((fun loc hp=>(zdy rd i hp).bind fun
    | (none,hp)=>some (.nx,loc,hp)
    | (some v,hp)=>(t v loc hp).bind fun (loc,hp)=>(body loc hp).bind fun
      | (.nx,loc,hp)=>zgv rd t body i f loc hp
      | (.ct,loc,hp)=>zgv rd t body i f loc hp
      | (.br,loc,hp)=>some (.nx,loc,hp)
      | x=>some x)):=fun _=>rfl
noncomputable def zm1 (F:Nat) (mi:ME) (rd:Fn) (t:MT) (body:MS):MS:=fun loc hp=>do
  let (x,hp) ← mi loc hp
  zn0 (fun i=>onCi (fun _ _=>zgv rd t body i F loc hp) (hp.H i)) x
inductive ForCInv (C:Cfg) (G:Addr→Prop) (homes:List Home) (ρ0:Ren) (hp:Hp) (s0:Shared) (i:Nat) (p:Addr × Addr) (rd:Fn) (t:MT) (m:MS) (z:Fl × Loc × Hp) (nn:Nat) (s':Shared):Prop
  | mk (ρ':Ren) (hp2:Hp) (loc2:Loc) (h1:Step C G (Xh homes) ρ0 hp s0 ρ' hp2 s') (h2:LR C G homes ρ' hp2 loc2 s'.heap) (h3:ρ' i = some p) (h4:zgv rd t m i nn loc2 hp2 = some z):ForCInv C G homes ρ0 hp s0 i p rd t m z nn s'
theorem zj9 {x:Str} {p pos:Pos} {ite:Expr} {body:List Stmt} {mi:ME} {t:MT} {m:MS} {rd:Fn} {o:Obj} {fd:FuncData} (F:Nat) (hf:C.base.get? C.readf = some o) (hd:o.data = .func fd) (h:zc1 C k (.ref C.readf) rd)
    (hi:SimE C (k + 1) homes (eval ite env) mi) (ht:SimT C (k + 1) homes false (assign (.Name x p) env) t) (hb:SimS C (k + 1) homes (execs body env) m) (hs:∀ x,foldedSetIterable ite env x = pure x) :
    SimS C (k + 1) homes (exec (.For (.Name x p) ite body [] pos) env) (zm1 F mi rd t m):=by
  intro A G a loc hp f loc' hp' e ρ0 s0 W0 R0
  revert e; refine bpR fun xv hp1 e1 e2=>?_
  revert e2; refine zkj fun i q=>zy5 fun n b eh e2=>?_
  subst q
  refine wpAny_For (zco (hi A G a _ _ _ _ e1 ρ0 s0 W0 R0) fun iv s₁ ρ S0 r1=>?_) hs
  replace r1:=Mine.VR.locI r1; obtain ⟨ia,ix,er⟩:=r1
  have W:=S0.wr
  obtain ⟨m',x',e2',oo⟩:=W.obj _ _ eh
  rw [er] at e2'
  obtain ⟨h1,h2⟩:=zbf e2'; clear e2'; subst h1 h2
  have hci:∃ ob,s₁.heap.get? ia = some ob∧ob.cls = .type "callable_iterator" := by
    cases oo with
    | live e1 _ _ _=>exact ⟨_,e1,rfl⟩
    | dead e1=>exact ⟨_,e1,rfl⟩
  obtain ⟨ob,ho,hc⟩:=hci
  refine ztc ho hc ?_
  refine codeAny_forLoop_any (ForCInv C G homes ρ0 hp s0 i (ia,ix) rd t m (f,loc',hp')) ?_ F ⟨ρ,hp1,loc,S0.none,R0.step0 W0 S0,er,e2⟩
  rintro nn si ⟨ρi,hpi,loci,Si,Ri,eri,ei⟩
  cases nn with
  | zero=>exact noS ei
  | succ nn =>
    revert ei; refine bpR fun w hp3 en ei=>?_
    cases w with
    | none =>
      obtain ⟨h1,h2,h3⟩:=zev ei; clear ei; subst h1 h2 h3
      refine zia hf hd h a en Si.wr eri fun ρ' s' rv S hx hn=>?_
      rw [hn rfl]
      exact wpAny_execs_nil ⟨ρ',Si.trans S.none,Ri.step0 Si.wr S,.nx⟩
    | some v =>
      refine zia hf hd h a en Si.wr eri fun ρ' s' rv S hx hn=>?_
      obtain ⟨w,rfl,rw'⟩:=hx v rfl
      have Sa:=Si.trans S.none
      have Ra:=Ri.step0 Si.wr S
      show wpAny _ _ (letOwnedTupleGo (.Name x p) (.ref ia) w) _ _ _
      refine wpAny_of_eq (a:=()) rfl ?_
      revert ei; refine bpR fun loc4 hp4 et=>btR fun f6 loc6 hp6 em ei=>?_
      refine zii (ht A G a _ _ _ _ _ et ρ' s' w S.wr Ra (.val rw')) fun _ s4 ρ4 S4 R4=>?_
      refine zra (hb A G a _ _ _ _ _ em ρ4 s4 S4.wr R4) fun fw s6 ρ6 S6 R6 fr=>?_
      have S7:=Sa.trans (S4.trans S6)
      have er7:ρ6 i = some (ia,ix):=S6.ext _ _ (S4.ext _ _ (S.ext _ _ eri))
      cases fr with
      | nx=>exact ⟨nn,Nat.lt_succ_self _,ρ6,hp6,loc6,S7,R6,er7,ei⟩
      | ct=>exact ⟨nn,Nat.lt_succ_self _,ρ6,hp6,loc6,S7,R6,er7,ei⟩
      | br=>obtain ⟨h1,h2,h3⟩:=zev ei; clear ei; subst h1 h2 h3; exact ⟨ρ6,S7,R6,.nx⟩
      | rt q=>obtain ⟨h1,h2,h3⟩:=zev ei; clear ei; subst h1 h2 h3; exact ⟨ρ6,S7,R6,.rt q⟩
end
theorem fl1:typeLookup (.type "function") "__getattribute__" = pure (some (.builtin "object.__getattribute__")):=by rw [typeLookup_type,builtinLookup_eq_fast]; kernel_rfl
theorem fl2:typeLookup (.type "function") "__getattr__" = pure none:=by rw [typeLookup_type,builtinLookup_eq_fast]; kernel_rfl
theorem fl3:typeLookup (.type "function") "read" = pure none:=by rw [typeLookup_type,builtinLookup_eq_fast]; kernel_rfl
theorem fl4:typeLookup (.type "function") "__setattr__" = pure (some (.builtin "object.__setattr__")):=by rw [typeLookup_type,builtinLookup_eq_fast]; kernel_rfl
theorem zlt:Slot "function" "__getattribute__" "object.__getattribute__" :=
  .of (owner:="object") (n:="__getattribute__") fl1 (by decide +kernel) (by decide +kernel) (by decide +kernel)
    (by first | exact .inl (by decide +kernel) | exact .inr (by decide +kernel)) (by rw [isSubtype_type]; kernel_rfl)
theorem zut:entryFor table "object.__getattribute__" = some Builtin.«object.__getattribute__»:=entryFor_of_tree (by kernel_rfl)
theorem zw5 (a b:Value):argsOk "object.__getattribute__" ⟨[a,b],[]⟩:=by
  unfold argsOk; kernel_rfl
section
variable {prog:Program} {w:World} {A:Around} {E:Value→Shared→Prop} {s:Shared} {a dx:Addr} {fo:Obj} {es:List DictEntry} {n:Nat} {v:Value}
theorem zzw {M:Model} {h:Heap} {fd:FuncData} (ho:h.get? a = some fo) (hc:fo.cls = .type "function") (hdi:fo.dict = some dx) (hda:fo.data = .func fd) (hd:h.get? dx = some (dictOf es n)) (hl:getL "read" es = some (some v)) :
    Looks M h (find (.ref a) (.type "function") "read") (.value v):=by
  obtain ⟨oc,odi,oda,osl⟩:=fo
  dsimp only at hc hdi hda
  subst hc hdi hda
  have L1:Looks M h (typeLookup (.type "function") "read") none:=Looks.of_pure fl3
  refine L1.andThen (Looks.now.andThen ?_)
  refine Looks.now.andThen ?_
  dsimp only
  intro A Q E s k q
  refine wpAny_bind ?_
  unfold inOwnDict
  refine wpAny_bind ?_
  unfold ObjectAttr.ownDict
  refine wpAny_bind (wpAny_loadPart (k _ _ ho) ?_)
  dsimp only
  unfold instanceDict
  refine wpAny_bind (wpAny_loadPart (k _ _ ho) ?_)
  refine wpAny_pure ?_
  show wpAny _ _ (nsGet dx "read") _ _ _
  refine wpAny_bind (wpAny_loadPart (k _ _ hd) ?_)
  rw [nsLook_of (r:=some v) (by rw [lookIn_dict]; exact hl)]
  exact wpAny_pure (wpAny_bind (wpAny_rule (wpAny_pure q)))
theorem zrl {expr:Bool} {Q:Value→Shared→Prop} {fd:FuncData} (ho:s.heap.get? a = some fo) (hc:fo.cls = .type "function") (hdi:fo.dict = some dx) (hda:fo.data = .func fd) (hd:s.heap.get? dx = some (dictOf es n)) (hl:getL "read" es = some (some v)) (hv:handedIn v = true)
    (h:Q v {s with toks:=s.toks + 1}):wpAny (model prog w) A (getAttr (.ref a) "read" expr) Q E s:=by
  have F:=zzw (M:=model prog w) ho hc hdi hda hd hl
  obtain ⟨hh,g,d,t,os⟩:=s
  have L0:Looks (model prog w) hh (typeOf (.ref a)) (.type "function"):=hc ▸ (Looks.ld ho).andThen .now
  have L1:Looks (model prog w) hh (typeLookup (.type "function") "__getattribute__") _:=Looks.of_pure fl1
  unfold getAttr getAttrBy
  refine wpAny_bind (wpAny_mkText (wpAny_holding (wpAny_bind (L0.at (wpAny_bind (L1.at ?_))))))
  show wpAny _ _ (getAttrByItsOwn (.ref a) (.str "read" t) (.type "function") (.builtin "object.__getattribute__") true expr) _ _ _
  unfold getAttrByItsOwn hookBefore callGetattribute boundAndCalled
  refine wpAny_bind (wpAny_pure ?_)
  refine wpAny_bind (wpAny_attempt (wpAny_holding ?_))
  show wpAny _ _ (if (expr && false) = true then _ else _) _ _ _
  rw [Bool.and_false,if_neg (by decide)]
  rw [zlt.bind]
  refine wpAny_bind (wpAny_pure ?_)
  refine wpAny_call_entry zlt (s:=⟨hh,g,d,t + 1,os⟩) ⟨_,ho,hc⟩ zut ?_ (zw5 _ _)
  unfold Builtin.«object.__getattribute__»
  refine wpAny_bind (wpAny_pure (wpAny_bind (wpAny_pure (wpAny_bind (L0.at (wpAny_bind (F.at ?_)))))))
  refine wpAny_pure ⟨v,rfl,?_⟩
  show wpAny _ _ (handedOut v) _ _ _
  rw [handedOut_of hv]; exact wpAny_pure h
theorem zoc {pl:Sem Bool} {Q:Value × List Value→Shared→Prop} {fd:FuncData} (ho:s.heap.get? a = some fo) (hc:fo.cls = .type "function") (hdi:fo.dict = some dx) (hda:fo.data = .func fd) (hd:s.heap.get? dx = some (dictOf es n)) (hl:getL "read" es = some (some v)) (hv:handedIn v = true)
    (h:Q (v,[]) {s with toks:=s.toks + 1}):wpAny (model prog w) A (getMethod (.ref a) "read" pl) Q E s:=by
  have hT:s.TypeIs (.ref a) "function" := ⟨_,ho,hc⟩
  unfold getMethod
  refine wpAny_bind (wpAny_specialOf hT fl1 ?_)
  dsimp only
  rw [PySem.F.canon_object_ga,if_neg (by decide)]
  refine wpAny_bind (wpAny_specialOf hT fl2 ?_)
  refine wpAny_bind (wpAny_specialOf hT fl3 ?_)
  exact wpAny_bind (zrl ho hc hdi hda hd hl hv (wpAny_pure h))
theorem mro_fn:mroOf (.type "function") = pure [.type "function",.type "object"]:=by rw [mroOf_type]; kernel_rfl
theorem zls:Slot "function" "__setattr__" "object.__setattr__" :=
  .of (owner:="object") (n:="__setattr__") fl4 (by decide +kernel) (by decide +kernel) (by decide +kernel)
    (by first | exact .inl (by decide +kernel) | exact .inr (by decide +kernel)) (by rw [isSubtype_type]; kernel_rfl)
theorem zs8 (self:Value):refuseLoop self "__setattr__" [.type "function",.type "object"] = pure ():=by kernel_rfl
theorem zrk {fd:FuncData} {sl:Array (Option Value)} {Q:Unit→Shared→Prop} (ho:s.heap.get? a = some {cls:=.type "function",dict:=none,data:=.func fd,slots:=sl})
    (h:∀ h' tk hsh t n,(∀ b o,b≠a→s.heap.get? b = some o→h'.get? b = some o)→h'.get? a = some {cls:=.type "function",dict:=some s.heap.objs.size,data:=.func fd,slots:=sl}→h'.get? s.heap.objs.size = some (dictOf [⟨hsh,.str "read" t,v⟩] n)→Q () {s with heap:=h',toks:=tk}) :
    wpAny (model prog w) A (setAttr (.ref a) "read" v) Q E s:=by
  obtain ⟨hh,g,d,tk,os⟩:=s
  have hT:∀ t,(⟨hh,g,d,t,os⟩:Shared).TypeIs (.ref a) "function" := fun t=>⟨_,ho,rfl⟩
  have L0:Looks (model prog w) hh (typeOf (.ref a)) (.type "function"):=(Looks.ld ho).andThen .now
  unfold setAttr
  refine wpAny_bind (wpAny_mkText ?_)
  refine wpAny_bind (wpAny_callSpecial?_slot (hT _) zls (wpAny_call_entry zls (hT _) PySem.F.store_object.entry ?_ (PySem.F.store_object.args _ _ _)))
  rw [osa_eq,refuse_eq]
  have L1:Looks (model prog w) hh (mroOf (.type "function")) _:=Looks.of_pure mro_fn
  have L2:Looks (model prog w) hh (typeLookup (.type "function") "read") none:=Looks.of_pure fl3
  refine wpAny_bind (wpAny_bind (L0.at (wpAny_bind (L1.at ?_))))
  rw [zs8]
  refine wpAny_pure (wpAny_bind (L0.at (wpAny_bind (L2.at (wpAny_bind (wpAny_pure ?_))))))
  dsimp only
  unfold storeInOwnDict
  refine wpAny_bind (wpAny_of_eq (a:=()) (by kernel_rfl) ?_)
  rw [if_neg (by decide)]
  refine wpAny_bind ?_
  show wpAny _ _ (instanceDict a true) _ _ _
  unfold instanceDict
  refine wpAny_bind (wpAny_loadPart ho ?_)
  dsimp only
  have ht:typeHasDict (.type "function") = true:=by decide +kernel
  have hlt:@LT.lt Nat _ a hh.objs.size:=Heap.lt_size ho
  rw [ht]
  refine wpAny_bind (wpAny_alloc ?_)
  have ho1:=Heap.get?_push_of_some (h:=hh) emptyDict ho
  refine wpAny_bind (wpAny_update ho1 ?_)
  have hna:a≠hh.objs.size:=Nat.ne_of_lt hlt
  have ho2:((hh.push emptyDict).update a fun o=>{o with dict:=some hh.objs.size}).get? a = some {cls:=.type "function",dict:=some hh.objs.size,data:=.func fd,slots:=sl}:=Heap.get?_update_self _ ho1 rfl
  have hd2:((hh.push emptyDict).update a fun o=>{o with dict:=some hh.objs.size}).get? hh.objs.size = some (dictOf [] 0):=(Heap.get?_update_other _ _ hna).trans (Heap.get?_push_size _ rfl)
  refine wpAny_of_eq (a:=some hh.objs.size) (by kernel_rfl) ?_
  dsimp only
  unfold storeInDict
  refine wpAny_bind (wpAny_pure (wpAny_bind ?_))
  unfold nsSet
  refine wpAny_bind (wpAny_bind (wpAny_askSetting (wpAny_pure (wpAny_bind (wpAny_mkText (wpAny_bind (wpAny_loadPart hd2 ?_)))))))
  dsimp only
  have c:(!(([]:List DictEntry).toArray).any (·.key.isStr "read") && (([]:List DictEntry).toArray).any (·.refKey)) = false:=by simp
  rw [aRefKeyMayBeTheName_at,c]
  refine wpAny_updatePart hd2 ?_
  have hd3:(((hh.push emptyDict).update a fun o=>{o with dict:=some hh.objs.size}).update hh.objs.size (Obj.putName "read" (PyData.keyHash w.params "read") (.str "read" (tk + 1)) v)).get? hh.objs.size = some (dictOf [⟨PyData.keyHash w.params "read",.str "read" (tk + 1),v⟩] 1):=by
    rw [Heap.get?_update_self _ hd2 (by rw [putName_dict]; rfl),putName_dict]; rfl
  refine wpAny_bind (wpAny_lookBehind hd3 (pastItsLine_dict (by rw [List.size_toArray,sizeLine_eq]; simp)) ?_)
  refine wpAny_pure ⟨_,rfl,wpAny_pure (h _ _ _ _ _ (fun b o hb e=>?_) ?_ hd3)⟩
  · have hbd:hh.objs.size≠b:=fun q=>by
      have:=Heap.lt_size (h:=hh) e
      rw [q] at this; exact Nat.lt_irrefl _ this
    exact (Heap.get?_update_other _ _ hbd).trans ((Heap.get?_update_other _ _ (Ne.symm hb)).trans (Heap.get?_push_of_some _ e))
  · exact (Heap.get?_update_other _ _ (Ne.symm hna)).trans ho2
end
end Mine
end
section
open PySem PySem.W PyProof.Rows PySem.Calls PySem.SeqAt
namespace Mine
section
variable {C:Cfg} {k:Nat} {env:Env} {homes:List Home} {A:Around} {G:Addr→Prop} {ρ:Ren} {hp:Hp} {s:Shared}
theorem zsz {o:Expr} {apos pos:Pos} {args:List Expr} {m1:ME} {m2:MEs} (h1:SimE C k homes (eval o env) m1) (hargs:zhe C k homes (spliced (backTo pos (starEach args env))) m2)
    (hbase:attributeBase o "bit_length" env (eval o env) = eval o env)
    (hfew:((backTo pos (starEach args env)).all (fun x=>!x.1) && (backToKw pos (keywordEach [] env)).all (fun x=>x.1.isSome) && decide (args.length + ([]:List Keyword).length + (if ([]:List Keyword).isEmpty then 0 else 1) < 30)) = true)
    (hline:(apos.endLine == pos.line) = true) (hs:(starEach args env).any (·.1) = false) :
    SimE C k homes (eval (.Call (.Attribute o "bit_length" apos) args [] pos) env) (zcc "int" zrr m1 m2):=by
  intro A G a loc hp v hp' e ρ s W R
  revert e; refine bpR fun x hp1 e1=>ifR fun hT=>bpR fun xs hp2 e2 e3=>?_
  rw [arm_eval_Call,hbase]
  refine wpAny_bind (zco (h1 A G a loc hp x hp1 e1 ρ s W R) fun ov s₁ ρ₁ S₁ r₁=>?_)
  refine wpAny_bind (wpAny_standAt ?_)
  have hform:methodCallForm (args.length + ([]:List Keyword).length) (backTo pos (starEach args env)) (backToKw pos (keywordEach [] env)) = true:=hfew
  have hpos:methodCallPos true o env apos pos = pure pos:=by unfold methodCallPos; simp [hline]
  unfold methodCall
  rw [hform]
  have hx:∃ i,x = .int i:=by
    cases (x) <;> simp [zo2] at hT
    exact ⟨_,rfl⟩
  obtain ⟨i,rfl⟩:=hx
  replace r₁:=Mine.VR.intI r₁; obtain ⟨t⟩:=r₁
  refine wpAny_bind (wpAny_holding (getMethod_int_bit_length ?_))
  refine wpAny_bind (wpAny_of_eq hpos ?_)
  exact zde (zf9 (first:=[.int i t]) (fx:=[.int i]) a (zar _) hs hargs zv0 S₁.wr (R.step0 W S₁) (.cons (.int i t) .nil) e2 e3) fun w s₂ h=>zb3 S₁ h
noncomputable def maxI:List Int→Option Int
  | []=>none
  | x ::r=>match maxI r with
    | none=>some x
    | some y=>some (if x < y then y else x)
theorem ztv:∀ {l:List Int} {m:Int},maxI l = some m→m∈l∧∀ x∈l,x≤m:=by
  intro l
  induction l with
  | nil =>
    intro _ e
    exact noS e
  | cons x r ih =>
    intro m e
    unfold maxI at e
    split at e
    · rename_i hn
      replace e:=Option.some.inj e; subst e
      have:r = []:=by
        cases r with
        | nil=>rfl
        | cons y z=>unfold maxI at hn; split at hn <;> exact noN hn
      subst this
      exact ⟨.head _,fun y hy=>by rw [List.mem_singleton.mp hy]; exact Int.le_refl _⟩
    · rename_i y hy
      replace e:=Option.some.inj e; subst e
      obtain ⟨h1,h2⟩:=ih hy
      split
      · rename_i hlt
        exact ⟨.tail _ h1,fun z hz=>by
          rcases List.mem_cons.mp hz with rfl | hz
          · lia
          · exact h2 z hz⟩
      · rename_i hlt
        exact ⟨.head _,fun z hz=>by
          rcases List.mem_cons.mp hz with rfl | hz
          · exact Int.le_refl _
          · have:=h2 z hz; lia⟩
noncomputable def ztw:Fn:=fun args hp=>on1 (fun x=>(zc0 hp x).bind fun xs=>(zma xs).bind fun ns=>(maxI ns).map fun m=>(.int m,hp)) args
theorem zrf {vs:List Value} {ns:List Int} (r:IntsAre vs ns):∃ xs:Array (Int × Tok),vs.toArray = intItems xs∧xs.toList.map (·.1) = ns:=by
  induction r with
  | nil=>exact ⟨#[],by simp [intItems],rfl⟩
  | cons n t r ih =>
    obtain ⟨xs,h1,h2⟩:=ih
    refine ⟨((n,t) ::xs.toList).toArray,?_,by simp [h2]⟩
    have:_ = (intItems xs).toList:=congrArg Array.toList h1
    simp only [intItems,Array.toList_map] at this
    simp [intItems,this]
theorem zvz:SimF C k (.builtin "max") ztw:=by
  intro A G a args hp v hp' e ρ s vs W r
  apply on1R ?_ e r; clear e r; intro x w r1
  refine bR fun xs e1=>bR fun ns e2=>mR fun m e3 e4=>?_
  cases (e4)
  obtain ⟨t,us,n,e5,rr⟩:=zcp W e1 r1
  obtain ⟨ps,h1,h2⟩:=zrf (zom e2 rr)
  obtain ⟨hm,hmax⟩:=ztv e3
  have hlen:ps.size = ns.length:=by rw [← h2]; simp
  have hpos:0 < ps.size:=by rw [hlen]; exact List.length_pos_of_mem hm
  refine max_intList a.hd (l:=t) (xs:=ps) (by rw [← h1]; exact ⟨_,e5,rfl,_,rfl⟩) hpos fun v h' tk hv hk=>?_
  have S:=Step.same (X:=fun _=>False) (h':=h') (tk:=tk) W hk
  obtain ⟨b1,b2⟩:=argBest_gt (numAt ps) (ps.size - 1)
  obtain ⟨u,rfl⟩:=intItems_at hv
  have hnum:∀ i (hi:i < ps.size),numAt ps i = ns[i]'(by rw [← hlen]; exact hi):=fun i hi=>by
    subst h2
    simp [numAt,hi]
  have hb:argBest (fun i j=>decide (numAt ps i > numAt ps j)) (ps.size - 1) < ps.size:=by lia
  have:numAt ps (argBest (fun i j=>decide (numAt ps i > numAt ps j)) (ps.size - 1)) = m:=by
    refine Int.le_antisymm ?_ ?_
    · rw [hnum _ hb]
      exact hmax _ (List.getElem_mem _)
    · obtain ⟨i,hi,he⟩:=List.getElem_of_mem hm
      rw [← he]
      have hi':i < ps.size:=by rw [hlen]; exact hi
      have:=b2 i (by lia)
      rw [hnum i hi'] at this
      exact this
  rw [this]
  exact ⟨ρ,S,.int _ _⟩
noncomputable def zjj (x:List Nat):List (List Nat)→List (List Nat)
  | []=>[x]
  | y ::r=>if x≤y then x ::y ::r else y ::zjj x r
theorem zir (x:List Nat):zjj x [] =
   ([x]):=rfl
theorem ziq (x:List Nat):∀ y r,zjj x (y ::r) =
   (if x≤y then x ::y ::r else y ::zjj x r):=fun _ _=>rfl
noncomputable def zek:List (List Nat)→List (List Nat)
  | []=>[]
  | x ::r=>zjj x (zek r)
theorem zku (x:List Nat):∀ l,(zjj x l).Perm (x ::l):=by
  intro l
  induction l with
  | nil =>
    exact .refl _
  | cons y r ih =>
    (first | rw [ziq] | rw [zir])
    split
    · exact .refl _
    · exact ((ih).cons y).trans (.swap ..)
theorem zmu (x:List Nat):∀ {l:List (List Nat)},l.Pairwise (·≤·)→(zjj x l).Pairwise (·≤·):=by
  intro l
  induction l with
  | nil =>
    intro _
    simp [zir,ziq]
  | cons y r ih =>
    intro h
    have h':=List.pairwise_cons.mp h
    (first | rw [ziq] | rw [zir])
    split
    · rename_i hxy
      refine List.pairwise_cons.mpr ⟨fun z hz=>?_,h⟩
      rcases List.mem_cons.mp hz with rfl | hz
      · exact hxy
      · exact List.le_trans hxy (h'.1 z hz)
    · rename_i hxy
      refine List.pairwise_cons.mpr ⟨fun z hz=>?_,ih h'.2⟩
      rcases List.mem_cons.mp ((zku x r).mem_iff.mp hz) with rfl | hz
      · exact (List.le_total z y).resolve_left hxy
      · exact h'.1 z hz
theorem znm:∀ l,(zek l).Perm l:=by
  intro l
  induction l with
  | nil =>
    exact .refl _
  | cons x r ih =>
    exact (zku x _).trans ((ih).cons x)
theorem zk7:∀ l,(zek l).Pairwise (·≤·):=by
  intro l
  induction l with
  | nil =>
    exact .nil
  | cons x r ih =>
    exact zmu x (ih)
theorem zjn {l m:List (List Nat)} (h:l.Perm m) (hl:l.Pairwise (·≤·)) (hm:m.Pairwise (·≤·)):l = m:=h.eq_of_pairwise (fun _ _ _ _ a b=>List.le_antisymm a b) hl hm
theorem zkg:∀ {l:List Str} {p:Str},risingS p l = true→(p ::l).Pairwise (fun a b=>a.cps.toList≤b.cps.toList):=by
  intro l
  induction l with
  | nil =>
    intro _ _
    simp
  | cons x r ih =>
    intro p h
    simp only [risingS,Bool.and_eq_true,Bool.not_eq_true'] at h
    have ih:=ih h.2
    have hpx:p.cps.toList≤x.cps.toList:=by
      have:=h.1
      rw [ltCps_eq] at this
      exact List.not_lt.mp (by simpa using this)
    refine List.pairwise_cons.mpr ⟨fun z hz=>?_,ih⟩
    rcases List.mem_cons.mp hz with rfl | hz
    · exact hpx
    · exact List.le_trans hpx ((List.pairwise_cons.mp ih).1 z hz)
theorem zjo {l:List Str} (h:sortedS l = true):l.Pairwise (fun a b=>a.cps.toList≤b.cps.toList):=by
  cases l with
  | nil=>exact .nil
  | cons x r=>exact zkg h
noncomputable def zhh (m:MEs):ML:=fun loc hp=>do
  let (args,hp) ← m loc hp
  on1 (fun x=>(zc0 hp x).bind fun xs=>(zl8 xs).bind fun ns=>if ns.length≤60 then some ((zek ns).map .str,hp) else none) args
theorem zjd {p pos:Pos} {args:List Expr} {m:MEs} (g:zgp C "sorted" (.builtin "sorted")) (hargs:zhe C k homes (spliced (backTo pos (starEach args env))) m)
    (hkd:env.scope.kind = .function) (hl:env.kindOf "sorted" = some .globalImplicit) (hg:env.globals = mainGlobals) (hb:env.builtins = builtinsNs) (hs:(starEach args env).any (·.1) = false) :
    SimL C k homes (eval (.Call (.Name "sorted" p) args [] pos) env) (zhh m):=by
  intro A G a loc hp xs hp' e ρ s W R
  revert e; refine bpR fun x hp1 e1 e2=>?_
  refine zhd a g (zar _) hargs hkd hl hg hb (by decide) hs W R e1 fun ρ₁ s₁ vs S₁ r₁=>?_
  apply on1R ?_ e2 r₁; clear e2 r₁; intro _ w r1
  refine bR fun ys e2=>bR fun ns e3=>ifR fun hz e4=>?_
  cases (e4)
  obtain ⟨t,us,n,e5,rr⟩:=zcp S₁.wr e2 r1
  have hI:=zol e3 rr
  have hIl:=StrsAre.length hI
  refine sorted_strs ⟨_,e5,rfl,_,rfl⟩ hI (by simp at hIl; lia) fun out ss' h1 h2 h3=>?_
  obtain ⟨ep,he⟩:=sortedAll_at s₁.heap us out
  have hns:ss'.map (fun x=>x.cps.toList) = zek ns:=by
    refine zjn ?_ (List.pairwise_map.mpr (zjo h3)) (zk7 ns)
    refine (h2.map _).trans ?_
    have:(ns.map fun x=>(⟨x.toArray⟩:Str)).map (fun x=>x.cps.toList) = ns:=by simp [Function.comp_def]
    rw [this]
    exact (znm ns).symm
  have hb:=znk (C:=C) (ρ:=ρ₁) (L:=Own ρ₁ hp' G) (h:=s₁.heap) h1
  have:(ss'.map fun x=>AV.str x.cps.toList) = (zek ns).map .str:=by rw [← hns]; simp [Function.comp_def]
  rw [this] at hb
  exact FLPost.make (vs:=out.toList) S₁ (fun _ _=>sortedAll_old) (by
    cases q:s₁.heap.get? (s₁.heap.objs.size + 1) with
    | none=>rfl
    | some o=>exact absurd (Heap.lt_size q) (Nat.not_lt.mpr (Nat.le_succ _))) (n:=ep) (by rw [he]) hb
end
theorem zgf {x:Str}:∀ {names:List (Str × NameKind)} {n:Nat} {acc:List (Str × Addr)},((x,NameKind.cell)∈names∨(acc.lookup x).isSome = true)→((cellsFrom n names acc).lookup x).isSome = true
  | [],_,_,h=>h.elim (fun h=>nomatch h) id
  | (y,kd) ::r,n,acc,h=>by
    unfold cellsFrom
    split
    · rename_i hk
      refine zgf ?_
      have hkk:kd = .cell:=by simpa using hk
      subst hkk
      by_cases hx:x = y
      · right; rw [hx,List.lookup_cons]; simp
      · have:(x == y) = false:=by simpa using hx
        rcases h with h | h
        · rcases List.mem_cons.mp h with e | h
          · exact absurd (by cases (e); rfl) hx
          · exact .inl h
        · right; rw [List.lookup_cons,this]; exact h
    · rename_i hk
      refine zgf ?_
      rcases h with h | h
      · rcases List.mem_cons.mp h with e | h
        · cases (e); exact absurd rfl hk
        · exact .inl h
      · exact .inr h
noncomputable def zsp (scope:Scope) (slots:List Str):Bool:=slots.all fun x=>scope.names.lookup x == some .local || scope.names.lookup x == some .cell
theorem za0 {scope:Scope} {slots:List Str} (h:zsp scope slots = true):∀ x∈slots,scope.names.lookup x = some .local∨(scope.names.lookup x = some .cell∧∀ n,((cellsFrom n scope.names []).lookup x).isSome = true):=fun x hx=>by
  have:=List.all_eq_true.mp h x hx
  simp only [Bool.or_eq_true,beq_iff_eq] at this
  exact this.imp id fun q=>⟨q,fun n=>zgf (.inl (mem_of_lookup q))⟩
theorem zf0 {scope:Scope} {slots:List Str} {np:Nat} (h:zsp scope slots = true) (nd:slots.Nodup) (hn:np≤slots.length) (h1:scope.kind = .function) (h2:scope.isCoroutine = false) (h3:scope.isGenerator = false):DefOk scope slots np :=
  ⟨nd,za0 h,hn,h1,h2,h3⟩
inductive Unc {α:Type} (n:Nat):List α→Prop
  | mk (x:α) (t:List α) (e:t.length = n):Unc n (x ::t)
theorem unc {α:Type} {l:List α} {n:Nat} (e:l.length = n + 1):Unc n l:=by
  cases l with
  | nil=>exact nomatch e
  | cons x t=>exact ⟨x,t,Nat.succ.inj e⟩
theorem unc0 {α:Type} {l:List α} (e:l.length = 0):l = []:=List.eq_nil_of_length_eq_zero e
theorem zi2 {fd:FuncData} {a:Str} (h:∀ x,bindArgs fd ⟨[x],[]⟩ = pure [(a,x)]) {rest:List Str} (vs:List Value) (e:vs.length = 1):bindArgs fd ⟨vs,[]⟩ = pure (((a ::rest).take 1).zip vs):=by
  replace e:=unc e; obtain ⟨x,t,e⟩:=e
  replace e:=unc0 e; subst e
  exact h x
theorem zg1 {fd:FuncData} {a b:Str} (h:∀ x y,bindArgs fd ⟨[x,y],[]⟩ = pure [(a,x),(b,y)]) {rest:List Str} (vs:List Value) (e:vs.length = 2):bindArgs fd ⟨vs,[]⟩ = pure (((a ::b ::rest).take 2).zip vs):=by
  replace e:=unc e; obtain ⟨x,t,e⟩:=e
  replace e:=unc e; obtain ⟨y,t,e⟩:=e
  replace e:=unc0 e; subst e
  exact h x y
theorem bindN3 {fd:FuncData} {a b c:Str} (h:∀ x y z,bindArgs fd ⟨[x,y,z],[]⟩ = pure [(a,x),(b,y),(c,z)]) {rest:List Str} (vs:List Value) (e:vs.length = 3):bindArgs fd ⟨vs,[]⟩ = pure (((a ::b ::c ::rest).take 3).zip vs):=by
  replace e:=unc e; obtain ⟨x,t,e⟩:=e
  replace e:=unc e; obtain ⟨y,t,e⟩:=e
  replace e:=unc e; obtain ⟨z,t,e⟩:=e
  replace e:=unc0 e; subst e
  exact h x y z
theorem bindN4 {fd:FuncData} {a b c d:Str} (h:∀ x y z u,bindArgs fd ⟨[x,y,z,u],[]⟩ = pure [(a,x),(b,y),(c,z),(d,u)]) {rest:List Str} (vs:List Value) (e:vs.length = 4):bindArgs fd ⟨vs,[]⟩ = pure (((a ::b ::c ::d ::rest).take 4).zip vs):=by
  replace e:=unc e; obtain ⟨x,t,e⟩:=e
  replace e:=unc e; obtain ⟨y,t,e⟩:=e
  replace e:=unc e; obtain ⟨z,t,e⟩:=e
  replace e:=unc e; obtain ⟨u,t,e⟩:=e
  replace e:=unc0 e; subst e
  exact h x y z u
theorem SimF.le {C:Cfg} {j k:Nat} (h:j≤k) {f:Value} {m:Fn} (s:SimF C j f m):SimF C k f m:=fun A G a=>s A G (a.le h)
theorem zc1.le {C:Cfg} {j k:Nat} (h:j≤k) {f:Value} {m:Fn} (s:zc1 C j f m):zc1 C k f m:=fun A G a=>s A G (a.le h)
theorem zcz {homes:List Home} {frees:List Nat} (h:(frees.all fun i=>decide (i < homes.length)) = true):∀ i∈frees,i < homes.length:=fun i hi=>by simpa using List.all_eq_true.mp h i hi
theorem zem {C:Cfg} {k:Nat} {homes:List Home} {env:Env}:SimB C k homes (forIn ([]:List Expr) true fun c r=>if r = true then do let ok ← isTrue c env (eval c env); pure (ForInStep.yield ok) else pure (ForInStep.yield r)) (cstB true):=by
  intro A G a loc hp v hp' e ρ s W R
  obtain ⟨h1,h2⟩:=zbf e; clear e; subst h1 h2
  exact wpAny_tests_nil ⟨ρ,Step.refl W,rfl⟩
theorem zdd {C:Cfg} {k:Nat} {homes:List Home} {env:Env} {c:Expr} {m:MB} (h:SimB C k homes (isTrue c env (eval c env)) m):SimB C k homes (forIn [c] true fun c r=>if r = true then do let ok ← isTrue c env (eval c env); pure (ForInStep.yield ok) else pure (ForInStep.yield r)) m :=
  fun A G a loc hp v hp' e ρ s W R=>wpAny_tests_one (h A G a loc hp v hp' e ρ s W R)
structure Good (C:Cfg):Prop where
  K:C.K = Kf C.w.params
  inK:C.K.In C.base
  lim:C.base.NoLimit
  c0:C.cls 0 = 94
  c1:C.cls 1 = 160
  fldL:C.fld 0 = (["lineno","instream","whitespace","pushback"]:List Str)
  fldW:C.fld 1 = (["raw","n","nt","norm","is_simple"]:List Str)
  rdf:C.readf = 77
  ns:∃ mg mb,C.base.Ns mainGlobals mg∧C.base.Ns builtinsNs mb∧∀ x,x≠("__name__" : Str)→mb x = bootBuiltins x
theorem Good.glob {C:Cfg} (G:Good C) {x:Str} {v:Value} (e:nsIn (Kf C.w.params) mainGlobals x = some (some v)):zgp C x v:=by
  obtain ⟨mg,mb,n1,n2,_⟩:=G.ns
  exact ⟨mg,mb,n1,n2,.inl (mg_of G.inK n1 (by rw [G.K]; exact e))⟩
theorem Good.blt {C:Cfg} (G:Good C) {x:Str} {v:Value} (e:nsIn (Kf C.w.params) mainGlobals x = some none) (hv:bootBuiltins x = some v) (hn:x≠"__name__"):zgp C x v:=by
  obtain ⟨mg,mb,n1,n2,h⟩:=G.ns
  exact ⟨mg,mb,n1,n2,.inr ⟨mg_none_of G.inK n1 (by rw [G.K]; exact e),(h x hn).trans hv⟩⟩
theorem Good.at_ {C:Cfg} (G:Good C) {a:Addr} {o:Obj} (e:(Kf C.w.params).lookup a = some o):C.base.get? a = some o:=G.inK _ _ (by rw [G.K]; exact e)
theorem Good.clsL {C:Cfg} (G:Good C):ClsOk C 0 where
  inK:=G.inK
  dict:=by rw [G.K,G.c0]; rfl
  get:=by rw [G.K,G.c0]; rfl
  over:=by rw [G.K,G.c0]; rfl
  sets:=by rw [G.K,G.c0]; rfl
  none_:=by
    rw [G.K,G.c0,G.fldL]
    intro x hx
    simp only [List.mem_cons,List.not_mem_nil,or_false] at hx
    rcases hx with rfl | rfl | rfl | rfl <;> rfl
  make:=by rw [G.K,G.c0]; rfl
  nd:=by rw [G.fldL]; decide
  len:=by rw [G.fldL]; decide
theorem Good.clsW {C:Cfg} (G:Good C):ClsOk C 1 where
  inK:=G.inK
  dict:=by rw [G.K,G.c1]; rfl
  get:=by rw [G.K,G.c1]; rfl
  over:=by rw [G.K,G.c1]; rfl
  sets:=by rw [G.K,G.c1]; rfl
  none_:=by
    rw [G.K,G.c1,G.fldW]
    intro x hx
    simp only [List.mem_cons,List.not_mem_nil,or_false] at hx
    rcases hx with rfl | rfl | rfl | rfl | rfl <;> rfl
  make:=by rw [G.K,G.c1]; rfl
  nd:=by rw [G.fldW]; decide
  len:=by rw [G.fldW]; decide
theorem Good.readAt {C:Cfg} (G:Good C):∃ o fd,C.base.get? C.readf = some o∧o.data = .func fd:=by
  have h:=G.at_ (rfl:(Kf C.w.params).lookup 77 = some _)
  exact ⟨_,_,by rw [G.rdf]; exact h,rfl⟩
noncomputable def zvm (m:ME) (i j:Nat):MS:=fun loc hp=>do
  let (v,hp) ← m loc hp
  onT (on2 fun a b=>do
    let (loc,hp) ← stE j b loc hp
    let (loc,hp) ← stE i a loc hp
    some (.nx,loc,hp)) v
theorem zsw {C:Cfg} {k:Nat} {env:Env} {homes:List Home} {x y:Str} {tg value:Expr} {pos:Pos} {m:ME} (i j:Nat) (hm:SimE C k homes (eval value env) m) (hs:swapsWithSole [tg] value pos.line env = pure false) (hw:swappedStores [tg] value env = pure (some [x,y]))
    (hk:env.scope.kind = .function) (hx:env.kindOf x = some .local) (hy:env.kindOf y = some .local) (hi:homes[i]? = some (.ns env.locals x)) (hj:homes[j]? = some (.ns env.locals y)) :
    SimS C k homes (exec (.Assign [tg] value pos) env) (zvm m i j):=by
  intro A G a loc hp f loc' hp' e ρ s W R
  revert e; refine bpR fun v hp1 e1 e2=>?_
  rw [exec_Assign_arm]
  refine wpAny_bind (wpAny_standAt ?_)
  rw [hs]
  refine wpAny_bind (wpAny_pure ?_)
  rw [if_neg (by decide)]
  refine wpAny_bind (zco (hm A G a _ _ _ _ e1 ρ s W R) fun wv s₁ ρ₁ S₁ r₁=>?_)
  rw [hw]
  refine wpAny_bind (wpAny_pure ?_)
  apply onTR ?_ r₁ e2; clear r₁ e2; intro xs T n vs e5 n5 rr e2
  revert e5; apply on2R ?_ e2 rr; clear e2 rr; intro va vb w1 w2 ra ra2
  refine bpR fun loc2 hp2 e2=>bpR fun loc3 hp3 e3 e4 e5=>?_
  obtain ⟨h1,h2,h3⟩:=zev e4; clear e4; subst h1 h2 h3
  have R1:=R.step0 W S₁
  show wpAny _ _ (rule "assign.swapped-stores" >>= fun _=>unpackItems (.ref T) 2 none >>= fun items=>assignInOrder [fun v=>bindName env y v,fun v=>bindName env x v] items.reverse >>= fun _=>(pure Flow.next:Sem Flow)) _ _ _
  refine wpAny_bind (wpAny_rule (wpAny_bind ?_))
  refine wpAny_unpackItems_tuple (items:=[w1,w2].toArray) a.hd ⟨_,e5,rfl,_,rfl⟩ fun h' hx'=>?_
  have S2:=Step.same (X:=fun _=>False) (h':=h') (tk:=s₁.toks) S₁.wr (fun b o e=>hx' b o (Nat.ne_of_lt (Heap.lt_size e)) e)
  have R2:=R1.step0 S₁.wr S2
  have U2:=S2.up S₁.wr fun _ q=>q.elim
  show wpAny _ _ (assignInOrder [fun v=>bindName env y v,fun v=>bindName env x v] [w2,w1] >>= _) _ _ _
  refine wpAny_bind (wpAny_assignInOrder_more (wpAny_bindName (zii (zaj (k:=k) j hy hk hj A G a _ _ _ _ _ e2 ρ₁ _ w2 S2.wr R2 (.val (VR.up U2 ra2))) fun _ s3 ρ3 S3 R3=>?_)))
  refine wpAny_assignInOrder_more (wpAny_bindName (zde (zaj (k:=k) i hx hk hi A G a _ _ _ _ _ e3 ρ3 _ w1 S3.wr R3 (.val (VR.up ((S2.none.trans S3).up S₁.wr R.xg) ra))) fun _ s4 zq1=>?_)); obtain ⟨ρ4,S4,R4⟩:=zq1
  refine wpAny_assignInOrder_none (wpAny_pure ?_)
  exact ⟨ρ4,S₁.none.trans (S2.none.trans (S3.trans S4)),R4,.nx⟩
theorem zkb {C:Cfg} {k:Nat} {env:Env} {homes:List Home} {x attr:Str} {cl:Addr} {p pos:Pos} {mc:Value} {cs:List Nat} (X:C.K.In C.base) (g:zgp C x (.ref cl)) (hr:readsIn C.K cl mc = true) (e:∃ t,findCls C.K (.ref cl) mc attr = some (.val (.str ⟨cs.toArray⟩ t)))
    (hk:env.scope.kind = .function) (hl:env.kindOf x = some .globalImplicit) (hg:env.globals = mainGlobals) (hb:env.builtins = builtinsNs) (hd:(x == ("__debug__" : Str)) = false)
    (hbs:attributeBase (.Name x p) attr env (eval (.Name x p) env) = eval (.Name x p) env):SimE C k homes (eval (.Attribute (.Name x p) attr pos) env) (cst (.str cs)) :=
  let ⟨t,e⟩:=e; znt X g hr e rfl (fun _ _ _=>.str cs t) hk hl hg hb hd hbs
noncomputable def zh8 (cs:List Nat) (a b:Int):List Nat:=(Txt.slice ⟨cs.toArray⟩ (some a) (some b)).cps.toList
noncomputable def zpi (m m1 m2:ME):ME:=fun loc hp=>do
  let (x,hp) ← m loc hp
  let (a,hp) ← m1 loc hp
  let (b,hp) ← m2 loc hp
  onS (fun cs=>onI (fun a=>onI (fun b=>if cs.length≤1000000 then some (.str (zh8 cs a b),hp) else none) b) a) x
section
variable {C:Cfg} {k:Nat} {env:Env} {homes:List Home} {A:Around} {G:Addr→Prop} {ρ:Ren} {hp:Hp} {s:Shared}
theorem zqy {value lo up:Expr} {p pos:Pos} {m m1 m2:ME} (h:SimE C k homes (eval value env) m) (h1:SimE C k homes (eval lo env) m1) (h2:SimE C k homes (eval up env) m2) (ht:∀ o r,letTemporaryGo value o r = pure ()) :
    SimE C k homes (eval (.Subscript value (.Slice (some lo) (some up) none p) pos) env) (zpi m m1 m2):=by
  intro A G a loc hp v hp' e ρ s W R
  revert e; refine bpR fun x hp1 e1=>bpR fun y hp2 e2=>bpR fun z hp3 e3 e4=>?_
  refine wpAny_Subscript_str_slice (zco (h A G a _ _ _ _ e1 ρ s W R) fun ov s₁ ρ₁ S₁ r₁=>?_) ht
  have R1:=R.step0 W S₁
  refine zco (h1 A G a _ _ _ _ e2 ρ₁ s₁ S₁.wr R1) fun av s₂ ρ₂ S₂ r₂=>?_
  have R2:=R1.step0 S₁.wr S₂
  refine zco (h2 A G a _ _ _ _ e3 ρ₂ s₂ S₂.wr R2) fun bv s₃ ρ₃ S₃ r₃=>?_
  apply onSR ?_ r₁ e4; clear r₁ e4; intro cs t e4
  apply onIR ?_ r₂ e4; clear r₂ e4; intro ia ta e4
  apply onIR ?_ r₃ e4; clear r₃ e4; intro ib tb; refine ifR fun hz e4=>?_
  obtain ⟨h1,h2⟩:=zbf e4; clear e4; subst h1 h2
  refine ⟨⟨cs.toArray⟩,t,some (ia,ta),some (ib,tb),rfl,rfl,rfl,?_⟩
  have S4:=Step.push (X:=fun _=>False) (tk:=s₃.toks) S₃.wr ({cls:=.type "slice",data:=.fields #[.int ia ta,.int ib tb,.none]}:Obj)
  refine post_val_or_str ⟨Nat.le_trans (Txt.slice_le _ _ _) (by simpa [Str.length] using zhr hz),fun t' kk=>?_⟩
  refine ⟨ρ₃,(S₁.trans (S₂.trans (S₃.trans S4))).trans (Step.toks S4.wr kk),?_⟩
  have:(Txt.slice ⟨cs.toArray⟩ (some ia) (some ib)) = ⟨(zh8 cs ia ib).toArray⟩:=by simp [zh8]
  show VR _ _ _ _ _ (.str (Txt.slice ⟨cs.toArray⟩ (some ia) (some ib)) t')
  rw [this]
  exact .str _ _
end
end Mine
end
section
open PySem PySem.W PyProof.Rows PySem.Calls PySem.SeqAt Builtin Builtin.ObjectAttr
namespace Mine
noncomputable def zqf (c:Nat) (m:ME):ME:=fun loc hp=>do
  let (x,hp) ← m loc hp
  zn0 (fun n=>zgj (fun c' _=>if c' = c then some (.loc hp.N,hp.new (.citer n true)) else none) (hp.H n)) x
section
variable {C:Cfg} {k:Nat} {env:Env} {homes:List Home} {A:Around} {G:Addr→Prop} {ρ:Ren} {hp:Hp} {s:Shared}
theorem zrq {q:Addr} {f x:Value} {t:Tok} {Q:Value→Shared→Prop} {E:Value→Shared→Prop} (hq:s.heap.get? q = some (methodObj f x)) (h:Q (.ref s.heap.objs.size) {s with heap:=s.heap.push (zi1 q t)}) :
    wpAny (model C.prog C.w) A (call (.builtin "iter") [.ref q,.str ⟨#[]⟩ t]) Q E s:=by
  have hT:s.TypeIs (.ref q) "method" := ⟨_,hq,rfl⟩
  refine call_function_entry zre zoy kdk_entry_iter (zrs _ _) ?_
  unfold Builtin.«iter»
  refine wpAny_bind (wpAny_of_eq (a:=[Value.ref q,.str ⟨#[]⟩ t]) (by rfl) ?_)
  dsimp only
  refine wpAny_bind (wpAny_specialOf hT zik ?_)
  show wpAny _ _ (rule "iter.sentinel" >>= fun _=>_) _ _ _
  refine wpAny_bind (wpAny_rule ?_)
  refine wpAny_bind (wpAny_newObj_type ?_ (by size_fits))
  exact wpAny_pure ⟨_,rfl,h⟩
theorem zqz {o:Expr} {name:Str} {apos p cpos pos:Pos} {ck:Nat} {m:ME} {f:Addr} (c:Nat) (O:ClsOk C c) (g:zgp C "iter" (.builtin "iter")) (hr:C.readf = f) (h1:SimE C k homes (eval o env) m)
    (hfind:findIn C.K (.ref (C.cls c)) name = some (some (.ref f))) (hget:specialIn C.K (.ref f) "__get__" = some (some (.builtin "function.__get__"))) (htk:takesIn C.K (.ref f) = some false) (hty:typeIn C.K (.ref f) = some (.type "function"))
    (hcp:copiedNames.contains name = false) (hout:name ∉ C.fld c) (hb:attributeBase o name env (eval o env) = eval o env)
    (hkd:env.scope.kind = .function) (hl:env.kindOf "iter" = some .globalImplicit) (hg:env.globals = mainGlobals) (hbn:env.builtins = builtinsNs)
    (he1:starEach [.Attribute o name apos,.Constant (.str ⟨#[]⟩) ck cpos] env = (false,eval (.Attribute o name apos) env) ::starEach [.Constant (.str ⟨#[]⟩) ck cpos] env)
    (he2:starEach [.Constant (.str ⟨#[]⟩) ck cpos] env = (false,eval (.Constant (.str ⟨#[]⟩) ck cpos) env) ::starEach [] env) :
    SimE C k homes (eval (.Call (.Name "iter" p) [.Attribute o name apos,.Constant (.str ⟨#[]⟩) ck cpos] [] pos) env) (zqf c m):=by
  intro A G a loc hp v hp' e ρ s W R
  revert e; refine bpR fun x hp1 e1 e2=>?_
  revert e2; refine zkj fun n q=>zkl fun c' fs eh=>ifR fun hc e2=>?_
  replace hc:=hc.symm; subst q; subst hc
  obtain ⟨h1,h2⟩:=zbf e2; clear e2; subst h1 h2
  refine wpAny_Call_Name_kw (zha W g hkd hl hg hbn (by decide) ?_)
  show wpAny _ _ (callWith pos (.builtin "iter") [] (backTo pos (starEach [.Attribute o name apos,.Constant (.str ⟨#[]⟩) ck cpos] env)) []) _ _ _
  have hs:(starEach [.Attribute o name apos,.Constant (.str ⟨#[]⟩) ck cpos] env).any (·.1) = false:=by rw [he1,he2]; rfl
  refine callWith_of (P:=fun _=>True) ?_ (fun h _=>⟨.machine,.inr (.inl rfl),Looks.of_pure rfl⟩) ?_
  · have:(backTo pos (starEach [.Attribute o name apos,.Constant (.str ⟨#[]⟩) ck cpos] env)).any (·.1) = (starEach [.Attribute o name apos,.Constant (.str ⟨#[]⟩) ck cpos] env).any (·.1):=by unfold backTo; rw [List.any_map]; rfl
    simp [this,hs]
  refine zfy hs (wpAny_items_cons ?_ he1)
  rw [arm_eval_Attribute,hb]
  refine wpAny_bind (zco (h1 A G a _ _ _ _ e1 ρ s W R) fun ov s₁ ρ₁ S₁ r₁=>?_)
  refine wpAny_bind (wpAny_standAt (wpAny_bind (wpAny_holding ?_)))
  replace r₁:=Mine.VR.locI r₁; obtain ⟨lx,dx,er⟩:=r₁
  obtain ⟨m2,x2,e3,oo⟩:=S₁.wr.obj _ _ eh
  rw [er] at e3
  obtain ⟨h1,h2⟩:=zbf e3; clear e3; subst h1 h2
  replace oo:=Mine.OR.instI oo; obtain ⟨n9,es,f1,n1,f3,ks,ln,ff⟩:=oo
  have X:=O.inK.keeps S₁.wr.keep
  have I:InstAt s₁.heap lx (instObj (C.cls c) dx) (C.cls c) (some (dictOf es n9)):=⟨f1,rfl,rfl,f3⟩
  refine get_bind X I (plainGet_of O.get).1 (findObj_fn O.dict hfind hget htk hcp (by rw [lookIn_dict]; exact zp9 ks hout)) (plainGet_of O.get).2 ?_
  refine wpAny_call (fn_get (s:={s₁ with toks:=s₁.toks + 1}) X hty (handed_on rfl ?_))
  refine wpAny_bind (wpAny_letTemporaryGo (wpAny_pure ?_))
  refine wpAny_items_cons ?_ he2
  refine wpAny_Constant_str ?_
  refine wpAny_items_nil ⟨trivial,?_⟩
  have S2:=Step.push (X:=fun _=>False) (tk:=s₁.toks + 1 + 1) S₁.wr (methodObj (.ref f) (.ref lx))
  have hq:(s₁.heap.push (methodObj (.ref f) (.ref lx))).get? s₁.heap.objs.size = some (methodObj (.ref f) (.ref lx)):=Heap.get?_push_size _ rfl
  generalize hB:({s₁ with heap:=s₁.heap.push (methodObj (.ref f) (.ref lx)),toks:=s₁.toks + 1 + 1}:Shared) = sB at S2
  have hqB:sB.heap.get? s₁.heap.objs.size = some (methodObj (.ref f) (.ref lx)):=by rw [← hB]; exact hq
  show wpAny _ _ (call (.builtin "iter") [.ref s₁.heap.objs.size,.str ⟨#[]⟩ (s₁.toks + 1)]) _ _ sB
  refine zrq hqB ?_
  have WB:=S2.wr
  have hI:(sB.heap.push (zi1 s₁.heap.objs.size (s₁.toks + 1))).get? sB.heap.objs.size = some (zi1 s₁.heap.objs.size (s₁.toks + 1)):=Heap.get?_push_size _ rfl
  have hg':∀ b,plus G sB.heap.objs.size b→G b∨sB.heap.get? b = none:=fun b q=>q.imp id fun (e:b = sB.heap.objs.size)=>by rw [e]; exact zch
  have k0:∀ b o,sB.heap.get? b = some o→(sB.heap.push (zi1 s₁.heap.objs.size (s₁.toks + 1))).get? b = some o:=fun b o e=>Heap.get?_push_of_some _ e
  have W1:WR C (plus G sB.heap.objs.size) ρ₁ hp1 {sB with heap:=sB.heap.push (zi1 s₁.heap.objs.size (s₁.toks + 1)),toks:=sB.toks}:=WB.more k0 hg' fun b q=>q.elim (fun q=>(WB.gt b q).imp fun o e=>k0 b o e) fun (q:b = sB.heap.objs.size)=>⟨zi1 s₁.heap.objs.size (s₁.toks + 1),by rw [q]; exact hI⟩
  have hbI:C.base.get? sB.heap.objs.size = none:=by
    cases q:C.base.get? sB.heap.objs.size with
    | none=>rfl
    | some o=>have:=WB.keep _ o q; rw [zch] at this; exact noS this
  have hGI:¬ G sB.heap.objs.size:=fun q=>by
    obtain ⟨o,e⟩:=WB.gt _ q
    rw [zch] at e; exact noS e
  have hlv:∀ b,Lv (ρ₁.new hp1.N (sB.heap.objs.size,sB.heap.objs.size)) (hp1.new (.citer n true)) b→Lv ρ₁ hp1 b∨b = sB.heap.objs.size:=fun b zv1=>by
    obtain ⟨j,m',h1,h2⟩:=zv1
    by_cases hn:j = hp1.N
    · simp only [Ren.new,hn,if_true] at h2
      cases (h2); exact .inr rfl
    · simp only [Ren.new,Hp.new,hn,if_false] at h1 h2
      exact .inl ⟨j,m',h1,h2⟩
  have hnq:¬ Own (ρ₁.new hp1.N (sB.heap.objs.size,sB.heap.objs.size)) (hp1.new (.citer n true)) G s₁.heap.objs.size:=fun q=>by
    rcases q with q | q
    · rcases hlv _ q with q | q
      · obtain ⟨o,e⟩:=S₁.wr.lv q
        rw [zch] at e; exact noS e
      · have:=Heap.lt_size hqB
        rw [q] at this; exact Nat.lt_irrefl _ this
    · obtain ⟨o,e⟩:=S₁.wr.gt _ q
      rw [zch] at e; exact noS e
  obtain ⟨W2,_⟩:=WR.new (m:=sB.heap.objs.size) W1 hbI hGI (o:=.citer n true) (.live hI (by rw [hr]; exact k0 _ _ hqB) hnq (Ren.ext_new WB _ _ _ er))
  have S3:Step C G (fun _=>False) ρ₁ hp1 sB (ρ₁.new hp1.N (sB.heap.objs.size,sB.heap.objs.size)) (hp1.new (.citer n true)) {sB with heap:=sB.heap.push (zi1 s₁.heap.objs.size (s₁.toks + 1)),toks:=sB.toks} :=
    ⟨W2,Ren.ext_new WB _,Nat.le_succ _,fun b o e _ _ _=>k0 b o e,fun b o e=>⟨o,k0 b o e⟩,fun b q=>(hlv b q).imp id fun q=>by rw [q]; exact zch⟩
  exact ⟨_,S₁.trans (S2.trans S3),.loc (x:=sB.heap.objs.size) (by simp [Ren.new])⟩
end
end Mine
end
section
open PySem PySem.W PyProof.Rows PySem.Calls PySem.SeqAt
namespace Mine
noncomputable def lexFd (p:Params):Option FuncData:=match (Kf p).lookup 171 with
  | some ⟨_,_,.func fd,_⟩=>some fd
  | _=>none
inductive IsRd (p:Params) (params:Arguments) (body:List Stmt) (scope:Scope):Prop
  | mk (fd:FuncData) (s0:Stmt) (nm:Str) (nm2:_) (pos:_) (rest:List Stmt) (h1:lexFd p = some fd) (h2:fd.body = .stmts (s0 ::.FunctionDef nm params body [] none [] scope none nm2 pos ::rest)):IsRd p params body scope
inductive RdAt (fz:List (Addr × Obj)) (a g:Addr):Prop
  | mk (fo:Obj) (fd0:FuncData) (dx:Addr) (es:List DictEntry) (n:Nat) (h1:(a,fo)∈fz) (h2:fo.cls = .type "function") (h3:fo.dict = some dx) (h4:fo.data = .func fd0) (h5:(dx,dictOf es n)∈fz) (h6:getL "read" es = some (some (.ref g))):RdAt fz a g
inductive StrmG (p:Params) (fz:List (Addr × Obj)) (a l:Addr) (txt:List Nat) (g:Addr):Prop
  | mk (name:Str) (qual:Str) (params:Arguments) (body:List Stmt) (scope:Scope) (clos:List (Str × Addr)) (doc:_) (pm:_) (c':Addr) (ctv:_) (oc:Obj) (vs:Array Value) (tq:Tok) (ct ca:Addr) (oct oca:Obj) (t:Tok) (r:RdAt fz a g)
    (h7:(g,fnMade name qual params body scope clos doc pm c' ctv)∈fz) (h8:IsRd p params body scope) (h9:(c',oc)∈fz) (h10:oc.data = .fields vs) (h11:vs[1]? = some (.str qual tq))
    (h12:clos.lookup ("text" : Str) = some ct) (h13:clos.lookup ("at" : Str) = some ca) (h14:(ct,oct)∈fz) (h15:oct.data = .cell (some (.str ⟨List.toArray txt⟩ t))) (h16:(ca,oca)∈fz) (h17:oca.data = .cell (some (.ref l))):StrmG p fz a l txt g
inductive StrmP (p:Params) (fz:List (Addr × Obj)) (a l:Addr) (txt:List Nat):Prop
  | mk (g:Addr) (h:StrmG p fz a l txt g):StrmP p fz a l txt
noncomputable def rdM:MS:=seqS (asgS (zpi (lcl 2) (bin zaq (lcl 3) (cst (.int 0))) (bin addA (bin zaq (lcl 3) (cst (.int 0))) (lcl 0))) (stE 1))
  (seqS (subS (bin addA (bin zaq (lcl 3) (cst (.int 0))) (zas lenF (zac (lcl 1) zaf))) (lcl 3) (cst (.int 0))) (seqS (retS (lcl 1)) nilS))
theorem zqu {C:Cfg} {k:Nat} (Gd:Good C) {params:Arguments} {body:List Stmt} {scope:Scope} (h:IsRd C.w.params params body scope) {L g ct ca:Addr} {clos:List (Str × Addr)} {q:Str} {cd:Value} (hct:clos.lookup ("text" : Str) = some ct) (hca:clos.lookup ("at" : Str) = some ca) :
    SimS C k [.ns L "size",.ns L "sign",.fz ct L,.fz ca L] (execs body (newEnv scope L mainGlobals clos q (some g) cd none builtinsNs)) rdM∧
      scope.isCoroutine = false∧scope.isGenerator = false∧scope.kind = .function∧(∀ x∈scope.names,x.2≠.cell)∧scope.names.lookup ("size" : Str) = some .local∧
      ∀ name qual doc pm c' ctv v,bindArgs (fnX name qual params body scope clos .none .none doc pm none (.ref c') ctv) ⟨[v],[]⟩ = pure [(("size" : Str),v)]:=by
  obtain ⟨fd,s0,nm,nm2,pos,rest,h1,h2⟩:=h
  rw [show lexFd C.w.params = some _ from rfl] at h1
  replace h1:=Option.some.inj h1; subst h1
  cases (h2)
  refine ⟨?_,rfl,rfl,rfl,by decide,rfl,fun _ _ _ _ _ _ _=>rfl⟩
  exact zab (zag (zqy (zka 2 rfl rfl hct rfl rfl rfl) (zax (zka 3 rfl rfl hca rfl rfl rfl) zal (fun _ _=>rfl)) (zat (zax (zka 3 rfl rfl hca rfl rfl rfl) zal (fun _ _=>rfl)) (zaa 0 rfl rfl rfl rfl) zbi) (fun _ _=>rfl)) (zaj 1 rfl rfl rfl) rfl)
    (zab (zcw (zat (zax (zka 3 rfl rfl hca rfl rfl rfl) zal (fun _ _=>rfl)) (zan (Gd.blt rfl rfl (by decide)) (zar _) zci (zad (zaa 1 rfl rfl rfl rfl) zae rfl) rfl rfl rfl rfl rfl rfl) zbi) (zka 3 rfl rfl hca rfl rfl rfl) zal rfl)
      (zab (zbd (zaa 1 rfl rfl rfl rfl)) zah))
noncomputable def rdF (n:Nat) (txt:List Nat) (size:AV):Hp→Option (AV × Hp):=fun hp=>(rdM [some size,none,some (.str txt),some (.loc n)] hp).bind fun
  | (.rt v,_,hp)=>some (v,hp)
  | _=>none
section
variable {C:Cfg} {k:Nat} {env:Env} {homes:List Home} {A:Around} {G:Addr→Prop} {ρ:Ren} {hp:Hp} {s:Shared}
theorem zqt (Gd:Good C) (a:AOk (k + 1) A) {n:Nat} {txt:List Nat} {size:AV} {w:Value} {v:AV} {hp':Hp} {fz:List (Addr × Obj)} {ad l lx:Addr} {g:Addr} (S:StrmG C.w.params fz ad l txt g) (er:ρ n = some (l,lx))
    (hfz:∀ p∈fz,s.heap.get? p.1 = some p.2∧¬ Own ρ hp G p.1∧p.1≠C.P) (e:rdF n txt size hp = some (v,hp')) (W:WR C G ρ hp s) (r:VR C ρ (Own ρ hp G) s.heap size w) :
    wpAny (model C.prog C.w) A (call (.ref g) [w]) (EPost C G ρ hp s v hp') noE s:=by
  obtain ⟨name,qual,params,body,scope,clos,doc,pm,c',ctv,oc,vs,tq,ct,ca,oct,oca,t,_,h7,h8,h9,h10,h11,h12,h13,h14,h15,h16,h17⟩:=S
  obtain ⟨B1,B2,B3,B4,B5,B6,B7⟩:=zqu (k:=k) Gd h8 (L:=s.heap.objs.size) (g:=g) (q:=qual++".<locals>.") (cd:=.ref c') h12 h13
  revert e; refine btR fun f1 loc' hp'' em e=>?_
  refine wpAny_call (codeAny_call_function a.room (hfz _ h7).1 rfl B2 B3 rfl ⟨c',oc,vs,tq,rfl,(hfz _ h9).1,h10,h11⟩ ?_)
  rw [B7]
  refine wpAny_pure (wpAny_newFunctionEnv B5 (fun x hx=>by rw [List.mem_singleton.mp hx]; exact B6) (fun h' hn hs=>?_) B4)
  have nol:s.heap.get? s.heap.objs.size = none:=zch
  have hk:∀ b o,s.heap.get? b = some o→h'.get? b = some o:=fun b o e=>(hs.2 b (Nat.ne_of_lt (Heap.lt_size e))).trans (Heap.get?_push_of_some _ e)
  refine ⟨Gd.lim.keeps fun b o e=>hk b o (W.keep b o e),codeAny_func ?_⟩
  let G':Addr→Prop:=fun b=>G b∨b = s.heap.objs.size
  have hg:∀ b,G' b→G b∨s.heap.get? b = none:=fun b q=>q.imp id fun q=>by rw [q]; exact nol
  have ht:∀ b,G' b→∃ o,h'.get? b = some o:=fun b q=>q.elim (fun q=>(W.gt b q).imp fun o e=>hk b o e) fun q=>by subst q; obtain ⟨o,es,ep,e,_⟩:=hn; exact ⟨o,e⟩
  have W1:WR C G' ρ hp {s with heap:=h',toks:=s.toks + 1}:=W.more hk hg ht
  have U1:Up C ρ ρ (Own ρ hp G) (Own ρ hp G') s.heap h':=⟨fun _ _ e=>e,fun b o e _ _=>hk b o e,fun b q=>q.elim (fun q=>.inl (.inl q)) fun q=>(hg b q).imp .inr id,W.tabAt⟩
  have LP:s.heap.objs.size≠C.P:=fun q=>by
    obtain ⟨ps,e⟩:=W.tabAt
    rw [← q,nol] at e; exact noS e
  have fzc:∀ {c:Addr} {o:Obj},(c,o)∈fz→(¬ Own ρ hp G' c∧c≠C.P∧s.heap.objs.size≠C.P)∧h'.get? c = some o:=fun {c o} hc=>by
    obtain ⟨f1,f2,f3⟩:=hfz _ hc
    refine ⟨⟨fun q=>?_,f3,LP⟩,hk _ _ f1⟩
    rcases q with q | q | q
    · exact f2 (.inl q)
    · exact f2 (.inr q)
    · rw [show c = s.heap.objs.size from q,nol] at f1; exact noS f1
  have R1:LR C G' [.ns s.heap.objs.size "size",.ns s.heap.objs.size "sign",.fz ct s.heap.objs.size,.fz ca s.heap.objs.size] ρ hp [some size,none,some (.str txt),some (.loc n)] h':=by
    refine ⟨rfl,fun i hm ov e1 e2=>?_,fun hm q=>?_,?_⟩
    · match i,e1,e2 with
      | 0,e1,e2 =>
        replace e1:=Option.some.inj e1; subst e1; replace e2:=Option.some.inj e2; subst e2
        exact ⟨_,hn,fun v ev=>by replace ev:=Option.some.inj ev; subst ev; exact ⟨w,rfl,VR.up U1 r⟩⟩
      | 1,e1,e2 =>
        replace e1:=Option.some.inj e1; subst e1; replace e2:=Option.some.inj e2; subst e2
        exact ⟨_,hn,fun v ev=>nomatch ev⟩
      | 2,e1,e2 =>
        replace e1:=Option.some.inj e1; subst e1; replace e2:=Option.some.inj e2; subst e2
        exact ⟨(fzc h14).1,_,⟨_,(fzc h14).2,h15⟩,fun v ev=>by replace ev:=Option.some.inj ev; subst ev; exact ⟨_,rfl,.str _ _⟩⟩
      | 3,e1,e2 =>
        replace e1:=Option.some.inj e1; subst e1; replace e2:=Option.some.inj e2; subst e2
        exact ⟨(fzc h16).1,_,⟨_,(fzc h16).2,h17⟩,fun v ev=>by replace ev:=Option.some.inj ev; subst ev; exact ⟨_,rfl,.loc er⟩⟩
      | i + 4,e1,e2=>exact noS e1
    · simp only [List.mem_cons,List.not_mem_nil,or_false] at q
      rcases q with rfl | rfl | rfl | rfl <;> exact .inr rfl
    · have hcc:ct≠ca:=fun q=>by
        subst q
        have:=(hfz _ h14).1
        rw [(hfz _ h16).1] at this
        replace this:=Option.some.inj this; subst this
        rw [h15] at h17; cases (h17)
      simp [hcc]
      decide
  have hfr:∀ b,Xh [.ns s.heap.objs.size "size",.ns s.heap.objs.size "sign",.fz ct s.heap.objs.size,.fz ca s.heap.objs.size] b→s.heap.get? b = none:=fun b q=>by
    obtain ⟨hm,q,e⟩:=q
    simp only [List.mem_cons,List.not_mem_nil,or_false] at q
    subst e
    rcases q with rfl | rfl | rfl | rfl <;> exact nol
  refine zra (B1 _ G' (a.deeper _) _ _ _ _ _ em ρ _ W1 R1) fun f s' ρ' S _ fr=>?_
  cases fr with
  | rt r =>
    obtain ⟨h1,h2⟩:=zbf e; clear e; subst h1 h2
    refine ⟨ρ',⟨S.wr.less fun b q=>.inl q,S.ext,S.nx,fun b o e n p _=>S.keep b o (hk b o e) n p (fun q=>by rw [hfr b q] at e; exact noS e),
          fun b o e=>S.there b o (hk b o e),fun b q=>(S.live b q).imp id fun z=>by
            cases e:s.heap.get? b with
            | none=>rfl
            | some o=>rw [show h'.get? b = some o from hk b o e] at z; exact noN z⟩,VR.weak (fun b q=>q.imp id .inl) r⟩
  | _=>exact noS e
noncomputable def zxs {γ:Type} (k:Nat→List Nat→Option γ):AV→Option γ
  | .strm n t=>k n t
  | _=>none
theorem zy4 {γ:Type} {r:γ} {k:Nat→List Nat→Option γ} {R:Prop} {x:AV} (H:∀ n t,x = .strm n t→k n t = some r→R):zxs k x = some r→R:=fun e=>by
  cases (x) with
  | strm n t=>exact H n t rfl e
  | _=>exact noS e
noncomputable def ztb (m:ME) (m2:MEs):ME:=fun loc hp=>do
  let (x,hp) ← m loc hp
  let (xs,hp) ← m2 loc hp
  zxs (fun n txt=>on1 (fun size=>rdF n txt size hp) xs) x
theorem zsy (Gd:Good C) (hS:C.strm = StrmP C.w.params) {o:Expr} {apos pos:Pos} {args:List Expr} {m:ME} {m2:MEs} (h1:SimE C (k + 1) homes (eval o env) m) (hargs:zhe C (k + 1) homes (spliced (backTo pos (starEach args env))) m2)
    (hbase:attributeBase o "read" env (eval o env) = eval o env)
    (hfew:((backTo pos (starEach args env)).all (fun x=>!x.1) && (backToKw pos (keywordEach [] env)).all (fun x=>x.1.isSome) && decide (args.length + ([]:List Keyword).length + (if ([]:List Keyword).isEmpty then 0 else 1) < 30)) = true)
    (hline:(apos.endLine == pos.line) = true) (hs:(starEach args env).any (·.1) = false) :
    SimE C (k + 1) homes (eval (.Call (.Attribute o "read" apos) args [] pos) env) (ztb m m2):=by
  intro A G a loc hp v hp' e ρ s W R
  revert e; refine bpR fun x hp1 e1=>bpR fun xs hp2 e2 e3=>?_
  revert e3; refine zy4 fun n txt q e3=>?_
  subst q
  rw [arm_eval_Call,hbase]
  refine wpAny_bind (zco (h1 A G a loc hp _ hp1 e1 ρ s W R) fun ov s₁ ρ₁ S₁ r₁=>?_)
  refine wpAny_bind (wpAny_standAt ?_)
  replace r₁:=Mine.VR.strmI r₁; obtain ⟨ad,l,lx,fz,hst,er,hfz⟩:=r₁
  rw [hS] at hst
  obtain ⟨g,hg⟩:=hst
  obtain ⟨name,qual,params,body,scope,clos,doc,pm,c',ctv,oc,vs,tq,ct,ca,oct,oca,t,r,g7,_⟩:=id hg
  obtain ⟨fo,fd0,dx,es,nn,g1,g2,g3,g4,g5,g6⟩:=r
  have hform:methodCallForm (args.length + ([]:List Keyword).length) (backTo pos (starEach args env)) (backToKw pos (keywordEach [] env)) = true:=hfew
  have hpos:methodCallPos true o env apos pos = pure pos:=by unfold methodCallPos; simp [hline]
  unfold methodCall
  rw [hform]
  refine wpAny_bind (wpAny_holding (zoc (hfz _ g1).1 g2 g3 g4 (hfz _ g5).1 g6 rfl ?_))
  refine wpAny_bind (wpAny_of_eq hpos ?_)
  have ST:=Step.toks (X:=fun _=>False) S₁.wr (s₁.toks + 1)
  show wpAny _ _ (callWith pos (.ref g) [] (backTo pos (starEach args env)) []) _ _ _
  refine callWith_of (P:=fun h=>h.get? g = some (fnMade name qual params body scope clos doc pm c' ctv)) ?_ (fun h p=>⟨.frame,.inl rfl,?_⟩) ?_
  · have:(backTo pos (starEach args env)).any (·.1) = (starEach args env).any (·.1):=by unfold backTo; rw [List.any_map]; rfl
    simp [this,hs]
  · unfold keeperOf
    exact (Looks.ld (part:=none) p).andThen .now
  · refine zfy hs (zlx (hargs A G a loc _ xs hp2 e2 ρ₁ _ ST.wr (LR.step0 (s':=s₁) R W S₁)) fun us s₂ ρ₂ S₂ r₂=>?_)
    have U2:=S₂.up ST.wr fun _ q=>q.elim
    have hfz2:∀ p∈fz,s₂.heap.get? p.1 = some p.2∧¬ Own ρ₂ hp2 G p.1∧p.1≠C.P:=fun p hp=>⟨U2.keep _ _ (hfz p hp).1 (hfz p hp).2.1 (hfz p hp).2.2,(fun q=>(U2.live _ q).elim (hfz p hp).2.1 fun z=>by rw [show s₁.heap.get? p.1 = some p.2 from (hfz p hp).1] at z; exact noN z),(hfz p hp).2.2⟩
    refine ⟨(hfz2 _ g7).1,?_⟩
    apply on1R ?_ e3 r₂; clear e3 r₂; intro size w rw1 e3
    have:=zqt (s:=s₂) Gd a hg (S₂.ext _ _ er) hfz2 e3 S₂.wr rw1
    exact zde this fun w' s₃ h=>zb3 (S₁.trans (ST.trans S₂)) h
end
section
variable {prog:Program} {w:World} {A:Around} {R:Result→Shared→Prop} {s:Shared} {elt t1 t2 i1 i2:Expr} {ifs:List Expr} {scope:Scope} {pos:Pos} {it acc:Value} {env:Env}
theorem zlc:compTurn (.ListComp elt [⟨t1,i1,[],0⟩,⟨t2,i2,ifs,0⟩] scope pos) 0 it acc env = (standAt i1.pos >>= fun _=>pyNext it >>= fun r=>match r with
      | none=>pure (.done .next)
      | some v=>letOwnedTupleGo t1 it v >>= fun _=>assign t1 env v >>= fun _=>eval i2 env >>= fun x=>standAt i2.pos >>= fun _=>foldedSetIterable i2 env x >>= fun x =>
          holding [x] (pyIter x) >>= fun it2=>runOwn (.compStart (.ListComp elt [⟨t1,i1,[],0⟩,⟨t2,i2,ifs,0⟩] scope pos) 1 it2 acc env) env >>= fun _ =>
          again (.compLoop (.ListComp elt [⟨t1,i1,[],0⟩,⟨t2,i2,ifs,0⟩] scope pos) 0 it acc env)):=by rfl
theorem zld:compTurn (.ListComp elt [⟨t1,i1,[],0⟩,⟨t2,i2,ifs,0⟩] scope pos) 1 it acc env = (do
      standAt i2.pos
      match ← pyNext it with
      | none=>pure (.done .next)
      | some v =>
        letOwnedTupleGo t2 it v
        assign t2 env v
        let mut ok:=true
        for c in ifs do
          if ok then ok ← isTrue c env (eval c env)
        if ok then
          (do let _ ← call (.builtin "list.append") [acc,← eval elt env])
        again (.compLoop (.ListComp elt [⟨t1,i1,[],0⟩,⟨t2,i2,ifs,0⟩] scope pos) 1 it acc env)):=by rfl
theorem zm8 (I:Nat→Shared→Prop)
    (turn:∀ n s,I n s→wpAny (model prog w) A (pyNext it) (fun r s₁=>match r with
      | none=>R (.ok .next) s₁
      | some v=>wpAny (model prog w) A (letOwnedTupleGo t2 it v) (fun _ s₁'=>wpAny (model prog w) A (assign t2 env v) (fun _ s₂ =>
          wpAny (model prog w) A (forIn ifs true fun c r=>if r = true then do let ok ← isTrue c env (eval c env); pure (ForInStep.yield ok) else pure (ForInStep.yield r)) (fun ok s₃ =>
            ok = false∧∃ m,m < n∧I m s₃) (notedBy (model prog w) A env fun e s'=>R (.error e) s') s₂) (notedBy (model prog w) A env fun e s'=>R (.error e) s') s₁') (notedBy (model prog w) A env fun e s'=>R (.error e) s') s₁) (notedBy (model prog w) A env fun e s'=>R (.error e) s') s)
    (n:Nat) (h:I n s):codeAny (model prog w) A (.compLoop (.ListComp elt [⟨t1,i1,[],0⟩,⟨t2,i2,ifs,0⟩] scope pos) 1 it acc env) R s:=by
  refine codeAny_loop rfl I (fun n s hI=>?_) n h
  show wpAny _ A ((compTurn (.ListComp elt [⟨t1,i1,[],0⟩,⟨t2,i2,ifs,0⟩] scope pos) 1 it acc env).onRaise (fun x=>do noteFrame x env; theTreesLotGoes x)) _ _ s
  refine wpAny_noted ?_
  rw [zld]
  refine wpAny_bind (wpAny_standAt (wpAny_bind (wpAny_mono (turn n s hI) (fun r s₁ h₁=>?_) fun _ _ h'=>h')))
  cases r with
  | none=>exact wpAny_pure h₁
  | some v =>
    refine wpAny_bind (wpAny_mono h₁ (fun _ s₁' h₁=>?_) fun _ _ h'=>h')
    refine wpAny_bind (wpAny_mono h₁ (fun _ s₂ h₂=>wpAny_bind (wpAny_mono h₂ (fun ok s₃ h₃=>?_) fun _ _ h'=>h')) fun _ _ h'=>h')
    obtain ⟨rfl,h₃⟩:=h₃
    exact wpAny_pure ⟨rfl,h₃⟩
theorem zi0
    (h0:codeAny (model prog w) A (.compLoop (.ListComp elt [⟨t1,i1,[],0⟩,⟨t2,i2,ifs,0⟩] scope pos) 1 it acc env) R s)
    (h:wpAny (model prog w) A (pyIter it) (fun it' s'=>codeAny (model prog w) A (.compLoop (.ListComp elt [⟨t1,i1,[],0⟩,⟨t2,i2,ifs,0⟩] scope pos) 1 it' acc env) R s')
      (notedBy (model prog w) A env fun x s'=>R (.error x) s') s) :
    codeAny (model prog w) A (.compStart (.ListComp elt [⟨t1,i1,[],0⟩,⟨t2,i2,ifs,0⟩] scope pos) 1 it acc env) R s:=by
  refine codeAny_of_tree ?_
  show wpAny _ _ ((compStart (.ListComp elt [⟨t1,i1,[],0⟩,⟨t2,i2,ifs,0⟩] scope pos) 1 it acc env).onRaise (fun x=>do noteFrame x env; standAt theWindowsPlace)) _ _ s
  refine wpAny_notedAt ?_
  unfold compStart
  show wpAny _ _ (ask >>= _) _ _ s
  refine wpAny_bind (wpAny_askSetting (wpAny_ite ?_))
  split
  · first
      | exact wpAny_bind (wpAny_pure (wpAny_pure (And.intro rfl h0)))
      | exact wpAny_pure (And.intro rfl h0)
  · first
      | exact wpAny_bind (wpAny_rule (wpAny_bind (wpAny_standAt (wpAny_bind (wpAny_mono h (fun it' s' h'=>wpAny_pure (And.intro rfl h')) fun _ _ x=>x)))))
      | exact wpAny_bind (wpAny_standAt (wpAny_bind (wpAny_mono h (fun it' s' h'=>wpAny_pure (And.intro rfl h')) fun _ _ x=>x)))
theorem zm7 (I:Nat→Shared→Prop)
    (turn:∀ n s,I n s→wpAny (model prog w) A (pyNext it) (fun r s₁=>match r with
      | none=>R (.ok .next) s₁
      | some v=>wpAny (model prog w) A (letOwnedTupleGo t1 it v) (fun _ s₁'=>wpAny (model prog w) A (assign t1 env v) (fun _ s₂ =>
          wpAny (model prog w) A (eval i2 env) (fun x s₃=>wpAny (model prog w) A (pyIter x) (fun it2 s₄ =>
            codeAny (model prog w) A (.compStart (.ListComp elt [⟨t1,i1,[],0⟩,⟨t2,i2,ifs,0⟩] scope pos) 1 it2 acc env) (fun r s₅=>r = .ok .next∧∃ m,m < n∧I m s₅) s₄)
            (notedBy (model prog w) A env fun e s'=>R (.error e) s') s₃) (notedBy (model prog w) A env fun e s'=>R (.error e) s') s₂) (notedBy (model prog w) A env fun e s'=>R (.error e) s') s₁') (notedBy (model prog w) A env fun e s'=>R (.error e) s') s₁) (notedBy (model prog w) A env fun e s'=>R (.error e) s') s)
    (hs:∀ x,foldedSetIterable i2 env x = pure x) (n:Nat) (h:I n s):codeAny (model prog w) A (.compLoop (.ListComp elt [⟨t1,i1,[],0⟩,⟨t2,i2,ifs,0⟩] scope pos) 0 it acc env) R s:=by
  refine codeAny_loop rfl I (fun n s hI=>?_) n h
  show wpAny _ A ((compTurn (.ListComp elt [⟨t1,i1,[],0⟩,⟨t2,i2,ifs,0⟩] scope pos) 0 it acc env).onRaise (fun x=>do noteFrame x env; theTreesLotGoes x)) _ _ s
  refine wpAny_noted ?_
  rw [zlc]
  refine wpAny_bind (wpAny_standAt (wpAny_bind (wpAny_mono (turn n s hI) (fun r s₁ h₁=>?_) fun _ _ h'=>h')))
  cases r with
  | none=>exact wpAny_pure h₁
  | some v =>
    refine wpAny_bind (wpAny_mono h₁ (fun _ s₁' h₁=>?_) fun _ _ h'=>h')
    refine wpAny_bind (wpAny_mono h₁ (fun _ s₂ h₂=>wpAny_bind (wpAny_mono h₂ (fun x s₃ h₃=>?_) fun _ _ h'=>h')) fun _ _ h'=>h')
    refine wpAny_bind (wpAny_standAt (wpAny_bind ?_))
    rw [hs]
    refine wpAny_pure (wpAny_bind (wpAny_holding (wpAny_mono h₃ (fun it2 s₄ h₄=>?_) fun _ _ h'=>h')))
    refine wpAny_bind (wpAny_runOwn (codeAny_mono h₄ fun r s₅ h₅=>?_))
    obtain ⟨rfl,h₅⟩:=h₅
    exact wpAny_pure ⟨rfl,h₅⟩
end
noncomputable def ziz (t:MT) (tests:MB) (fr:Loc):List AV→Loc→Hp→Option (Loc × Hp)
  | []=>fun own hp=>some (own,hp)
  | x ::xs=>fun own hp=>(t x own hp).bind fun (own,hp)=>(tests (own++fr) hp).bind fun (b,hp)=>bif b then none else ziz t tests fr xs own hp
theorem compIn_e1 (t:MT) (tests:MB) (fr:Loc):ziz t tests fr [] =
   ((fun own hp=>some (own,hp))):=rfl
theorem compIn_e2 (t:MT) (tests:MB) (fr:Loc):∀ x xs,ziz t tests fr (x ::xs) =
   ((fun own hp=>(t x own hp).bind fun (own,hp)=>(tests (own++fr) hp).bind fun (b,hp)=>bif b then none else ziz t tests fr xs own hp)):=fun _ _=>rfl
noncomputable def zhx (t1:MT) (mi2:Loc→Hp→Option (List AV × Hp)) (t2:MT) (tests:MB) (fr:Loc):List AV→Loc→Hp→Option Hp
  | []=>fun own hp=>some hp
  | x ::xs=>fun own hp=>(t1 x own hp).bind fun (own,hp)=>(mi2 (own++fr) hp).bind fun (ys,hp)=>(ziz t2 tests fr ys own hp).bind fun (own,hp)=>zhx t1 mi2 t2 tests fr xs own hp
theorem z0c (t1:MT) (mi2:Loc→Hp→Option (List AV × Hp)) (t2:MT) (tests:MB) (fr:Loc):zhx t1 mi2 t2 tests fr [] =
   ((fun own hp=>some hp)):=rfl
theorem z0b (t1:MT) (mi2:Loc→Hp→Option (List AV × Hp)) (t2:MT) (tests:MB) (fr:Loc):∀ x xs,zhx t1 mi2 t2 tests fr (x ::xs) =
   ((fun own hp=>(t1 x own hp).bind fun (own,hp)=>(mi2 (own++fr) hp).bind fun (ys,hp)=>(ziz t2 tests fr ys own hp).bind fun (own,hp)=>zhx t1 mi2 t2 tests fr xs own hp)):=fun _ _=>rfl
noncomputable def zl4 (own:Nat) (frees:List Nat) (ite:Loc→Hp→Option (List AV × Hp)) (t1:MT) (mi2:Loc→Hp→Option (List AV × Hp)) (t2:MT) (tests:MB):ML:=fun loc hp=>do
  let (xs,hp) ← ite loc hp
  let hp ← zhx t1 mi2 t2 tests (pick frees loc) xs (List.replicate own none) hp
  some ([],hp)
section
variable {C:Cfg} {k:Nat} {env:Env} {O F:List Home}
inductive InnInv (C:Cfg) (G1:Addr→Prop) (O F:List Home) (ρ:Ren) (hp:Hp) (s:Shared) (St:Nat→Heap→Prop) (t:MT) (tests:MB) (fr:Loc) (xs:List AV) (z:Loc × Hp) (n:Nat) (s':Shared):Prop
  | mk (i:Nat) (ρ':Ren) (hp1:Hp) (loc1:Loc) (h1:n = xs.length - i) (h2:i≤xs.length) (h3:Step C G1 (Xh O) ρ hp s ρ' hp1 s') (h4:LR C G1 O ρ' hp1 loc1 s'.heap) (h5:LR C G1 F ρ' hp1 fr s'.heap) (h6:St i s'.heap) (h7:ziz t tests fr (xs.drop i) loc1 hp1 = some z):InnInv C G1 O F ρ hp s St t tests fr xs z n s'
inductive InnPost (C:Cfg) (G:Addr→Prop) (O F:List Home) (ρ0:Ren) (hp0:Hp) (s0:Shared) (own' fr:Loc) (hp':Hp) (r:Result) (s₅:Shared):Prop
  | mk (e:r = .ok .next) (ρ':Ren) (h1:Step C G (Xh O) ρ0 hp0 s0 ρ' hp' s₅) (h2:LR C G O ρ' hp' own' s₅.heap) (h3:LR C G F ρ' hp' fr s₅.heap):InnPost C G O F ρ0 hp0 s0 own' fr hp' r s₅
theorem zrg {elt t1 t2 i1 i2:Expr} {ifs:List Expr} {scope:Scope} {pos:Pos} {tt2:Bool} {mi2:Loc→Hp→Option (List AV × Hp)} {t:MT} {tests:MB} {A:Around} {G:Addr→Prop} {acc:Value}
    (hi:SimI C k (O++F) t2 tt2 i2 env mi2) (ht:SimT C k O tt2 (assign t2 env) t)
    (hb:SimB C k (O++F) (forIn ifs true fun c r=>if r = true then do let ok ← isTrue c env (eval c env); pure (ForInStep.yield ok) else pure (ForInStep.yield r)) tests)
    (hOF:∀ x∈O,∀ y∈F,x.addr≠y.addr) (a:AOk k A) {own fr own':Loc} {hp0 hp hp':Hp} {xs:List AV} (e1:mi2 (own++fr) hp0 = some (xs,hp)) (e2:ziz t tests fr xs own hp = some (own',hp'))
    {ρ0:Ren} {s0:Shared} (W0:WR C G ρ0 hp0 s0) (Ro0:LR C G O ρ0 hp0 own s0.heap) (Rf0:LR C G F ρ0 hp0 fr s0.heap) :
    wpAny (model C.prog C.w) A (eval i2 env) (fun x s₁=>wpAny (model C.prog C.w) A (pyIter x) (fun it s₂ =>
      codeAny (model C.prog C.w) A (.compStart (.ListComp elt [⟨t1,i1,[],0⟩,⟨t2,i2,ifs,0⟩] scope pos) 1 it acc env) (InnPost C G O F ρ0 hp0 s0 own' fr hp') s₂) noE s₁) noE s0:=by
  have cross:∀ x∈O,∀ y∈F,x≠y:=fun x hx y hy q=>hOF x hx y hy (q ▸ rfl)
  refine zde (hi A G a _ _ _ _ e1 ρ0 s0 W0 (Ro0.append Rf0 cross)) fun xv s₁ h₁=>zde h₁ fun it s₂ zq=>?_
  obtain ⟨ρ,s,S0,zq⟩:=zq; obtain ⟨I,fp,wr,P,Md,St,T⟩:=zq
  have W:=S0.wr
  have Ro:=Ro0.step0 W0 S0
  have Rf:=Rf0.step0 W0 S0
  let G1:Addr→Prop:=fun b=>G b∨b∈wr
  have hG:∀ b,G b→G1 b:=fun b q=>.inl q
  have hn:∀ b,G1 b→G b∨s.heap.get? b = none:=fun b q=>q.imp id (T.fresh b)
  have hw:∀ b∈wr,G1 b:=fun b q=>.inr q
  have hXG:∀ b,Xh O b→G b:=Ro.xg
  have hgw:∀ b,G b→¬ b∈wr:=fun b q q'=>by
    obtain ⟨o,e⟩:=W.gt b q
    rw [T.fresh b q'] at e; exact noS e
  obtain ⟨h0,tk0,hs0⟩:=T.same
  have S1:Step C G1 (Xh O) ρ hp s ρ hp s₂:=by
    have:=Step.grow (G1:=G1) (X:=Xh O) (h':=h0) (tk:=tk0) W (by have:=T.keep; rw [hs0] at this; exact this) hn (fun b q=>by
      have ke:=T.keep
      have ex:=T.ex 0 s₂.heap T.st0
      rw [hs0] at ke ex
      exact q.elim (fun q=>(W.gt b q).imp fun o e=>ke b o e) (ex b))
    rw [← hs0] at this; exact this
  have R1o:LR C G1 O ρ hp own s₂.heap:=Ro.up (S1.up1 W hXG hn) (fun hm q o e=>T.keep _ o e) hG
  have R1f:LR C G1 F ρ hp fr s₂.heap:=Rf.up (S1.up1 W hXG hn) (fun hm q o e=>T.keep _ o e) hG
  have loop:codeAny (model C.prog C.w) A (.compLoop (.ListComp elt [⟨t1,i1,[],0⟩,⟨t2,i2,ifs,0⟩] scope pos) 1 (.ref I) acc env) (InnPost C G O F ρ0 hp0 s0 own' fr hp') s₂:=by
    refine zm8 (InnInv C G1 O F ρ hp s St t tests fr xs (own',hp')) ?_ (xs.length - 0)
      ⟨0,ρ,hp,own,rfl,Nat.zero_le _,S1,R1o,R1f,T.st0,e2⟩
    rintro n si ⟨i,ρi,hpi,loci,rfl,hile,Si,Ri,Rfi,sti,ei⟩
    by_cases hlt:i < xs.length
    · have hx:xs[i]? = some xs[i]:=List.getElem?_eq_getElem hlt
      rw [List.drop_eq_getElem_cons hlt] at ei
      revert ei; refine bpR fun loc2 hp2 et=>bpR fun bb hp6 em ei=>?_
      refine wpAny_mono (T.item W hXG hn hw Si hx sti (Q:=fun v s₁'=>wpAny (model C.prog C.w) A (assign t2 env v) (fun _ s₂=>wpAny (model C.prog C.w) A _ (fun ok s₃=>ok = false∧∃ m,m < xs.length - i∧_) (notedBy (model C.prog C.w) A env fun e s'=>_) s₂) (notedBy (model C.prog C.w) A env fun e s'=>_) s₁') (E:=notedBy (model C.prog C.w) A env fun e s'=>_)
          fun v h2 tk S2 S3 st3 vx=>?_) (fun r s₁ hr=>by cases r with
            | none=>exact hr.elim
            | some v=>exact hr) fun _ _ e=>e
      have R3:LR C G1 O ρi hpi loci h2:=Ri.step Si.wr S2 hw fun hm q q'=>hgw _ (Ro.g _ q) q'
      have R3f:LR C G1 F ρi hpi fr h2:=Rfi.step Si.wr S2 hw fun hm q q'=>hgw _ (Rf.g _ q) q'
      refine zii (ht A G1 a _ _ _ _ _ et ρi _ v S3.wr R3 vx) fun _ s₃ ρ₃ S4 R4=>?_
      have S5:=S3.trans S4
      have R4f:LR C G1 F ρ₃ hp2 fr s₃.heap:=R3f.step S3.wr S4 (fun b q=>hG b (hXG b q)) fun hm q ⟨hm',q',e⟩=>hOF hm' q' hm q e
      cases bb with
      | true=>exact noS ei
      | false =>
        refine zmq (hb A G1 a _ _ _ _ em ρ₃ s₃ S5.wr (R4.append R4f cross)) fun ok s₆ ρ₆ S6 hok=>?_
        subst hok
        have S7:=S5.trans S6.none
        have hYf:∀ b,Xh O b→(G b∨s.heap.get? b = none)∧¬ b∈wr:=fun b q=>⟨.inl (hXG b q),hgw b (hXG b q)⟩
        have st7:St (i + 1) s₆.heap:=T.frame W hXG hG hn hw S3 hYf (S4.trans S6.none) st3
        exact ⟨rfl,xs.length - (i + 1),by lia,i + 1,ρ₆,hp6,loc2,rfl,hlt,S7,R4.step0 S5.wr S6,R4f.step0 S5.wr S6,st7,ei⟩
    · have hii:i = xs.length:=by lia
      subst hii
      rw [List.drop_length] at ei
      obtain ⟨h1,h2⟩:=zbf ei; clear ei; subst h1 h2
      refine T.fin W hw (G2:=G) (fun b q=>⟨hG b q,hgw b q⟩) Si sti fun h' tk S2 U2 k2=>?_
      refine ⟨rfl,ρi,S0.none.trans S2,⟨Ri.len,fun j hm ov e1 e2=>(Ri.at_ j hm ov e1 e2).up U2 fun o e=>k2 _ o (hgw _ (Ro.g _ (List.mem_of_getElem? e1))) e,Ro.g,Ri.nd⟩,⟨Rfi.len,fun j hm ov e1 e2=>(Rfi.at_ j hm ov e1 e2).up U2 fun o e=>k2 _ o (hgw _ (Rf.g _ (List.mem_of_getElem? e1))) e,Rf.g,Rfi.nd⟩⟩
  exact zi0 loop (T.self _ _ _ T.st0 loop)
end
section
variable {C:Cfg} {k:Nat} {env:Env} {homes:List Home}
inductive OutInv (C:Cfg) (G1:Addr→Prop) (ρ:Ren) (hp:Hp) (s:Shared) (HO FO:List Home) (fr:Loc) (St:Nat→Heap→Prop) (D:Addr) (t:MT) (mi2:Loc→Hp→Option (List AV × Hp)) (mt2:MT) (tests:MB) (xs:List AV) (hp':Hp) (n:Nat) (si:Shared):Prop
  | mk (i:Nat) (ρi:Ren) (hpi:Hp) (own:Loc) (h1:n = xs.length - i) (h2:i≤xs.length) (h3:Step C G1 (fun _=>False) ρ hp s ρi hpi si) (h4:LR C G1 HO ρi hpi own si.heap) (h5:LR C G1 FO ρi hpi fr si.heap) (h6:St i si.heap)
    (h7:si.heap.get? D = some (listOf ([]:List Value).toArray 0)) (h8:∃ m,si.heap.Ns (D + 1) m) (h9:zhx t mi2 mt2 tests fr (xs.drop i) own hpi = some hp'):OutInv C G1 ρ hp s HO FO fr St D t mi2 mt2 tests xs hp' n si
theorem zrn {target ite elt t2 i2:Expr} {ifs:List Expr} {pos:Pos} {scope:Scope} {cl:List (Str × Addr)} {owns:List Str} {frees:List Nat} {tt:Bool} {tt2:Bool} {mi mi2:Loc→Hp→Option (List AV × Hp)} {t mt2:MT} {tests:MB} {use:Option (Value→Sem Unit)}
    {E:Value→Shared→Prop} {Q:Value→Shared→Prop} {A:Around} {G:Addr→Prop}
    (hi:SimI C k homes target tt ite env mi) (hs:∀ x,foldedSetIterable ite env x = pure x) (hs2:∀ L x,foldedSetIterable i2 (zdc scope cl env L) x = pure x) (hclos:closureFor scope env = pure cl)
    (hkind:scope.kind = .function) (hnames:∀ x∈scope.names,x.2 = .local→scope.names.lookup x.1 = some .local) (O:OwnOk scope owns) (hf:∀ i∈frees,i < homes.length) (hfd:frees.Nodup)
    (ht:∀ L,SimT C k (za6 scope L owns) tt (assign target (zdc scope cl env L)) t)
    (hb:∀ L,SimB C k (za6 scope L owns++zew frees homes) (forIn ifs true fun c r=>if r = true then do let ok ← isTrue c (zdc scope cl env L) (eval c (zdc scope cl env L)); pure (ForInStep.yield ok) else pure (ForInStep.yield r)) tests)
    (hi2:∀ L,SimI C k (za6 scope L owns++zew frees homes) t2 tt2 i2 (zdc scope cl env L) mi2) (ht2:∀ L,SimT C k (za6 scope L owns) tt2 (assign t2 (zdc scope cl env L)) mt2)
    (a:AOk k A) {loc:Loc} {hp0:Hp} {ys:List AV} {hp':Hp} (e:zl4 owns.length frees mi t mi2 mt2 tests loc hp0 = some (ys,hp')) {ρ0:Ren} {s0:Shared} (W0:WR C G ρ0 hp0 s0) (R0:LR C G homes ρ0 hp0 loc s0.heap)
    (hQ:∀ ρ hp s D L ρN sN,Step C G (fun _=>False) ρ0 hp0 s0 ρ hp s→CEnd C G ρ hp s ys hp' D L ρN sN→compPost (model C.prog C.w) A E use Q (.ref D) L (.ok .next) sN) :
    wpAny (model C.prog C.w) A (comprehension (.ListComp elt [⟨target,ite,[],0⟩,⟨t2,i2,ifs,0⟩] scope pos) scope env (firstIterPos [⟨target,ite,[],0⟩,⟨t2,i2,ifs,0⟩] pos) (newList []) false (eval ite env) use) Q E s0:=by
  revert e; refine bpR fun xs hp e1=>bR fun hpz e2 e3=>?_
  cases (e3)
  refine wpAny_comprehension_free rfl hs hclos hkind hnames (zde (hi A G a _ _ _ _ e1 ρ0 s0 W0 R0) fun xv s₁ h₁=>zde h₁ fun it s₂ zq=>?_)
  obtain ⟨ρ,s,S0,zq⟩:=zq; obtain ⟨I,fp,wr,P,Md,St,T⟩:=zq
  have W:=S0.wr
  have R:=R0.step0 W0 S0
  refine wpAny_newObj_type ?_
  refine zlw ?_
  obtain ⟨h0,tk0,rfl⟩:=T.same
  have k0:∀ b o,s.heap.get? b = some o→h0.get? b = some o:=T.keep
  dsimp only
  have hD:h0.objs.size = h0.objs.size:=rfl
  generalize eD:h0.objs.size = D at *
  have hL:(h0.push ({cls:=.type "list",dict:=none,data:=.seq ([]:List Value).toArray}:Obj)).objs.size = D + 1:=by rw [Heap.size_push,eD]
  rw [hL]
  generalize hH:pushCells ((h0.push ({cls:=.type "list",dict:=none,data:=.seq ([]:List Value).toArray}:Obj)).push {cls:=.type "dict",data:=.dict #[]}) scope.names = H
  obtain ⟨G1,K⟩:=zu0 T W R O hf hfd eD hL hH
  have K':=K
  obtain ⟨k1,hDo,hLn,nos,hG,gD,gL,hn,hw,hgw,dnw,S1,ownG,_,Ro,Rf,frlt⟩:=K'
  have hXG:∀ b,(fun _:Addr=>False) b→G b:=fun _ q=>q.elim
  have eqle:∀ {a b:Addr},a = b→@LE.le Nat _ b a:=fun q=>Nat.le_of_eq q.symm
  have cross:∀ x∈za6 scope (D + 1) owns,∀ y∈zew frees homes,x≠y:=fun x hx y hy q=>Nat.lt_asymm (ownG x hx).2 (q ▸ (frlt y hy).2)
  have hYo:∀ b,Xh (za6 scope (D + 1) owns) b→@LT.lt Nat _ D b:=fun b q=>by
    obtain ⟨hm,q,e⟩:=q
    exact e ▸ (ownG hm q).2
  have hYG:∀ b,Xh (za6 scope (D + 1) owns) b→G1 b:=fun b q=>by
    obtain ⟨hm,q,e⟩:=q
    exact e ▸ (ownG hm q).1
  have loop:codeAny (model C.prog C.w) A (.compLoop (.ListComp elt [⟨target,ite,[],0⟩,⟨t2,i2,ifs,0⟩] scope pos) 0 (.ref I) (.ref D) (zdc scope cl env (D + 1))) (compPost (model C.prog C.w) A E use Q (.ref D) (D + 1)) {s with heap:=H,toks:=tk0}:=by
    refine zm7 (OutInv C G1 ρ hp s (za6 scope (D + 1) owns) (zew frees homes) (pick frees loc) St D t mi2 mt2 tests xs hp') ?_ (hs2 _) (xs.length - 0)
      ⟨0,ρ,hp,_,rfl,Nat.zero_le _,S1,Ro,Rf,T.kt.frame 0 _ _ T.st0 (fun b hb o e=>k1 b o e),hDo,⟨_,hLn⟩,by rw [List.drop_zero]; exact e2⟩
    rintro n si ⟨i,ρi,hpi,own,rfl,hile,Si,Roi,Rfi,sti,hDi,hni,ei⟩
    by_cases hlt:i < xs.length
    · have hx:xs[i]? = some xs[i]:=List.getElem?_eq_getElem hlt
      rw [List.drop_eq_getElem_cons hlt] at ei
      revert ei; refine bpR fun own2 hp2 et=>bpR fun zs hp3 ey=>bpR fun own6 hp6 ez ei=>?_
      refine wpAny_mono (T.item W hXG hn hw Si hx sti (Q:=fun v s₁'=>wpAny (model C.prog C.w) A (assign target (zdc scope cl env (D + 1)) v) (fun _ s₂=>wpAny (model C.prog C.w) A (eval i2 (zdc scope cl env (D + 1))) (fun x s₃=>wpAny (model C.prog C.w) A (pyIter x) (fun it2 s₄ =>
          codeAny (model C.prog C.w) A (.compStart (.ListComp elt [⟨target,ite,[],0⟩,⟨t2,i2,ifs,0⟩] scope pos) 1 it2 (.ref D) (zdc scope cl env (D + 1))) (fun r s₅=>r = .ok .next∧∃ m,m < xs.length - i∧_) s₄) (notedBy (model C.prog C.w) A (zdc scope cl env (D + 1)) fun e s'=>_) s₃) (notedBy (model C.prog C.w) A (zdc scope cl env (D + 1)) fun e s'=>_) s₂) (notedBy (model C.prog C.w) A (zdc scope cl env (D + 1)) fun e s'=>_) s₁') (E:=notedBy (model C.prog C.w) A (zdc scope cl env (D + 1)) fun e s'=>_)
          fun v h2 tk S2 S3 st3 vx=>?_) (fun r s₁ hr=>by cases r with
            | none=>exact hr.elim
            | some v=>exact hr) fun _ _ e=>e
      have own3:LR C G1 (za6 scope (D + 1) owns) ρi hpi own h2:=Roi.step Si.wr S2 hw fun hm q q'=>dnw _ (Nat.le_of_lt (ownG hm q).2) q'
      have fr3:LR C G1 (zew frees homes) ρi hpi (pick frees loc) h2:=Rfi.step Si.wr S2 hw fun hm q q'=>hgw _ (frlt _ q).1 q'
      refine zii (ht (D + 1) A G1 a _ _ _ _ _ et ρi _ v S3.wr own3 vx) fun _ s₃ ρ₃ S4 R4=>?_
      have S5:=S3.trans' S4 fun b q=>.inr (nos b (Nat.le_of_lt (hYo b q)))
      have fr5:LR C G1 (zew frees homes) ρ₃ hp2 (pick frees loc) s₃.heap:=fr3.step S3.wr S4 (hYG) fun hm q q'=>Nat.lt_asymm (frlt hm q).2 (hYo _ q')
      have hOF:∀ x∈za6 scope (D + 1) owns,∀ y∈zew frees homes,x.addr≠y.addr:=fun x hx y hy q=>Nat.lt_asymm (ownG x hx).2 (q ▸ (frlt y hy).2)
      refine zde (zrg (hi2 (D + 1)) (ht2 (D + 1)) (hb (D + 1)) hOF a ey ez S5.wr R4 fr5) fun x2 s₃' h=>zde h fun it2 s₄ h=>codeAny_mono h fun r s₆ ⟨hr,ρ₆,S6,own6',fr6⟩=>⟨hr,?_⟩
      have S7:=S5.trans' S6 fun b q=>.inr (nos b (Nat.le_of_lt (hYo b q)))
      -- what of the turn before stands still
      have T26:Step C G1 (fun b=>Xh (za6 scope (D + 1) owns) b) ρi hpi {si with heap:=h2,toks:=tk} ρ₆ hp6 s₆:=S4.trans S6
      have hYf:∀ b,Xh (za6 scope (D + 1) owns) b→(G b∨s.heap.get? b = none)∧¬ b∈wr:=fun b q=>⟨.inr (nos b (Nat.le_of_lt (hYo b q))),dnw b (Nat.le_of_lt (hYo b q))⟩
      have dD:∀ {ρa:Ren} {hpa:Hp} {sa:Shared},WR C G1 ρa hpa sa→¬ Lv ρa hpa D∧D≠C.P:=fun {ρa hpa sa} Wa=>⟨fun q=>Wa.ng D q (gD _ rfl),fun q=>by
        obtain ⟨ps,e⟩:=W.tabAt
        rw [← q,nos D (Nat.le_refl _)] at e; exact noS e⟩
      have hD2:h2.get? D = some (listOf ([]:List Value).toArray 0):=S2.keep D _ hDi (dD Si.wr).1 (dD Si.wr).2 (dnw D (Nat.le_refl _))
      have hD6:s₆.heap.get? D = some (listOf ([]:List Value).toArray 0):=T26.keep D _ hD2 (dD S3.wr).1 (dD S3.wr).2 fun q=>Nat.lt_irrefl D (hYo D q)
      have st6:St (i + 1) s₆.heap:=T.frame W hXG hG hn hw S3 hYf T26 st3
      have ns6:∃ m,s₆.heap.Ns (D + 1) m:=K.nsD (X:=fun b=>b∈wr∨Xh (za6 scope (D + 1) owns) b) (fun b q=>.inr q) hni W Si.wr (Step.trans' (X:=fun b=>b∈wr∨Xh (za6 scope (D + 1) owns) b) (S2.weak fun b q=>.inl q) T26 fun b q=>.inl (.inr q)) own6'
      exact ⟨xs.length - (i + 1),by lia,i + 1,ρ₆,hp6,own6,rfl,hlt,S7,own6',fr6,st6,hD6,ns6,ei⟩
    · have hii:i = xs.length:=by lia
      subst hii
      rw [List.drop_length] at ei
      replace ei:=Option.some.inj ei; subst ei
      have hG2:∀ b,(G b∨b = D∨b = D + 1)→G1 b∧¬ b∈wr:=fun b q=>by
        rcases q with q | q | q
        · exact ⟨hG b q,hgw b q⟩
        · exact ⟨gD b q,dnw b (eqle q)⟩
        · exact ⟨gL b q,dnw b (Nat.le_of_succ_le (eqle q))⟩
      refine T.fin W hw (G2:=fun b=>G b∨b = D∨b = D + 1) hG2 Si sti fun h' tk S2 U2 k2=>?_
      exact hQ ρ hp s D (D + 1) ρi _ S0 ⟨S2,⟨[],0,k2 D _ (dnw D (Nat.le_refl _)) hDi,.nil⟩,hni.imp fun _ hni=>hni.at' fun o e=>k2 _ o (dnw _ (Nat.le_succ D)) e,nos D (Nat.le_refl _),nos _ (Nat.le_succ D),Nat.ne_of_lt (Nat.lt_succ_self D)⟩
  exact codeAny_compStart_list loop (T.self _ _ _ (T.kt.frame 0 _ _ T.st0 fun b hb o e=>k1 b o e) loop)
end
section
variable {C:Cfg} {k:Nat} {env:Env} {homes:List Home}
theorem zqw {target ite elt t2 i2:Expr} {ifs:List Expr} {pos:Pos} {scope:Scope} {cl:List (Str × Addr)} {owns:List Str} {frees:List Nat} {tt tt2:Bool} {mi mi2:Loc→Hp→Option (List AV × Hp)} {t mt2:MT} {tests:MB}
    (hi:SimI C k homes target tt ite env mi) (hs:∀ x,foldedSetIterable ite env x = pure x) (hs2:∀ L x,foldedSetIterable i2 (zdc scope cl env L) x = pure x) (hclos:closureFor scope env = pure cl)
    (hkind:scope.kind = .function) (hnames:∀ x∈scope.names,x.2 = .local→scope.names.lookup x.1 = some .local) (O:OwnOk scope owns) (hf:∀ i∈frees,i < homes.length) (hfd:frees.Nodup)
    (ht:∀ L,SimT C k (za6 scope L owns) tt (assign target (zdc scope cl env L)) t)
    (hb:∀ L,SimB C k (za6 scope L owns++zew frees homes) (forIn ifs true fun c r=>if r = true then do let ok ← isTrue c (zdc scope cl env L) (eval c (zdc scope cl env L)); pure (ForInStep.yield ok) else pure (ForInStep.yield r)) tests)
    (hi2:∀ L,SimI C k (za6 scope L owns++zew frees homes) t2 tt2 i2 (zdc scope cl env L) mi2) (ht2:∀ L,SimT C k (za6 scope L owns) tt2 (assign t2 (zdc scope cl env L)) mt2) :
    SimL C k homes (eval (.ListComp elt [⟨target,ite,[],0⟩,⟨t2,i2,ifs,0⟩] scope pos) env) (zl4 owns.length frees mi t mi2 mt2 tests):=by
  intro A G a loc hp0 ys hp' e ρ0 s0 W0 R0
  rw [eval_ListComp]
  exact zrn (use:=none) hi hs hs2 hclos hkind hnames O hf hfd ht hb hi2 ht2 a e W0 R0 fun ρ hp s D L ρN sN S0 c=>⟨_,c.ns.choose_spec,fun h' hs'=>c.fl S0.wr S0 hs'⟩
end
variable {C:Cfg}
noncomputable def zgx:Fn:=runF 3 6 (seqS (asgS (bin zaq (lcl 0) (lcl 2)) (stE 3)) (seqS (zcd (tru (bin gtA (lcl 2) (lcl 1))) (seqS (asgS (bin shrA (bin subA (lcl 2) (cst (.int 1))) (cst (.int 1))) (stE 4)) (seqS (asgS (bin zaq (lcl 0) (lcl 4)) (stE 5)) (seqS (iteS (tru (bin ltT (lcl 3) (lcl 5))) (seqS (subS (lcl 5) (lcl 0) (lcl 2)) (seqS (asgS (lcl 4) (stE 2)) (seqS ctS nilS))) nilS) (seqS brS nilS)))) 1000) (seqS (subS (lcl 3) (lcl 0) (lcl 2)) nilS)))
theorem zk4 (Gd:Good C):zc1 C 5 (.ref 49) zgx:=by
  have ho:=Gd.at_ (rfl:(Kf C.w.params).lookup 49 = some _)
  refine zbn (slots:=["heap","startpos","pos","newitem","parentpos","parent"]) (np:=3) ho rfl rfl rfl (codeRec_of Gd.inK (by rw [Gd.K]; rfl)) Gd.lim (zf0 (by decide) (by decide) (by decide) rfl rfl rfl) (bindN3 fun _ _ _=>rfl) fun L=>?_
  exact (zab (zag (zax (zaa 0 rfl rfl rfl rfl) (zaa 2 rfl rfl rfl rfl) (fun _ _=>rfl)) (zaj 3 rfl rfl rfl) rfl)
    (zab (ze2 1000 (zay (zaa 2 rfl rfl rfl rfl) (zaa 1 rfl rfl rfl rfl) zsu rfl) (zab (zag (zat (zat (zaa 2 rfl rfl rfl rfl) zal zgt) zal zsr) (zaj 4 rfl rfl rfl) rfl)
    (zab (zag (zax (zaa 0 rfl rfl rfl rfl) (zaa 4 rfl rfl rfl rfl) (fun _ _=>rfl)) (zaj 5 rfl rfl rfl) rfl)
    (zab (zbq (zay (zaa 3 rfl rfl rfl rfl) (zaa 5 rfl rfl rfl rfl) zst rfl) (zab (zcw (zaa 5 rfl rfl rfl rfl) (zaa 0 rfl rfl rfl rfl) (zaa 2 rfl rfl rfl rfl) rfl)
    (zab (zag (zaa 4 rfl rfl rfl rfl) (zaj 2 rfl rfl rfl) rfl)
    (zab zib
    zah))) zah)
    (zab zlu
    zah)))))
    (zab (zcw (zaa 3 rfl rfl rfl rfl) (zaa 0 rfl rfl rfl rfl) (zaa 2 rfl rfl rfl rfl) rfl)
    zah)))
noncomputable def ze5:Fn:=runF 2 2 (seqS (zcl (zcc "list" zca (lcl 0) (zac (lcl 1) zaf))) (seqS (zcl (zas zgx (zac (lcl 0) (zac (cst (.int 0)) (zac (bin subA (zas lenF (zac (lcl 0) zaf)) (cst (.int 1))) zaf))))) nilS))
theorem zmb (Gd:Good C):zc1 C 10 (.ref 28) ze5:=by
  have ho:=Gd.at_ (rfl:(Kf C.w.params).lookup 28 = some _)
  refine zbn (slots:=["heap","item"]) (np:=2) ho rfl rfl rfl (codeRec_of Gd.inK (by rw [Gd.K]; rfl)) Gd.lim (zf0 (by decide) (by decide) (by decide) rfl rfl rfl) (zg1 fun _ _=>rfl) fun L=>?_
  exact (zab (zbp (zbu (zaa 0 rfl rfl rfl rfl) (zad (zaa 1 rfl rfl rfl rfl) zae rfl) zc6 F.plainAttrs_list F.slot_list_append F.type_list_append rfl rfl rfl rfl) rfl rfl)
    (zab (zbp (zan (Gd.glob rfl) (za5 Gd.inK (by rw [Gd.K]; rfl)) (SimF.le (by decide) (zk4 Gd).fn) (zad (zaa 0 rfl rfl rfl rfl) (zad zal (zad (zat (zan (Gd.blt rfl rfl (by decide)) (zar _) zci (zad (zaa 0 rfl rfl rfl rfl) zae rfl) rfl rfl rfl rfl rfl rfl) zal zgt) zae rfl) rfl) rfl) rfl rfl rfl rfl rfl rfl) rfl rfl)
    zah))
noncomputable def zgq:Fn:=runF 2 7 (seqS (asgS (zas lenF (zac (lcl 0) zaf)) (stE 2)) (seqS (asgS (lcl 1) (stE 3)) (seqS (asgS (bin zaq (lcl 0) (lcl 1)) (stE 4)) (seqS (asgS (bin addA (bin mulA (cst (.int 2)) (lcl 1)) (cst (.int 1))) (stE 5)) (seqS (zcd (tru (bin ltA (lcl 5) (lcl 2))) (seqS (asgS (bin addA (lcl 5) (cst (.int 1))) (stE 6)) (seqS (iteS (andB (tru (bin ltA (lcl 6) (lcl 2))) (andB (notB (tru (bin ltT (bin zaq (lcl 0) (lcl 5)) (bin zaq (lcl 0) (lcl 6))))) (cstB true))) (seqS (asgS (lcl 6) (stE 5)) nilS) nilS) (seqS (subS (bin zaq (lcl 0) (lcl 5)) (lcl 0) (lcl 1)) (seqS (asgS (lcl 5) (stE 1)) (seqS (asgS (bin addA (bin mulA (cst (.int 2)) (lcl 1)) (cst (.int 1))) (stE 5)) nilS))))) 1000) (seqS (subS (lcl 4) (lcl 0) (lcl 1)) (seqS (zcl (zas zgx (zac (lcl 0) (zac (lcl 3) (zac (lcl 1) zaf))))) nilS)))))))
theorem zoo (Gd:Good C):zc1 C 10 (.ref 56) zgq:=by
  have ho:=Gd.at_ (rfl:(Kf C.w.params).lookup 56 = some _)
  refine zbn (slots:=["heap","pos","endpos","startpos","newitem","childpos","rightpos"]) (np:=2) ho rfl rfl rfl (codeRec_of Gd.inK (by rw [Gd.K]; rfl)) Gd.lim (zf0 (by decide) (by decide) (by decide) rfl rfl rfl) (zg1 fun _ _=>rfl) fun L=>?_
  exact (zab (zag (zan (Gd.blt rfl rfl (by decide)) (zar _) zci (zad (zaa 0 rfl rfl rfl rfl) zae rfl) rfl rfl rfl rfl rfl rfl) (zaj 2 rfl rfl rfl) rfl)
    (zab (zag (zaa 1 rfl rfl rfl rfl) (zaj 3 rfl rfl rfl) rfl)
    (zab (zag (zax (zaa 0 rfl rfl rfl rfl) (zaa 1 rfl rfl rfl rfl) (fun _ _=>rfl)) (zaj 4 rfl rfl rfl) rfl)
    (zab (zag (zat (zat zal (zaa 1 rfl rfl rfl rfl) zmf) zal zbi) (zaj 5 rfl rfl rfl) rfl)
    (zab (ze2 1000 (zay (zaa 5 rfl rfl rfl rfl) (zaa 2 rfl rfl rfl rfl) zpj rfl) (zab (zag (zat (zaa 5 rfl rfl rfl rfl) zal zbi) (zaj 6 rfl rfl rfl) rfl)
    (zab (zbq (zd6 (zbk (zay (zaa 6 rfl rfl rfl rfl) (zaa 2 rfl rfl rfl rfl) zpj rfl) (zbk (zml (zay (zax (zaa 0 rfl rfl rfl rfl) (zaa 5 rfl rfl rfl rfl) (fun _ _=>rfl)) (zax (zaa 0 rfl rfl rfl rfl) (zaa 6 rfl rfl rfl rfl) (fun _ _=>rfl)) zst rfl)) zdu))) (zab (zag (zaa 6 rfl rfl rfl rfl) (zaj 5 rfl rfl rfl) rfl)
    zah) zah)
    (zab (zcw (zax (zaa 0 rfl rfl rfl rfl) (zaa 5 rfl rfl rfl rfl) (fun _ _=>rfl)) (zaa 0 rfl rfl rfl rfl) (zaa 1 rfl rfl rfl rfl) rfl)
    (zab (zag (zaa 5 rfl rfl rfl rfl) (zaj 1 rfl rfl rfl) rfl)
    (zab (zag (zat (zat zal (zaa 1 rfl rfl rfl rfl) zmf) zal zbi) (zaj 5 rfl rfl rfl) rfl)
    zah))))))
    (zab (zcw (zaa 4 rfl rfl rfl rfl) (zaa 0 rfl rfl rfl rfl) (zaa 1 rfl rfl rfl rfl) rfl)
    (zab (zbp (zan (Gd.glob rfl) (za5 Gd.inK (by rw [Gd.K]; rfl)) (SimF.le (by decide) (zk4 Gd).fn) (zad (zaa 0 rfl rfl rfl rfl) (zad (zaa 3 rfl rfl rfl rfl) (zad (zaa 1 rfl rfl rfl rfl) zae rfl) rfl) rfl) rfl rfl rfl rfl rfl rfl) rfl rfl)
    zah)))))))
noncomputable def zfg:Fn:=runF 1 3 (seqS (asgS (zcc "list" popF (lcl 0) zaf) (stE 1)) (seqS (iteS (tru (lcl 0)) (seqS (asgS (bin zaq (lcl 0) (cst (.int 0))) (stE 2)) (seqS (subS (lcl 1) (lcl 0) (cst (.int 0))) (seqS (zcl (zas zgq (zac (lcl 0) (zac (cst (.int 0)) zaf)))) (seqS (retS (lcl 2)) nilS)))) nilS) (seqS (retS (lcl 1)) nilS)))
theorem zk3 (Gd:Good C):zc1 C 15 (.ref 35) zfg:=by
  have ho:=Gd.at_ (rfl:(Kf C.w.params).lookup 35 = some _)
  refine zbn (slots:=["heap","lastelt","returnitem"]) (np:=1) ho rfl rfl rfl (codeRec_of Gd.inK (by rw [Gd.K]; rfl)) Gd.lim (zf0 (by decide) (by decide) (by decide) rfl rfl rfl) (zi2 fun _=>rfl) fun L=>?_
  exact (zab (zag (zbu (zaa 0 rfl rfl rfl rfl) zae zss F.plainAttrs_list F.slot_list_pop F.type_list_pop rfl rfl rfl rfl) (zaj 1 rfl rfl rfl) rfl)
    (zab (zbq (zc5 (zaa 0 rfl rfl rfl rfl) rfl) (zab (zag (zax (zaa 0 rfl rfl rfl rfl) zal (fun _ _=>rfl)) (zaj 2 rfl rfl rfl) rfl)
    (zab (zcw (zaa 1 rfl rfl rfl rfl) (zaa 0 rfl rfl rfl rfl) zal rfl)
    (zab (zbp (zan (Gd.glob rfl) (za5 Gd.inK (by rw [Gd.K]; rfl)) (SimF.le (by decide) (zoo Gd).fn) (zad (zaa 0 rfl rfl rfl rfl) (zad zal zae rfl) rfl) rfl rfl rfl rfl rfl rfl) rfl rfl)
    (zab (zbd (zaa 2 rfl rfl rfl rfl))
    zah)))) zah)
    (zab (zbd (zaa 1 rfl rfl rfl rfl))
    zah)))
noncomputable def zf1:Fn:=runF 1 3 (seqS (asgS (zas lenF (zac (lcl 0) zaf)) (stE 1)) (seqS (forS (revI (zas zbh (zac (bin fdvA (lcl 1) (cst (.int 2))) zaf))) (stE 2) (seqS (zcl (zas zgq (zac (lcl 0) (zac (lcl 2) zaf)))) nilS)) nilS))
theorem zon (Gd:Good C):zc1 C 15 (.ref 42) zf1:=by
  have ho:=Gd.at_ (rfl:(Kf C.w.params).lookup 42 = some _)
  refine zbn (slots:=["x","n","i"]) (np:=1) ho rfl rfl rfl (codeRec_of Gd.inK (by rw [Gd.K]; rfl)) Gd.lim (zf0 (by decide) (by decide) (by decide) rfl rfl rfl) (zi2 fun _=>rfl) fun L=>?_
  exact (zab (zag (zan (Gd.blt rfl rfl (by decide)) (zar _) zci (zad (zaa 0 rfl rfl rfl rfl) zae rfl) rfl rfl rfl rfl rfl rfl) (zaj 1 rfl rfl rfl) rfl)
    (zab (zc4 (tt:=false) (zpn (Gd.blt rfl rfl (by decide)) (zan (Gd.blt rfl rfl (by decide)) (zba _) zbt (zad (zat (zaa 1 rfl rfl rfl rfl) zal zj8) zae rfl) rfl rfl rfl rfl rfl rfl) rfl rfl rfl rfl rfl) (zap (zaj 2 rfl rfl rfl)) (zab (zbp (zan (Gd.glob rfl) (za5 Gd.inK (by rw [Gd.K]; rfl)) (SimF.le (by decide) (zoo Gd).fn) (zad (zaa 0 rfl rfl rfl rfl) (zad (zaa 2 rfl rfl rfl rfl) zae rfl) rfl) rfl rfl rfl rfl rfl rfl) rfl rfl)
    zah) (fun _=>rfl))
    zah))
noncomputable def ze7:Fn:=runF 1 2 (seqS (asgS (cst (.str [])) (stE 1)) (seqS (zcd (tru (bin gtA (lcl 0) (cst (.int 1)))) (seqS (asgS (bin addA (bin zaq (cst (.str [32,9])) (bin modA (lcl 0) (cst (.int 2)))) (lcl 1)) (stE 1)) (seqS (asgS (bin fdvA (lcl 0) (cst (.int 2))) (stE 0)) nilS)) 1000) (seqS (retS (lcl 1)) nilS)))
theorem zpd (Gd:Good C):zc1 C 5 (.ref 202) ze7:=by
  have ho:=Gd.at_ (rfl:(Kf C.w.params).lookup 202 = some _)
  refine zbn (slots:=["code","lead"]) (np:=1) ho rfl rfl rfl (codeRec_of Gd.inK (by rw [Gd.K]; rfl)) Gd.lim (zf0 (by decide) (by decide) (by decide) rfl rfl rfl) (zi2 fun _=>rfl) fun L=>?_
  exact (zab (zag (zbc [] rfl) (zaj 1 rfl rfl rfl) rfl)
    (zab (ze2 1000 (zay (zaa 0 rfl rfl rfl rfl) zal zsu rfl) (zab (zag (zat (zax (zbc [32,9] rfl) (zat (zaa 0 rfl rfl rfl rfl) zal zhs) (fun _ _=>rfl)) (zaa 1 rfl rfl rfl rfl) zbi) (zaj 1 rfl rfl rfl) rfl)
    (zab (zag (zat (zaa 0 rfl rfl rfl rfl) zal zj8) (zaj 0 rfl rfl rfl) rfl)
    zah)))
    (zab (zbd (zaa 1 rfl rfl rfl rfl))
    zah)))
variable {C:Cfg}
noncomputable def zfa:Fn:=runF 2 3 (seqS (asgS (zcc "str" zt7 (cst (.str [])) (zac (flz (zbo 1 [] (valI (lcl 0)) (stE 0) (cstB true) (bin addA (cst (.str [92])) (lcl 0)))) zaf)) (stE 2)) (seqS (retS (bin zaq (flz (lstE (zac (bin addA (bin addA (cst (.str [34])) (lcl 0)) (cst (.str [34]))) (zac (lcl 2) (zac (bin addA (bin addA (cst (.str [34])) (lcl 2)) (cst (.str [34]))) zaf))))) (lcl 1))) nilS))
theorem zlh (Gd:Good C):zc1 C 5 (.ref 183) zfa:=by
  have ho:=Gd.at_ (rfl:(Kf C.w.params).lookup 183 = some _)
  refine zbn (slots:=["word","way","escaped"]) (np:=2) ho rfl rfl rfl (codeRec_of Gd.inK (by rw [Gd.K]; rfl)) Gd.lim (zf0 (by decide) (by decide) (by decide) rfl rfl rfl) (zg1 fun _ _=>rfl) fun L=>?_
  exact (zab (zag (zbu (zbc [] rfl) (zad (za7 (zbm (owns:=["sign"]) (frees:=[]) (tt:=false) (za4 (zaa 0 rfl rfl rfl rfl)) (fun _=>rfl) rfl rfl (by decide) ⟨by decide,za0 rfl⟩ (zcz rfl) (by decide) (fun L=>(zap (zaj 0 rfl rfl rfl))) (fun L=>zem) (fun L=>(zat (zbc [92] rfl) (zaa 0 rfl rfl rfl rfl) zbi)))) zae rfl) zpk F.plainAttrs_str F.slot_str_join F.type_str_join rfl rfl rfl rfl) (zaj 2 rfl rfl rfl) rfl)
    (zab (zbd (zax (za7 (zbb (zad (zat (zat (zbc [34] rfl) (zaa 0 rfl rfl rfl rfl) zbi) (zbc [34] rfl) zbi) (zad (zaa 2 rfl rfl rfl rfl) (zad (zat (zat (zbc [34] rfl) (zaa 2 rfl rfl rfl rfl) zbi) (zbc [34] rfl) zbi) zae rfl) rfl) rfl))) (zaa 1 rfl rfl rfl rfl) (fun _ _=>rfl)))
    zah))
noncomputable def zft:Fn:=runF 2 4 (seqS (asgS (lcz (zzg (zac (lcl 1) zaf))) (stE 2)) (seqS (forS (valI (zas zbh (zac (zas lenF (zac (lcl 0) zaf)) zaf))) (stE 3) (seqS (zm9 (lcl 2) (bin modA (lcl 3) (zas lenF (zac (lcl 2) zaf))) (bin modA (bin zaq (lcl 0) (lcl 3)) (bin powA (cst (.int 10)) (cst (.int 6)))) zjp) nilS)) (seqS (frzS 2) (seqS (retS (lcl 2)) nilS))))
theorem znb (Gd:Good C):zc1 C 5 (.ref 178) zft:=by
  have ho:=Gd.at_ (rfl:(Kf C.w.params).lookup 178 = some _)
  refine zbn (slots:=["script","firsts","totals","k"]) (np:=2) ho rfl rfl rfl (codeRec_of Gd.inK (by rw [Gd.K]; rfl)) Gd.lim (zf0 (by decide) (by decide) (by decide) rfl rfl rfl) (zg1 fun _ _=>rfl) fun L=>?_
  exact (zab (zag (zdo (zsx (Gd.blt rfl rfl (by decide)) (zad (zaa 1 rfl rfl rfl rfl) zae rfl) rfl rfl rfl rfl rfl)) (zaj 2 rfl rfl rfl) rfl)
    (zab (zc4 (tt:=false) (za4 (zan (Gd.blt rfl rfl (by decide)) (zba _) zbt (zad (zan (Gd.blt rfl rfl (by decide)) (zar _) zci (zad (zaa 0 rfl rfl rfl rfl) zae rfl) rfl rfl rfl rfl rfl rfl) zae rfl) rfl rfl rfl rfl rfl rfl)) (zap (zaj 3 rfl rfl rfl)) (zab (zou (zaa 2 rfl rfl rfl rfl) (zat (zaa 3 rfl rfl rfl rfl) (zan (Gd.blt rfl rfl (by decide)) (zar _) zci (zad (zaa 2 rfl rfl rfl rfl) zae rfl) rfl rfl rfl rfl rfl rfl) zhs) (zat (zax (zaa 0 rfl rfl rfl rfl) (zaa 3 rfl rfl rfl rfl) (fun _ _=>rfl)) (zat zal zal zym) zhs) zh9 (fun _ _ _=>rfl))
    zah) (fun _=>rfl))
    (ze8 2 (zab (zbd (zaa 2 rfl rfl rfl rfl))
    zah))))
noncomputable def zed:Fn:=runF 2 6 (seqS (asgS (lcz (lstE zaf)) (stE 2)) (seqS (forS (valI (zas zbh (zac (cst (.int 1)) (zac (bin addA (lcl 1) (cst (.int 1))) zaf)))) (stE 3) (seqS (asgS (cst (.int 0)) (stE 4)) (seqS (forS (valI (lcl 0)) (stE 5) (seqS (iteS (tru (bin eqA (lcl 5) (cst (.str [9])))) (seqS (asgS (bin subA (bin addA (lcl 4) (lcl 3)) (bin modA (lcl 4) (lcl 3))) (stE 4)) nilS) (seqS (asgS (bin addA (lcl 4) (cst (.int 1))) (stE 4)) nilS)) nilS)) (seqS (zcl (zcc "list" zca (lcl 2) (zac (lcl 4) zaf))) nilS)))) (seqS (frzS 2) (seqS (retS (lcl 2)) nilS))))
theorem zli (Gd:Good C):zc1 C 5 (.ref 190) zed:=by
  have ho:=Gd.at_ (rfl:(Kf C.w.params).lookup 190 = some _)
  refine zbn (slots:=["lead","top","row","size","column","sign"]) (np:=2) ho rfl rfl rfl (codeRec_of Gd.inK (by rw [Gd.K]; rfl)) Gd.lim (zf0 (by decide) (by decide) (by decide) rfl rfl rfl) (zg1 fun _ _=>rfl) fun L=>?_
  exact (zab (zag (zdo (zbb zae)) (zaj 2 rfl rfl rfl) rfl)
    (zab (zc4 (tt:=false) (za4 (zan (Gd.blt rfl rfl (by decide)) (zba _) zbt (zad zal (zad (zat (zaa 1 rfl rfl rfl rfl) zal zbi) zae rfl) rfl) rfl rfl rfl rfl rfl rfl)) (zap (zaj 3 rfl rfl rfl)) (zab (zag zal (zaj 4 rfl rfl rfl) rfl)
    (zab (zc4 (tt:=false) (za4 (zaa 0 rfl rfl rfl rfl)) (zap (zaj 5 rfl rfl rfl)) (zab (zbq (zay (zaa 5 rfl rfl rfl rfl) (zbc [9] rfl) zel rfl) (zab (zag (zat (zat (zaa 4 rfl rfl rfl rfl) (zaa 3 rfl rfl rfl rfl) zbi) (zat (zaa 4 rfl rfl rfl rfl) (zaa 3 rfl rfl rfl rfl) zhs) zgt) (zaj 4 rfl rfl rfl) rfl)
    zah) (zab (zag (zat (zaa 4 rfl rfl rfl rfl) zal zbi) (zaj 4 rfl rfl rfl) rfl)
    zah))
    zah) (fun _=>rfl))
    (zab (zbp (zbu (zaa 2 rfl rfl rfl rfl) (zad (zaa 4 rfl rfl rfl rfl) zae rfl) zc6 F.plainAttrs_list F.slot_list_append F.type_list_append rfl rfl rfl rfl) rfl rfl)
    zah))) (fun _=>rfl))
    (ze8 2 (zab (zbd (zaa 2 rfl rfl rfl rfl))
    zah))))
noncomputable def ze6:Fn:=runF 2 2 (seqS (retS (bin eqA (flz (zbo 2 [] (zipI (lcl 0) (lcl 1)) (tupT 2 (zd4 (stE 0) (zd4 (stE 1) nilT))) (tru (bin geA (lcl 0) (lcl 1))) (lcl 0))) (flz (lstE zaf)))) nilS)
theorem zpc (Gd:Good C):zc1 C 5 (.ref 195) ze6:=by
  have ho:=Gd.at_ (rfl:(Kf C.w.params).lookup 195 = some _)
  refine zbn (slots:=["one","other"]) (np:=2) ho rfl rfl rfl (codeRec_of Gd.inK (by rw [Gd.K]; rfl)) Gd.lim (zf0 (by decide) (by decide) (by decide) rfl rfl rfl) (zg1 fun _ _=>rfl) fun L=>?_
  exact (zab (zbd (zmk (za7 (zbm (owns:=["a","b"]) (frees:=[]) (tt:=true) (zv2 (Gd.blt rfl rfl (by decide)) (zaa 0 rfl rfl rfl rfl) (zaa 1 rfl rfl rfl rfl) rfl rfl rfl rfl rfl rfl) (fun _=>rfl) rfl rfl (by decide) ⟨by decide,za0 rfl⟩ (zcz rfl) (by decide) (fun L=>(zfu (zcv (zap (zaj 0 rfl rfl rfl)) (zcv (zap (zaj 1 rfl rfl rfl)) zgi)) rfl)) (fun L=>(zdd (zay (zaa 0 rfl rfl rfl rfl) (zaa 1 rfl rfl rfl rfl) zno rfl))) (fun L=>(zaa 0 rfl rfl rfl rfl)))) (za7 (zbb zae)) zel rfl))
    zah)
noncomputable def zcm:Fn:=runF 1 7 (seqS (asgS (lcz (lstE (zac (cst (.int 0)) zaf))) (stE 1)) (seqS (forS (valI (zas zbh (zac (cst (.int 1)) (zac (bin shlA (cst (.int 1)) (zas lenF (zac (lcl 0) zaf))) zaf)))) (stE 2) (seqS (asgS (bin subA (zcc "int" zrr (lcl 2) zaf) (cst (.int 1))) (stE 3)) (seqS (asgS (bin subA (lcl 2) (bin shlA (cst (.int 1)) (lcl 3))) (stE 4)) (seqS (asgS (bin zaq (lcl 1) (lcl 4)) (stE 5)) (seqS (forS (valI (bin zaq (lcl 0) (lcl 3))) (stE 6) (seqS (iteS (tru (bin andA (bin shrA (lcl 4) (lcl 6)) (cst (.int 1)))) (seqS (asgS (zas maxF (zac (lcl 5) (zac (bin addA (bin zaq (lcl 1) (bin subA (lcl 4) (bin shlA (cst (.int 1)) (lcl 6)))) (cst (.int 1))) zaf))) (stE 5)) nilS) nilS) nilS)) (seqS (zcl (zcc "list" zca (lcl 1) (zac (lcl 5) zaf))) nilS)))))) (seqS (retS (bin zaq (lcl 1) (una negA (cst (.int 1))))) nilS)))
theorem zjb (Gd:Good C):zc1 C 5 (.ref 224) zcm:=by
  have ho:=Gd.at_ (rfl:(Kf C.w.params).lookup 224 = some _)
  refine zbn (slots:=["apart","best","mask","i","rest","most","j"]) (np:=1) ho rfl rfl rfl (codeRec_of Gd.inK (by rw [Gd.K]; rfl)) Gd.lim (zf0 (by decide) (by decide) (by decide) rfl rfl rfl) (zi2 fun _=>rfl) fun L=>?_
  exact (zab (zag (zdo (zbb (zad zal zae rfl))) (zaj 1 rfl rfl rfl) rfl)
    (zab (zc4 (tt:=false) (za4 (zan (Gd.blt rfl rfl (by decide)) (zba _) zbt (zad zal (zad (zat zal (zan (Gd.blt rfl rfl (by decide)) (zar _) zci (zad (zaa 0 rfl rfl rfl rfl) zae rfl) rfl rfl rfl rfl rfl rfl) zos) zae rfl) rfl) rfl rfl rfl rfl rfl rfl)) (zap (zaj 2 rfl rfl rfl)) (zab (zag (zat (zsz (zaa 2 rfl rfl rfl rfl) zae rfl rfl rfl rfl) zal zgt) (zaj 3 rfl rfl rfl) rfl)
    (zab (zag (zat (zaa 2 rfl rfl rfl rfl) (zat zal (zaa 3 rfl rfl rfl rfl) zos) zgt) (zaj 4 rfl rfl rfl) rfl)
    (zab (zag (zax (zaa 1 rfl rfl rfl rfl) (zaa 4 rfl rfl rfl rfl) (fun _ _=>rfl)) (zaj 5 rfl rfl rfl) rfl)
    (zab (zc4 (tt:=false) (za4 (zax (zaa 0 rfl rfl rfl rfl) (zaa 3 rfl rfl rfl rfl) (fun _ _=>rfl))) (zap (zaj 6 rfl rfl rfl)) (zab (zbq (zc5 (zat (zat (zaa 4 rfl rfl rfl rfl) (zaa 6 rfl rfl rfl rfl) zsr) zal zyn) rfl) (zab (zag (zan (Gd.blt rfl rfl (by decide)) (zar _) zmg (zad (zaa 5 rfl rfl rfl rfl) (zad (zat (zax (zaa 1 rfl rfl rfl rfl) (zat (zaa 4 rfl rfl rfl rfl) (zat zal (zaa 6 rfl rfl rfl rfl) zos) zgt) (fun _ _=>rfl)) zal zbi) zae rfl) rfl) rfl rfl rfl rfl rfl rfl) (zaj 5 rfl rfl rfl) rfl)
    zah) zah)
    zah) (fun _=>rfl))
    (zab (zbp (zbu (zaa 1 rfl rfl rfl rfl) (zad (zaa 5 rfl rfl rfl rfl) zae rfl) zc6 F.plainAttrs_list F.slot_list_append F.type_list_append rfl rfl rfl rfl) rfl rfl)
    zah))))) (fun _=>rfl))
    (zab (zbd (zax (zaa 1 rfl rfl rfl rfl) (zmj zal zot) (fun _ _=>rfl)))
    zah)))
variable {C:Cfg}
noncomputable def znc:Fn:=runF 2 9 (seqS (zee 1 0 (lcl 1) (lcl 0)) (seqS (zvm (tupE (zac (cst (.str [32])) (zac (cst (.str [9])) zaf))) 2 3) (seqS (asgS (lcz (lstE zaf)) (stE 4)) (seqS (asg3 (cst (.int 0)) (stE 5) (stE 6) (stE 7)) (seqS (forS (valI (attE 1 0 (lcl 0))) (stE 8) (seqS (iteS (tru (bin eqA (lcl 8) (lcl 2))) (seqS (asgS (bin addA (lcl 6) (cst (.int 1))) (stE 6)) (seqS (asgS (bin addA (lcl 5) (cst (.int 1))) (stE 5)) nilS)) (seqS (iteS (tru (bin eqA (lcl 8) (lcl 3))) (seqS (asgS (bin addA (lcl 6) (cst (.int 1))) (stE 6)) (seqS (asgS (bin addA (lcl 7) (cst (.int 1))) (stE 7)) (seqS (iteS (tru (bin geA (lcl 5) (zas lenF (zac (lcl 4) zaf)))) (seqS (asgS (lcz (catL (lcl 4) (flz (mulL (flz (lstE (zac (cst (.int 0)) zaf))) (bin addA (bin subA (lcl 5) (zas lenF (zac (lcl 4) zaf))) (cst (.int 1))))))) (stE 4)) nilS) nilS) (seqS (subS (bin addA (bin zaq (lcl 4) (lcl 5)) (cst (.int 1))) (lcl 4) (lcl 5)) (seqS (asgS (cst (.int 0)) (stE 5)) nilS))))) (seqS brS nilS)) nilS)) nilS)) (seqS (zee 1 1 (lcl 6) (lcl 0)) (seqS (zee 1 2 (lcl 7) (lcl 0)) (seqS (frzS 4) (seqS (zee 1 3 (tupE (zac (zas zrx (zac (lcl 4) zaf)) (zac (lcl 5) zaf))) (lcl 0)) (seqS (zee 1 4 (bin leA (zas lenF (zac (lcl 4) zaf)) (cst (.int 1))) (lcl 0)) nilS))))))))))
theorem zxe (Gd:Good C):zc1 C 5 (.ref 115) znc:=by
  have ho:=Gd.at_ (rfl:(Kf C.w.params).lookup 115 = some _)
  refine zbn (slots:=["self","ws","S","T","count","b","n","nt","ch"]) (np:=2) ho rfl rfl rfl (codeRec_of Gd.inK (by rw [Gd.K]; rfl)) Gd.lim (zf0 (by decide) (by decide) (by decide) rfl rfl rfl) (zg1 fun _ _=>rfl) fun L=>?_
  exact (zab (zcx 1 0 Gd.clsW (by rw [Gd.fldW]; rfl) (zaa 1 rfl rfl rfl rfl) (zaa 0 rfl rfl rfl rfl) rfl)
    (zab (zsw 2 3 (ze9 (zad (zkb (mc:=.type "type") (cs:=[32]) Gd.inK (Gd.glob rfl) (by rw [Gd.K]; rfl) (by rw [Gd.K]; exact ⟨_,rfl⟩) rfl rfl rfl rfl rfl rfl) (zad (zkb (mc:=.type "type") (cs:=[9]) Gd.inK (Gd.glob rfl) (by rw [Gd.K]; rfl) (by rw [Gd.K]; exact ⟨_,rfl⟩) rfl rfl rfl rfl rfl rfl) zae rfl) rfl)) rfl rfl rfl rfl rfl rfl rfl)
    (zab (zag (zdo (zbb zae)) (zaj 4 rfl rfl rfl) rfl)
    (zab (znq zal (zap (zaj 5 rfl rfl rfl)) (zap (zaj 6 rfl rfl rfl)) (zap (zaj 7 rfl rfl rfl)) rfl rfl)
    (zab (zc4 (tt:=false) (za4 (zby 1 0 Gd.clsW (by rw [Gd.fldW]; rfl) (zaa 0 rfl rfl rfl rfl) rfl)) (zap (zaj 8 rfl rfl rfl)) (zab (zbq (zay (zaa 8 rfl rfl rfl rfl) (zaa 2 rfl rfl rfl rfl) zel rfl) (zab (zag (zat (zaa 6 rfl rfl rfl rfl) zal zbi) (zaj 6 rfl rfl rfl) rfl)
    (zab (zag (zat (zaa 5 rfl rfl rfl rfl) zal zbi) (zaj 5 rfl rfl rfl) rfl)
    zah)) (zab (zbq (zay (zaa 8 rfl rfl rfl rfl) (zaa 3 rfl rfl rfl rfl) zel rfl) (zab (zag (zat (zaa 6 rfl rfl rfl rfl) zal zbi) (zaj 6 rfl rfl rfl) rfl)
    (zab (zag (zat (zaa 7 rfl rfl rfl rfl) zal zbi) (zaj 7 rfl rfl rfl) rfl)
    (zab (zbq (zay (zaa 5 rfl rfl rfl rfl) (zan (Gd.blt rfl rfl (by decide)) (zar _) zci (zad (zaa 4 rfl rfl rfl rfl) zae rfl) rfl rfl rfl rfl rfl rfl) zno rfl) (zab (zag (zdo (zmi (zaa 4 rfl rfl rfl rfl) (za7 (zpm (za7 (zbb (zad zal zae rfl))) (zat (zat (zaa 5 rfl rfl rfl rfl) (zan (Gd.blt rfl rfl (by decide)) (zar _) zci (zad (zaa 4 rfl rfl rfl rfl) zae rfl) rfl rfl rfl rfl rfl rfl) zgt) zal zbi))))) (zaj 4 rfl rfl rfl) rfl)
    zah) zah)
    (zab (zcw (zat (zax (zaa 4 rfl rfl rfl rfl) (zaa 5 rfl rfl rfl rfl) (fun _ _=>rfl)) zal zbi) (zaa 4 rfl rfl rfl rfl) (zaa 5 rfl rfl rfl rfl) rfl)
    (zab (zag zal (zaj 5 rfl rfl rfl) rfl)
    zah))))) (zab zlu
    zah))
    zah))
    zah) (fun _=>rfl))
    (zab (zcx 1 1 Gd.clsW (by rw [Gd.fldW]; rfl) (zaa 6 rfl rfl rfl rfl) (zaa 0 rfl rfl rfl rfl) rfl)
    (zab (zcx 1 2 Gd.clsW (by rw [Gd.fldW]; rfl) (zaa 7 rfl rfl rfl rfl) (zaa 0 rfl rfl rfl rfl) rfl)
    (ze8 4 (zab (zcx 1 3 Gd.clsW (by rw [Gd.fldW]; rfl) (ze9 (zad (zan (Gd.blt rfl rfl (by decide)) (zba _) zsq (zad (zaa 4 rfl rfl rfl rfl) zae rfl) rfl rfl rfl rfl rfl rfl) (zad (zaa 5 rfl rfl rfl rfl) zae rfl) rfl)) (zaa 0 rfl rfl rfl rfl) rfl)
    (zab (zcx 1 4 Gd.clsW (by rw [Gd.fldW]; rfl) (zmk (zan (Gd.blt rfl rfl (by decide)) (zar _) zci (zad (zaa 4 rfl rfl rfl rfl) zae rfl) rfl rfl rfl rfl rfl rfl) zal zxm rfl) (zaa 0 rfl rfl rfl rfl) rfl)
    zah))))))))))
noncomputable def zbj:Fn:=runF 1 3 (seqS (asgS (attE 1 3 (lcl 0)) (tupT 2 (zd4 (stE 1) (zd4 (stE 2) nilT)))) (seqS (retS (zas maxF (zac (bin subA (zas lenF (zac (lcl 1) zaf)) (cst (.int 1))) (zac (lcl 2) zaf)))) nilS))
theorem zeb (Gd:Good C):zc1 C 5 (.ref 122) zbj:=by
  have ho:=Gd.at_ (rfl:(Kf C.w.params).lookup 122 = some _)
  refine zbn (slots:=["self","count","trailing"]) (np:=1) ho rfl rfl rfl (codeRec_of Gd.inK (by rw [Gd.K]; rfl)) Gd.lim (zf0 (by decide) (by decide) (by decide) rfl rfl rfl) (zi2 fun _=>rfl) fun L=>?_
  exact (zab (zg6 (zby 1 3 Gd.clsW (by rw [Gd.fldW]; rfl) (zaa 0 rfl rfl rfl rfl) rfl) (zfu (zcv (zap (zaj 1 rfl rfl rfl)) (zcv (zap (zaj 2 rfl rfl rfl)) zgi)) rfl) rfl rfl rfl)
    (zab (zbd (zan (Gd.blt rfl rfl (by decide)) (zar _) zmg (zad (zat (zan (Gd.blt rfl rfl (by decide)) (zar _) zci (zad (zaa 1 rfl rfl rfl rfl) zae rfl) rfl rfl rfl rfl rfl rfl) zal zgt) (zad (zaa 2 rfl rfl rfl rfl) zae rfl) rfl) rfl rfl rfl rfl rfl rfl))
    zah))
noncomputable def zb1:Fn:=runF 2 6 (seqS (asgS (attE 1 3 (lcl 0)) (tupT 2 (zd4 (stE 2) (zd4 (stE 3) nilT)))) (seqS (asgS (cst (.int 0)) (stE 4)) (seqS (forS (valI (zas zbh (zac (lcl 1) (zac (zas lenF (zac (lcl 2) zaf)) zaf)))) (stE 5) (seqS (asgS (bin addA (lcl 4) (bin mulA (bin fdvA (lcl 5) (lcl 1)) (bin zaq (lcl 2) (lcl 5)))) (stE 4)) nilS)) (seqS (retS (bin addA (lcl 3) (bin mulA (lcl 1) (bin addA (lcl 4) (attE 1 2 (lcl 0)))))) nilS))))
theorem zg2 (Gd:Good C):zc1 C 5 (.ref 129) zb1:=by
  have ho:=Gd.at_ (rfl:(Kf C.w.params).lookup 129 = some _)
  refine zbn (slots:=["self","tabsize","count","trailing","il","i"]) (np:=2) ho rfl rfl rfl (codeRec_of Gd.inK (by rw [Gd.K]; rfl)) Gd.lim (zf0 (by decide) (by decide) (by decide) rfl rfl rfl) (zg1 fun _ _=>rfl) fun L=>?_
  exact (zab (zg6 (zby 1 3 Gd.clsW (by rw [Gd.fldW]; rfl) (zaa 0 rfl rfl rfl rfl) rfl) (zfu (zcv (zap (zaj 2 rfl rfl rfl)) (zcv (zap (zaj 3 rfl rfl rfl)) zgi)) rfl) rfl rfl rfl)
    (zab (zag zal (zaj 4 rfl rfl rfl) rfl)
    (zab (zc4 (tt:=false) (za4 (zan (Gd.blt rfl rfl (by decide)) (zba _) zbt (zad (zaa 1 rfl rfl rfl rfl) (zad (zan (Gd.blt rfl rfl (by decide)) (zar _) zci (zad (zaa 2 rfl rfl rfl rfl) zae rfl) rfl rfl rfl rfl rfl rfl) zae rfl) rfl) rfl rfl rfl rfl rfl rfl)) (zap (zaj 5 rfl rfl rfl)) (zab (zag (zat (zaa 4 rfl rfl rfl rfl) (zat (zat (zaa 5 rfl rfl rfl rfl) (zaa 1 rfl rfl rfl rfl) zj8) (zax (zaa 2 rfl rfl rfl rfl) (zaa 5 rfl rfl rfl rfl) (fun _ _=>rfl)) zmf) zbi) (zaj 4 rfl rfl rfl) rfl)
    zah) (fun _=>rfl))
    (zab (zbd (zat (zaa 3 rfl rfl rfl rfl) (zat (zaa 1 rfl rfl rfl rfl) (zat (zaa 4 rfl rfl rfl rfl) (zby 1 2 Gd.clsW (by rw [Gd.fldW]; rfl) (zaa 0 rfl rfl rfl rfl) rfl) zbi) zmf) zbi))
    zah))))
noncomputable def zhk:Fn:=runF 2 4 (seqS (iteS (tru (bin geA (attE 1 1 (lcl 0)) (attE 1 1 (lcl 1)))) (seqS (retS (cst (.bool false))) nilS) nilS) (seqS (iteS (andB (tru (attE 1 4 (lcl 0))) (andB (tru (attE 1 4 (lcl 1))) (cstB true))) (seqS (retS (bin leA (attE 1 2 (lcl 0)) (attE 1 2 (lcl 1)))) nilS) nilS) (seqS (asgS (bin addA (zas maxF (zac (zcj 1 zbj (lcl 0) zaf) (zac (zcj 1 zbj (lcl 1) zaf) zaf))) (cst (.int 1))) (stE 2)) (seqS (forS (valI (zas zbh (zac (cst (.int 2)) (zac (bin addA (lcl 2) (cst (.int 1))) zaf)))) (stE 3) (seqS (iteS (tru (bin geA (zcj 1 zb1 (lcl 0) (zac (lcl 3) zaf)) (zcj 1 zb1 (lcl 1) (zac (lcl 3) zaf)))) (seqS (retS (cst (.bool false))) nilS) nilS) nilS)) (seqS (retS (cst (.bool true))) nilS)))))
theorem zxd (Gd:Good C):zc1 C 10 (.ref 150) zhk:=by
  have ho:=Gd.at_ (rfl:(Kf C.w.params).lookup 150 = some _)
  refine zbn (slots:=["self","other","n","ts"]) (np:=2) ho rfl rfl rfl (codeRec_of Gd.inK (by rw [Gd.K]; rfl)) Gd.lim (zf0 (by decide) (by decide) (by decide) rfl rfl rfl) (zg1 fun _ _=>rfl) fun L=>?_
  exact (zab (zbq (zay (zby 1 1 Gd.clsW (by rw [Gd.fldW]; rfl) (zaa 0 rfl rfl rfl rfl) rfl) (zby 1 1 Gd.clsW (by rw [Gd.fldW]; rfl) (zaa 1 rfl rfl rfl rfl) rfl) zno rfl) (zab (zbd zds)
    zah) zah)
    (zab (zbq (zd6 (zbk (zc5 (zby 1 4 Gd.clsW (by rw [Gd.fldW]; rfl) (zaa 0 rfl rfl rfl rfl) rfl) rfl) (zbk (zc5 (zby 1 4 Gd.clsW (by rw [Gd.fldW]; rfl) (zaa 1 rfl rfl rfl rfl) rfl) rfl) zdu))) (zab (zbd (zmk (zby 1 2 Gd.clsW (by rw [Gd.fldW]; rfl) (zaa 0 rfl rfl rfl rfl) rfl) (zby 1 2 Gd.clsW (by rw [Gd.fldW]; rfl) (zaa 1 rfl rfl rfl rfl) rfl) zxm rfl))
    zah) zah)
    (zab (zag (zat (zan (Gd.blt rfl rfl (by decide)) (zar _) zmg (zad (zbr 1 Gd.clsW (zaa 0 rfl rfl rfl rfl) zae (SimF.le (by decide) (zeb Gd).fn) (za5 Gd.inK (by rw [Gd.K]; rfl)) (by rw [Gd.K,Gd.c1]; rfl) (by rw [Gd.K]; rfl) (by rw [Gd.fldW]; decide) rfl rfl rfl rfl) (zad (zbr 1 Gd.clsW (zaa 1 rfl rfl rfl rfl) zae (SimF.le (by decide) (zeb Gd).fn) (za5 Gd.inK (by rw [Gd.K]; rfl)) (by rw [Gd.K,Gd.c1]; rfl) (by rw [Gd.K]; rfl) (by rw [Gd.fldW]; decide) rfl rfl rfl rfl) zae rfl) rfl) rfl rfl rfl rfl rfl rfl) zal zbi) (zaj 2 rfl rfl rfl) rfl)
    (zab (zc4 (tt:=false) (za4 (zan (Gd.blt rfl rfl (by decide)) (zba _) zbt (zad zal (zad (zat (zaa 2 rfl rfl rfl rfl) zal zbi) zae rfl) rfl) rfl rfl rfl rfl rfl rfl)) (zap (zaj 3 rfl rfl rfl)) (zab (zbq (zay (zbr 1 Gd.clsW (zaa 0 rfl rfl rfl rfl) (zad (zaa 3 rfl rfl rfl rfl) zae rfl) (SimF.le (by decide) (zg2 Gd).fn) (za5 Gd.inK (by rw [Gd.K]; rfl)) (by rw [Gd.K,Gd.c1]; rfl) (by rw [Gd.K]; rfl) (by rw [Gd.fldW]; decide) rfl rfl rfl rfl) (zbr 1 Gd.clsW (zaa 1 rfl rfl rfl rfl) (zad (zaa 3 rfl rfl rfl rfl) zae rfl) (SimF.le (by decide) (zg2 Gd).fn) (za5 Gd.inK (by rw [Gd.K]; rfl)) (by rw [Gd.K,Gd.c1]; rfl) (by rw [Gd.K]; rfl) (by rw [Gd.fldW]; decide) rfl rfl rfl rfl) zno rfl) (zab (zbd zds)
    zah) zah)
    zah) (fun _=>rfl))
    (zab (zbd zds)
    zah)))))
noncomputable def zj0:Fn:=runF 2 2 (seqS (zee 0 0 (cst (.int 1)) (lcl 0)) (seqS (zee 0 1 (lcl 1) (lcl 0)) (seqS (zee 0 2 (cst (.str [10,9,13,32])) (lcl 0)) (seqS (zee 0 3 (lcz (lstE zaf)) (lcl 0)) nilS))))
theorem zxf (Gd:Good C):zc1 C 5 (.ref 70) zj0:=by
  have ho:=Gd.at_ (rfl:(Kf C.w.params).lookup 70 = some _)
  refine zbn (slots:=["self","fp"]) (np:=2) ho rfl rfl rfl (codeRec_of Gd.inK (by rw [Gd.K]; rfl)) Gd.lim (zf0 (by decide) (by decide) (by decide) rfl rfl rfl) (zg1 fun _ _=>rfl) fun L=>?_
  exact (zab (zcx 0 0 Gd.clsL (by rw [Gd.fldL]; rfl) zal (zaa 0 rfl rfl rfl rfl) rfl)
    (zab (zcx 0 1 Gd.clsL (by rw [Gd.fldL]; rfl) (zaa 1 rfl rfl rfl rfl) (zaa 0 rfl rfl rfl rfl) rfl)
    (zab (zcx 0 2 Gd.clsL (by rw [Gd.fldL]; rfl) (zbc [10,9,13,32] rfl) (zaa 0 rfl rfl rfl rfl) rfl)
    (zab (zcx 0 3 Gd.clsL (by rw [Gd.fldL]; rfl) (zdo (zbb zae)) (zaa 0 rfl rfl rfl rfl) rfl)
    zah))))
variable {C:Cfg}
noncomputable def zeu:Fn:=runF 1 7 (seqS (asgS (lcz (mulL (flz (lstE (zac (tupE zaf) zaf))) (zas lenF (zac (lcl 0) zaf)))) (stE 1)) (seqS (asgS (lcz (zbo 1 [0] (valI (zas zbh (zac (zas lenF (zac (lcl 0) zaf)) zaf))) (stE 0) (tru (bin eqA (bin zaq (lcl 1) (lcl 0)) (flz (lstE zaf)))) (tupE (zac (tupE zaf) (zac (lcl 0) zaf))))) (stE 2)) (seqS (zcl (zas zf1 (zac (lcl 2) zaf))) (seqS (asgS (lcz (lstE zaf)) (stE 3)) (seqS (zcd (tru (lcl 2)) (seqS (asgS (zas zfg (zac (lcl 2) zaf)) (tupT 2 (zd4 (stE 4) (zd4 (stE 5) nilT)))) (seqS (zcl (zcc "list" zca (lcl 3) (zac (lcl 5) zaf))) (seqS (forS (valI (zas zbh (zac (zas lenF (zac (lcl 0) zaf)) zaf))) (stE 6) (seqS (iteS (tru (bin inA (lcl 5) (bin zaq (lcl 0) (lcl 6)))) (seqS (subS (bin addA (tupE (zac (zas lenF (zac (lcl 3) zaf)) zaf)) (bin zaq (lcl 1) (lcl 6))) (lcl 1) (lcl 6)) (seqS (iteS (tru (bin eqA (zas lenF (zac (bin zaq (lcl 1) (lcl 6)) zaf)) (zas lenF (zac (bin zaq (lcl 0) (lcl 6)) zaf)))) (seqS (zcl (zas ze5 (zac (lcl 2) (zac (tupE (zac (bin zaq (lcl 1) (lcl 6)) (zac (lcl 6) zaf))) zaf)))) nilS) nilS) nilS)) nilS) nilS)) nilS))) 1000) (seqS (frzS 3) (seqS (retS (lcl 3)) nilS)))))))
theorem zk5 (Gd:Good C):zc1 C 20 (.ref 207) zeu:=by
  have ho:=Gd.at_ (rfl:(Kf C.w.params).lookup 207 = some _)
  refine zbn (slots:=["nexts","rows","heap","order","row","k","i"]) (np:=1) ho rfl rfl rfl (codeRec_of Gd.inK (by rw [Gd.K]; rfl)) Gd.lim (zf0 (by decide) (by decide) (by decide) rfl rfl rfl) (zi2 fun _=>rfl) fun L=>?_
  exact (zab (zag (zdo (zpm (za7 (zbb (zad (ze9 zae) zae rfl))) (zan (Gd.blt rfl rfl (by decide)) (zar _) zci (zad (zak 0 rfl rfl rfl rfl rfl) zae rfl) rfl rfl rfl rfl rfl rfl))) (zaj 1 rfl rfl rfl) rfl)
    (zab (zfc false rfl (zap (zaj 2 rfl rfl rfl)) (owns:=["k"]) (frees:=[0]) (tt:=false) (za4 (zan (Gd.blt rfl rfl (by decide)) (zba _) zbt (zad (zan (Gd.blt rfl rfl (by decide)) (zar _) zci (zad (zak 0 rfl rfl rfl rfl rfl) zae rfl) rfl rfl rfl rfl rfl rfl) zae rfl) rfl rfl rfl rfl rfl rfl)) (fun _=>rfl) rfl rfl (by decide) ⟨by decide,za0 rfl⟩ (zcz rfl) (by decide) (fun L=>(zap (zaj 0 rfl rfl rfl))) (fun L=>(zdd (zay (zax (zak 1 rfl rfl rfl rfl rfl) (zaa 0 rfl rfl rfl rfl) (fun _ _=>rfl)) (za7 (zbb zae)) zel rfl))) (fun L=>(ze9 (zad (ze9 zae) (zad (zaa 0 rfl rfl rfl rfl) zae rfl) rfl))))
    (zab (zbp (zan (Gd.glob rfl) (za5 Gd.inK (by rw [Gd.K]; rfl)) (SimF.le (by decide) (zon Gd).fn) (zad (zaa 2 rfl rfl rfl rfl) zae rfl) rfl rfl rfl rfl rfl rfl) rfl rfl)
    (zab (zag (zdo (zbb zae)) (zaj 3 rfl rfl rfl) rfl)
    (zab (ze2 1000 (zc5 (zaa 2 rfl rfl rfl rfl) rfl) (zab (zg6 (zan (Gd.glob rfl) (za5 Gd.inK (by rw [Gd.K]; rfl)) (SimF.le (by decide) (zk3 Gd).fn) (zad (zaa 2 rfl rfl rfl rfl) zae rfl) rfl rfl rfl rfl rfl rfl) (zfu (zcv (zap (zaj 4 rfl rfl rfl)) (zcv (zap (zaj 5 rfl rfl rfl)) zgi)) rfl) rfl rfl rfl)
    (zab (zbp (zbu (zaa 3 rfl rfl rfl rfl) (zad (zaa 5 rfl rfl rfl rfl) zae rfl) zc6 F.plainAttrs_list F.slot_list_append F.type_list_append rfl rfl rfl rfl) rfl rfl)
    (zab (zc4 (tt:=false) (za4 (zan (Gd.blt rfl rfl (by decide)) (zba _) zbt (zad (zan (Gd.blt rfl rfl (by decide)) (zar _) zci (zad (zak 0 rfl rfl rfl rfl rfl) zae rfl) rfl rfl rfl rfl rfl rfl) zae rfl) rfl rfl rfl rfl rfl rfl)) (zap (zaj 6 rfl rfl rfl)) (zab (zbq (zay (zaa 5 rfl rfl rfl rfl) (zax (zak 0 rfl rfl rfl rfl rfl) (zaa 6 rfl rfl rfl rfl) (fun _ _=>rfl)) zpl rfl) (zab (zcw (zat (ze9 (zad (zan (Gd.blt rfl rfl (by decide)) (zar _) zci (zad (zaa 3 rfl rfl rfl rfl) zae rfl) rfl rfl rfl rfl rfl rfl) zae rfl)) (zax (zaa 1 rfl rfl rfl rfl) (zaa 6 rfl rfl rfl rfl) (fun _ _=>rfl)) zbi) (zaa 1 rfl rfl rfl rfl) (zaa 6 rfl rfl rfl rfl) rfl)
    (zab (zbq (zay (zan (Gd.blt rfl rfl (by decide)) (zar _) zci (zad (zax (zaa 1 rfl rfl rfl rfl) (zaa 6 rfl rfl rfl rfl) (fun _ _=>rfl)) zae rfl) rfl rfl rfl rfl rfl rfl) (zan (Gd.blt rfl rfl (by decide)) (zar _) zci (zad (zax (zak 0 rfl rfl rfl rfl rfl) (zaa 6 rfl rfl rfl rfl) (fun _ _=>rfl)) zae rfl) rfl rfl rfl rfl rfl rfl) zel rfl) (zab (zbp (zan (Gd.glob rfl) (za5 Gd.inK (by rw [Gd.K]; rfl)) (SimF.le (by decide) (zmb Gd).fn) (zad (zaa 2 rfl rfl rfl rfl) (zad (ze9 (zad (zax (zaa 1 rfl rfl rfl rfl) (zaa 6 rfl rfl rfl rfl) (fun _ _=>rfl)) (zad (zaa 6 rfl rfl rfl rfl) zae rfl) rfl)) zae rfl) rfl) rfl rfl rfl rfl rfl rfl) rfl rfl)
    zah) zah)
    zah)) zah)
    zah) (fun _=>rfl))
    zah))))
    (ze8 3 (zab (zbd (zaa 3 rfl rfl rfl rfl))
    zah)))))))
noncomputable def zb4:Fn:=runF 2 9 (seqS (asgS (zas zbh (zac (zas lenF (zac (lcl 1) zaf)) zaf)) (stE 2)) (seqS (asgS (lcz (zbo 1 [0,1,2] (valI (lcl 2)) (stE 0) (tru (bin eqA (flz (zbo 1 [0,1] (valI (lcl 3)) (stE 0) (tru (bin zaq (bin zaq (lcl 2) (lcl 0)) (lcl 1))) (lcl 0))) (flz (lstE zaf)))) (tupE (zac (una negA (zcc "list" zgz (lcl 2) (zac (lcl 0) zaf))) (zac (lcl 0) zaf))))) (stE 3)) (seqS (zcl (zas zf1 (zac (lcl 3) zaf))) (seqS (asgS (lcz (lstE zaf)) (stE 4)) (seqS (asgS (flz (lstE zaf)) (stE 5)) (seqS (zcd (tru (lcl 3)) (seqS (asgS (lcz (lstE (zac (bin zaq (zas zfg (zac (lcl 3) zaf)) (cst (.int 1))) zaf))) (stE 6)) (seqS (iteS (tru (lcl 3)) (seqS (zcl (zcc "list" zca (lcl 6) (zac (bin zaq (zas zfg (zac (lcl 3) zaf)) (cst (.int 1))) zaf))) nilS) nilS) (seqS (frzS 6) (seqS (asgS (flz (catL (lcl 5) (lcl 6))) (stE 5)) (seqS (zcl (zcc "list" zca (lcl 4) (zac (lcl 6) zaf))) (seqS (forS (valI (lcl 2)) (stE 7) (seqS (asgS (flz (zbo 1 [0,7] (valI (lcl 2)) (stE 0) (tru (bin zaq (bin zaq (lcl 1) (lcl 0)) (lcl 2))) (lcl 0))) (stE 8)) (seqS (iteS (andB (tru (bin neA (flz (zbo 1 [6] (valI (lcl 8)) (stE 0) (tru (bin inA (lcl 0) (lcl 1))) (lcl 0))) (flz (lstE zaf)))) (andB (tru (bin eqA (flz (zbo 1 [5] (valI (lcl 8)) (stE 0) (tru (bin niA (lcl 0) (lcl 1))) (lcl 0))) (flz (lstE zaf)))) (cstB true))) (seqS (zcl (zas ze5 (zac (lcl 3) (zac (tupE (zac (una negA (zcc "list" zgz (lcl 1) (zac (lcl 7) zaf))) (zac (lcl 7) zaf))) zaf)))) nilS) nilS) nilS))) nilS)))))) 1000) (seqS (frzS 4) (seqS (retS (lcl 4)) nilS))))))))
theorem zh3 (Gd:Good C):zc1 C 20 (.ref 217) zb4:=by
  have ho:=Gd.at_ (rfl:(Kf C.w.params).lookup 217 = some _)
  refine zbn (slots:=["ahead","order","places","free","plan","done","hour","k","before"]) (np:=2) ho rfl rfl rfl (codeRec_of Gd.inK (by rw [Gd.K]; rfl)) Gd.lim (zf0 (by decide) (by decide) (by decide) rfl rfl rfl) (zg1 fun _ _=>rfl) fun L=>?_
  exact (zab (zag (zan (Gd.blt rfl rfl (by decide)) (zba _) zbt (zad (zan (Gd.blt rfl rfl (by decide)) (zar _) zci (zad (zak 1 rfl rfl rfl rfl rfl) zae rfl) rfl rfl rfl rfl rfl rfl) zae rfl) rfl rfl rfl rfl rfl rfl) (zbg 2 rfl rfl rfl rfl) rfl)
    (zab (zfc false rfl (zap (zaj 3 rfl rfl rfl)) (owns:=["k"]) (frees:=[0,1,2]) (tt:=false) (za4 (zak 2 rfl rfl rfl rfl rfl)) (fun _=>rfl) rfl rfl (by decide) ⟨by decide,za0 rfl⟩ (zcz rfl) (by decide) (fun L=>(zap (zbg 0 rfl rfl rfl rfl))) (fun L=>(zdd (zay (za7 (zbm (owns:=["i"]) (frees:=[0,1]) (tt:=false) (za4 (zak 3 rfl rfl rfl rfl rfl)) (fun _=>rfl) rfl rfl (by decide) ⟨by decide,za0 rfl⟩ (zcz rfl) (by decide) (fun L=>(zap (zaj 0 rfl rfl rfl))) (fun L=>(zdd (zc5 (zax (zax (zak 2 rfl rfl rfl rfl rfl) (zaa 0 rfl rfl rfl rfl) (fun _ _=>rfl)) (zak 1 rfl rfl rfl rfl rfl) (fun _ _=>rfl)) rfl))) (fun L=>(zaa 0 rfl rfl rfl rfl)))) (za7 (zbb zae)) zel rfl))) (fun L=>(ze9 (zad (zmj (zbu (zak 2 rfl rfl rfl rfl rfl) (zad (zak 0 rfl rfl rfl rfl rfl) zae rfl) zj6 F.plainAttrs_list F.slot_list_index F.type_list_index rfl rfl rfl rfl) zot) (zad (zak 0 rfl rfl rfl rfl rfl) zae rfl) rfl))))
    (zab (zbp (zan (Gd.glob rfl) (za5 Gd.inK (by rw [Gd.K]; rfl)) (SimF.le (by decide) (zon Gd).fn) (zad (zaa 3 rfl rfl rfl rfl) zae rfl) rfl rfl rfl rfl rfl rfl) rfl rfl)
    (zab (zag (zdo (zbb zae)) (zaj 4 rfl rfl rfl) rfl)
    (zab (zag (za7 (zbb zae)) (zbg 5 rfl rfl rfl rfl) rfl)
    (zab (ze2 1000 (zc5 (zaa 3 rfl rfl rfl rfl) rfl) (zab (zag (zdo (zbb (zad (zax (zan (Gd.glob rfl) (za5 Gd.inK (by rw [Gd.K]; rfl)) (SimF.le (by decide) (zk3 Gd).fn) (zad (zaa 3 rfl rfl rfl rfl) zae rfl) rfl rfl rfl rfl rfl rfl) zal (fun _ _=>rfl)) zae rfl))) (zbg 6 rfl rfl rfl rfl) rfl)
    (zab (zbq (zc5 (zaa 3 rfl rfl rfl rfl) rfl) (zab (zbp (zbu (zak 6 rfl rfl rfl rfl rfl) (zad (zax (zan (Gd.glob rfl) (za5 Gd.inK (by rw [Gd.K]; rfl)) (SimF.le (by decide) (zk3 Gd).fn) (zad (zaa 3 rfl rfl rfl rfl) zae rfl) rfl rfl rfl rfl rfl rfl) zal (fun _ _=>rfl)) zae rfl) zc6 F.plainAttrs_list F.slot_list_append F.type_list_append rfl rfl rfl rfl) rfl rfl)
    zah) zah)
    (ze8 6 (zab (zag (za7 (zmi (zak 5 rfl rfl rfl rfl rfl) (zak 6 rfl rfl rfl rfl rfl))) (zbg 5 rfl rfl rfl rfl) rfl)
    (zab (zbp (zbu (zaa 4 rfl rfl rfl rfl) (zad (zak 6 rfl rfl rfl rfl rfl) zae rfl) zc6 F.plainAttrs_list F.slot_list_append F.type_list_append rfl rfl rfl rfl) rfl rfl)
    (zab (zc4 (tt:=false) (za4 (zak 2 rfl rfl rfl rfl rfl)) (zap (zbg 7 rfl rfl rfl rfl)) (zab (zfc true rfl (zap (zaj 8 rfl rfl rfl)) (owns:=["i"]) (frees:=[0,7]) (tt:=false) (za4 (zak 2 rfl rfl rfl rfl rfl)) (fun _=>rfl) rfl rfl (by decide) ⟨by decide,za0 rfl⟩ (zcz rfl) (by decide) (fun L=>(zap (zaj 0 rfl rfl rfl))) (fun L=>(zdd (zc5 (zax (zax (zak 1 rfl rfl rfl rfl rfl) (zaa 0 rfl rfl rfl rfl) (fun _ _=>rfl)) (zak 2 rfl rfl rfl rfl rfl) (fun _ _=>rfl)) rfl))) (fun L=>(zaa 0 rfl rfl rfl rfl)))
    (zab (zbq (zd6 (zbk (zay (za7 (zbm (owns:=["i"]) (frees:=[6]) (tt:=false) (za4 (zaa 8 rfl rfl rfl rfl)) (fun _=>rfl) rfl rfl (by decide) ⟨by decide,za0 rfl⟩ (zcz rfl) (by decide) (fun L=>(zap (zaj 0 rfl rfl rfl))) (fun L=>(zdd (zay (zaa 0 rfl rfl rfl rfl) (zak 1 rfl rfl rfl rfl rfl) zpl rfl))) (fun L=>(zaa 0 rfl rfl rfl rfl)))) (za7 (zbb zae)) zf4 rfl) (zbk (zay (za7 (zbm (owns:=["i"]) (frees:=[5]) (tt:=false) (za4 (zaa 8 rfl rfl rfl rfl)) (fun _=>rfl) rfl rfl (by decide) ⟨by decide,za0 rfl⟩ (zcz rfl) (by decide) (fun L=>(zap (zaj 0 rfl rfl rfl))) (fun L=>(zdd (zay (zaa 0 rfl rfl rfl rfl) (zak 1 rfl rfl rfl rfl rfl) zxl rfl))) (fun L=>(zaa 0 rfl rfl rfl rfl)))) (za7 (zbb zae)) zel rfl) zdu))) (zab (zbp (zan (Gd.glob rfl) (za5 Gd.inK (by rw [Gd.K]; rfl)) (SimF.le (by decide) (zmb Gd).fn) (zad (zaa 3 rfl rfl rfl rfl) (zad (ze9 (zad (zmj (zbu (zak 1 rfl rfl rfl rfl rfl) (zad (zak 7 rfl rfl rfl rfl rfl) zae rfl) zj6 F.plainAttrs_list F.slot_list_index F.type_list_index rfl rfl rfl rfl) zot) (zad (zak 7 rfl rfl rfl rfl rfl) zae rfl) rfl)) zae rfl) rfl) rfl rfl rfl rfl rfl rfl) rfl rfl)
    zah) zah)
    zah)) (fun _=>rfl))
    zah)))))))
    (ze8 4 (zab (zbd (zaa 4 rfl rfl rfl rfl))
    zah))))))))
variable {C:Cfg}
noncomputable def za8:Fn:=runF 1 2 (seqS (asgS (ztb (attE 0 1 (lcl 0)) (zac (cst (.int 1)) zaf)) (stE 1)) (seqS (iteS (tru (bin eqA (lcl 1) (cst (.str [10])))) (seqS (zpb 0 0 (lcl 0) (cst (.int 1)) zjp) nilS) nilS) (seqS (retS (lcl 1)) nilS)))
theorem zej (Gd:Good C) (hS:C.strm = StrmP C.w.params):zc1 C 15 (.ref 77) za8:=by
  have ho:=Gd.at_ (rfl:(Kf C.w.params).lookup 77 = some _)
  refine zbn (slots:=["self","ch"]) (np:=1) ho rfl rfl rfl (codeRec_of Gd.inK (by rw [Gd.K]; rfl)) Gd.lim (zf0 (by decide) (by decide) (by decide) rfl rfl rfl) (zi2 fun _=>rfl) fun L=>?_
  exact (zab (zag (zsy Gd hS (zby 0 1 Gd.clsL (by rw [Gd.fldL]; rfl) (zaa 0 rfl rfl rfl rfl) rfl) (zad zal zae rfl) rfl rfl rfl rfl) (zaj 1 rfl rfl rfl) rfl)
    (zab (zbq (zay (zaa 1 rfl rfl rfl rfl) (zbc [10] rfl) zel rfl) (zab (znp 0 0 Gd.clsL (by rw [Gd.fldL]; rfl) (zaa 0 rfl rfl rfl rfl) zal zh9)
    zah) zah)
    (zab (zbd (zaa 1 rfl rfl rfl rfl))
    zah)))
noncomputable def zau:Fn:=runF 1 4 (seqS (iteS (tru (attE 0 3 (lcl 0))) (seqS (retS (zcc "list" popF (attE 0 3 (lcl 0)) (zac (cst (.int 0)) zaf))) nilS) nilS) (seqS (asgS (cst (.str [])) (stE 1)) (seqS (asgS (zqf 0 (lcl 0)) (stE 2)) (seqS (zm1 1000 (lcl 2) za8 (stE 3) (seqS (iteS (tru (bin inA (lcl 3) (attE 0 2 (lcl 0)))) (seqS ctS nilS) nilS) (seqS (iteS (tru (bin eqA (lcl 3) (cst (.str [34])))) (seqS (zm1 1000 (lcl 2) za8 (stE 3) (seqS (iteS (tru (bin eqA (lcl 3) (cst (.str [34])))) (seqS (retS (lcl 1)) nilS) (seqS (iteS (tru (bin eqA (lcl 3) (cst (.str [92])))) (seqS (asgS (zcj 0 za8 (lcl 0) zaf) (stE 3)) nilS) nilS) nilS)) (seqS (augS 1 (lcl 3) zjp) nilS))) nilS) (seqS (iteS (tru (bin eqA (lcl 3) (cst (.str [92])))) (seqS (asgS (zcj 0 za8 (lcl 0) zaf) (stE 3)) nilS) nilS) (seqS (augS 1 (lcl 3) zjp) (seqS (zm1 1000 (lcl 2) za8 (stE 3) (seqS (iteS (tru (bin inA (lcl 3) (attE 0 2 (lcl 0)))) (seqS (retS (lcl 1)) nilS) (seqS (iteS (tru (bin eqA (lcl 3) (cst (.str [92])))) (seqS (asgS (zcj 0 za8 (lcl 0) zaf) (stE 3)) nilS) nilS) nilS)) (seqS (augS 1 (lcl 3) zjp) nilS))) nilS)))) nilS))) (seqS (retS (lcl 1)) nilS)))))
theorem zdi (Gd:Good C) (hS:C.strm = StrmP C.w.params):zc1 C 25 (.ref 84) zau:=by
  have ho:=Gd.at_ (rfl:(Kf C.w.params).lookup 84 = some _)
  obtain ⟨o9,fd9,h9,h9b⟩:=Gd.readAt
  refine zbn (slots:=["self","token","fiter","ch"]) (np:=1) ho rfl rfl rfl (codeRec_of Gd.inK (by rw [Gd.K]; rfl)) Gd.lim (zf0 (by decide) (by decide) (by decide) rfl rfl rfl) (zi2 fun _=>rfl) fun L=>?_
  exact (zab (zbq (zc5 (zby 0 3 Gd.clsL (by rw [Gd.fldL]; rfl) (zaa 0 rfl rfl rfl rfl) rfl) rfl) (zab (zbd (zbu (zby 0 3 Gd.clsL (by rw [Gd.fldL]; rfl) (zaa 0 rfl rfl rfl rfl) rfl) (zad zal zae rfl) zss F.plainAttrs_list F.slot_list_pop F.type_list_pop rfl rfl rfl rfl))
    zah) zah)
    (zab (zag (zbc [] rfl) (zaj 1 rfl rfl rfl) rfl)
    (zab (zag (zqz 0 Gd.clsL (Gd.blt rfl rfl (by decide)) Gd.rdf (zaa 0 rfl rfl rfl rfl) (by rw [Gd.K,Gd.c0]; rfl) (by rw [Gd.K]; rfl) (by rw [Gd.K]; rfl) (by rw [Gd.K]; rfl) (by decide) (by rw [Gd.fldL]; decide) rfl rfl rfl rfl rfl rfl rfl) (zaj 2 rfl rfl rfl) rfl)
    (zab (zj9 1000 h9 h9b (by rw [Gd.rdf]; exact zc1.le (by decide) (zej Gd hS)) (zaa 2 rfl rfl rfl rfl) (zap (zaj 3 rfl rfl rfl)) (zab (zbq (zay (zaa 3 rfl rfl rfl rfl) (zby 0 2 Gd.clsL (by rw [Gd.fldL]; rfl) (zaa 0 rfl rfl rfl rfl) rfl) zpl rfl) (zab zib
    zah) zah)
    (zab (zbq (zay (zaa 3 rfl rfl rfl rfl) (zbc [34] rfl) zel rfl) (zab (zj9 1000 h9 h9b (by rw [Gd.rdf]; exact zc1.le (by decide) (zej Gd hS)) (zaa 2 rfl rfl rfl rfl) (zap (zaj 3 rfl rfl rfl)) (zab (zbq (zay (zaa 3 rfl rfl rfl rfl) (zbc [34] rfl) zel rfl) (zab (zbd (zaa 1 rfl rfl rfl rfl))
    zah) (zab (zbq (zay (zaa 3 rfl rfl rfl rfl) (zbc [92] rfl) zel rfl) (zab (zag (zbr 0 Gd.clsL (zaa 0 rfl rfl rfl rfl) zae (SimF.le (by decide) (zej Gd hS).fn) (za5 Gd.inK (by rw [Gd.K]; rfl)) (by rw [Gd.K,Gd.c0]; rfl) (by rw [Gd.K]; rfl) (by rw [Gd.fldL]; decide) rfl rfl rfl rfl) (zaj 3 rfl rfl rfl) rfl)
    zah) zah)
    zah))
    (zab (zmh 1 rfl rfl rfl (zaa 3 rfl rfl rfl rfl) zh9)
    zah)) (fun _=>rfl))
    zah) (zab (zbq (zay (zaa 3 rfl rfl rfl rfl) (zbc [92] rfl) zel rfl) (zab (zag (zbr 0 Gd.clsL (zaa 0 rfl rfl rfl rfl) zae (SimF.le (by decide) (zej Gd hS).fn) (za5 Gd.inK (by rw [Gd.K]; rfl)) (by rw [Gd.K,Gd.c0]; rfl) (by rw [Gd.K]; rfl) (by rw [Gd.fldL]; decide) rfl rfl rfl rfl) (zaj 3 rfl rfl rfl) rfl)
    zah) zah)
    (zab (zmh 1 rfl rfl rfl (zaa 3 rfl rfl rfl rfl) zh9)
    (zab (zj9 1000 h9 h9b (by rw [Gd.rdf]; exact zc1.le (by decide) (zej Gd hS)) (zaa 2 rfl rfl rfl rfl) (zap (zaj 3 rfl rfl rfl)) (zab (zbq (zay (zaa 3 rfl rfl rfl rfl) (zby 0 2 Gd.clsL (by rw [Gd.fldL]; rfl) (zaa 0 rfl rfl rfl rfl) rfl) zpl rfl) (zab (zbd (zaa 1 rfl rfl rfl rfl))
    zah) (zab (zbq (zay (zaa 3 rfl rfl rfl rfl) (zbc [92] rfl) zel rfl) (zab (zag (zbr 0 Gd.clsL (zaa 0 rfl rfl rfl rfl) zae (SimF.le (by decide) (zej Gd hS).fn) (za5 Gd.inK (by rw [Gd.K]; rfl)) (by rw [Gd.K,Gd.c0]; rfl) (by rw [Gd.K]; rfl) (by rw [Gd.fldL]; decide) rfl rfl rfl rfl) (zaj 3 rfl rfl rfl) rfl)
    zah) zah)
    zah))
    (zab (zmh 1 rfl rfl rfl (zaa 3 rfl rfl rfl rfl) zh9)
    zah)) (fun _=>rfl))
    zah))))
    zah)) (fun _=>rfl))
    (zab (zbd (zaa 1 rfl rfl rfl rfl))
    zah)))))
noncomputable def zb7:Fn:=runF 2 2 (seqS (zcl (zcc "list" zca (attE 0 3 (lcl 0)) (zac (lcl 1) zaf))) nilS)
theorem zgg (Gd:Good C):zc1 C 5 (.ref 91) zb7:=by
  have ho:=Gd.at_ (rfl:(Kf C.w.params).lookup 91 = some _)
  refine zbn (slots:=["self","token"]) (np:=2) ho rfl rfl rfl (codeRec_of Gd.inK (by rw [Gd.K]; rfl)) Gd.lim (zf0 (by decide) (by decide) (by decide) rfl rfl rfl) (zg1 fun _ _=>rfl) fun L=>?_
  exact (zab (zbp (zbu (zby 0 3 Gd.clsL (by rw [Gd.fldL]; rfl) (zaa 0 rfl rfl rfl rfl) rfl) (zad (zaa 1 rfl rfl rfl rfl) zae rfl) zc6 F.plainAttrs_list F.slot_list_append F.type_list_append rfl rfl rfl rfl) rfl rfl)
    zah)
variable {C:Cfg}
noncomputable def z0a:Fn:=zze 0 4 zj0
theorem S_mkL (Gd:Good C):zc1 C 10 (.ref 94) z0a:=by
  have h:=zqx (k:=9) Gd.clsL (by rw [Gd.K,Gd.c0]; rfl) (by rw [Gd.K]; rfl) (zc1.le (by decide) (zxf Gd))
  rw [Gd.c0,Gd.fldL] at h
  exact h
noncomputable def zvd:Fn:=zty 1 5 znc
theorem S_mkW (Gd:Good C):zc1 C 10 (.ref 160) zvd:=by
  have h:=zns (k:=9) Gd.clsW (by rw [Gd.K,Gd.c1]; rfl) (by rw [Gd.K]; rfl) (zc1.le (by decide) (zxe Gd))
  rw [Gd.c1,Gd.fldW] at h
  exact h
variable {C:Cfg}
noncomputable def zcs:Fn:=runF 4 9 (seqS (forS (revI (lcl 3)) (stE 4) (seqS (zcl (zcj 0 zb7 (lcl 0) (zac (bin zaq (lcl 1) (lcl 4)) zaf))) nilS)) (seqS (asgS (lcz (lstE zaf)) (stE 5)) (seqS (asgS (flz (lstE zaf)) (stE 6)) (seqS (zcd (tru (bin ltA (zas lenF (zac (lcl 6) zaf)) (zas lenF (zac (lcl 1) zaf)))) (seqS (asgS (lcz (lstE zaf)) (stE 7)) (seqS (zcl (zcj 0 zb7 (lcl 0) (zac (cst (.str [124])) zaf))) (seqS (asgS (zcj 0 zau (lcl 0) zaf) (stE 8)) (seqS (zcd (tru (bin neA (lcl 8) (cst (.str [124])))) (seqS (asgS (zcc "list" zgz (lcl 1) (zac (lcl 8) zaf)) (stE 4)) (seqS (iteS (andB (tru (bin ltA (zas lenF (zac (lcl 7) zaf)) (cst (.int 2)))) (andB (tru (bin eqA (flz (zbo 1 [2,4,6] (valI (zas zbh (zac (zas lenF (zac (lcl 1) zaf)) zaf))) (stE 0) (andB (tru (bin zaq (bin zaq (lcl 1) (lcl 0)) (lcl 2))) (andB (tru (bin niA (lcl 0) (lcl 3))) (cstB true))) (lcl 0))) (flz (lstE zaf)))) (cstB true))) (seqS (zcl (zcc "list" zca (lcl 7) (zac (lcl 4) zaf))) nilS) (seqS (zcl (zcj 0 zb7 (lcl 0) (zac (lcl 8) zaf))) nilS)) (seqS (asgS (zcj 0 zau (lcl 0) zaf) (stE 8)) nilS))) 1000) (seqS (frzS 7) (seqS (asgS (flz (catL (lcl 6) (lcl 7))) (stE 6)) (seqS (zcl (zcc "list" zca (lcl 5) (zac (lcl 7) zaf))) nilS))))))) 1000) (seqS (frzS 5) (seqS (retS (lcl 5)) nilS))))))
theorem zh2 (Gd:Good C) (hS:C.strm = StrmP C.w.params):zc1 C 30 (.ref 212) zcs:=by
  have ho:=Gd.at_ (rfl:(Kf C.w.params).lookup 212 = some _)
  refine zbn (slots:=["line","told","ahead","order","k","plan","done","hour","word"]) (np:=4) ho rfl rfl rfl (codeRec_of Gd.inK (by rw [Gd.K]; rfl)) Gd.lim (zf0 (by decide) (by decide) (by decide) rfl rfl rfl) (bindN4 fun _ _ _ _=>rfl) fun L=>?_
  exact (zab (zc4 (tt:=false) (zpn (Gd.blt rfl rfl (by decide)) (zaa 3 rfl rfl rfl rfl) rfl rfl rfl rfl rfl) (zap (zbg 4 rfl rfl rfl rfl)) (zab (zbp (zbr 0 Gd.clsL (zaa 0 rfl rfl rfl rfl) (zad (zax (zaa 1 rfl rfl rfl rfl) (zak 4 rfl rfl rfl rfl rfl) (fun _ _=>rfl)) zae rfl) (SimF.le (by decide) (zgg Gd).fn) (za5 Gd.inK (by rw [Gd.K]; rfl)) (by rw [Gd.K,Gd.c0]; rfl) (by rw [Gd.K]; rfl) (by rw [Gd.fldL]; decide) rfl rfl rfl rfl) rfl rfl)
    zah) (fun _=>rfl))
    (zab (zag (zdo (zbb zae)) (zaj 5 rfl rfl rfl) rfl)
    (zab (zag (za7 (zbb zae)) (zbg 6 rfl rfl rfl rfl) rfl)
    (zab (ze2 1000 (zay (zan (Gd.blt rfl rfl (by decide)) (zar _) zci (zad (zak 6 rfl rfl rfl rfl rfl) zae rfl) rfl rfl rfl rfl rfl rfl) (zan (Gd.blt rfl rfl (by decide)) (zar _) zci (zad (zaa 1 rfl rfl rfl rfl) zae rfl) rfl rfl rfl rfl rfl rfl) zpj rfl) (zab (zag (zdo (zbb zae)) (zaj 7 rfl rfl rfl) rfl)
    (zab (zbp (zbr 0 Gd.clsL (zaa 0 rfl rfl rfl rfl) (zad (zbc [124] rfl) zae rfl) (SimF.le (by decide) (zgg Gd).fn) (za5 Gd.inK (by rw [Gd.K]; rfl)) (by rw [Gd.K,Gd.c0]; rfl) (by rw [Gd.K]; rfl) (by rw [Gd.fldL]; decide) rfl rfl rfl rfl) rfl rfl)
    (zab (zag (zbr 0 Gd.clsL (zaa 0 rfl rfl rfl rfl) zae (SimF.le (by decide) (zdi Gd hS).fn) (za5 Gd.inK (by rw [Gd.K]; rfl)) (by rw [Gd.K,Gd.c0]; rfl) (by rw [Gd.K]; rfl) (by rw [Gd.fldL]; decide) rfl rfl rfl rfl) (zaj 8 rfl rfl rfl) rfl)
    (zab (ze2 1000 (zay (zaa 8 rfl rfl rfl rfl) (zbc [124] rfl) zf4 rfl) (zab (zag (zbu (zaa 1 rfl rfl rfl rfl) (zad (zaa 8 rfl rfl rfl rfl) zae rfl) zj6 F.plainAttrs_list F.slot_list_index F.type_list_index rfl rfl rfl rfl) (zbg 4 rfl rfl rfl rfl) rfl)
    (zab (zbq (zd6 (zbk (zay (zan (Gd.blt rfl rfl (by decide)) (zar _) zci (zad (zaa 7 rfl rfl rfl rfl) zae rfl) rfl rfl rfl rfl rfl rfl) zal zpj rfl) (zbk (zay (za7 (zbm (owns:=["i"]) (frees:=[2,4,6]) (tt:=false) (za4 (zan (Gd.blt rfl rfl (by decide)) (zba _) zbt (zad (zan (Gd.blt rfl rfl (by decide)) (zar _) zci (zad (zaa 1 rfl rfl rfl rfl) zae rfl) rfl rfl rfl rfl rfl rfl) zae rfl) rfl rfl rfl rfl rfl rfl)) (fun _=>rfl) rfl rfl (by decide) ⟨by decide,za0 rfl⟩ (zcz rfl) (by decide) (fun L=>(zap (zaj 0 rfl rfl rfl))) (fun L=>(zdd (zd6 (zbk (zc5 (zax (zax (zak 1 rfl rfl rfl rfl rfl) (zaa 0 rfl rfl rfl rfl) (fun _ _=>rfl)) (zak 2 rfl rfl rfl rfl rfl) (fun _ _=>rfl)) rfl) (zbk (zay (zaa 0 rfl rfl rfl rfl) (zak 3 rfl rfl rfl rfl rfl) zxl rfl) zdu))))) (fun L=>(zaa 0 rfl rfl rfl rfl)))) (za7 (zbb zae)) zel rfl) zdu))) (zab (zbp (zbu (zaa 7 rfl rfl rfl rfl) (zad (zak 4 rfl rfl rfl rfl rfl) zae rfl) zc6 F.plainAttrs_list F.slot_list_append F.type_list_append rfl rfl rfl rfl) rfl rfl)
    zah) (zab (zbp (zbr 0 Gd.clsL (zaa 0 rfl rfl rfl rfl) (zad (zaa 8 rfl rfl rfl rfl) zae rfl) (SimF.le (by decide) (zgg Gd).fn) (za5 Gd.inK (by rw [Gd.K]; rfl)) (by rw [Gd.K,Gd.c0]; rfl) (by rw [Gd.K]; rfl) (by rw [Gd.fldL]; decide) rfl rfl rfl rfl) rfl rfl)
    zah))
    (zab (zag (zbr 0 Gd.clsL (zaa 0 rfl rfl rfl rfl) zae (SimF.le (by decide) (zdi Gd hS).fn) (za5 Gd.inK (by rw [Gd.K]; rfl)) (by rw [Gd.K,Gd.c0]; rfl) (by rw [Gd.K]; rfl) (by rw [Gd.fldL]; decide) rfl rfl rfl rfl) (zaj 8 rfl rfl rfl) rfl)
    zah))))
    (ze8 7 (zab (zag (za7 (zmi (zak 6 rfl rfl rfl rfl rfl) (zaa 7 rfl rfl rfl rfl))) (zbg 6 rfl rfl rfl rfl) rfl)
    (zab (zbp (zbu (zaa 5 rfl rfl rfl rfl) (zad (zaa 7 rfl rfl rfl rfl) zae rfl) zc6 F.plainAttrs_list F.slot_list_append F.type_list_append rfl rfl rfl rfl) rfl rfl)
    zah))))))))
    (ze8 5 (zab (zbd (zaa 5 rfl rfl rfl rfl))
    zah))))))
variable {C:Cfg}
structure Good3 (C:Cfg):Prop where
  P:C.P = 166
  ch:CodeHd C.base 170 166
  bp:C.base.get? 166 = none
  bm:∃ mg,C.base.Ns mainGlobals mg∧C.base.BuiltinsAt mg 166
  tb:∀ c1 c2,C.tb c1 c2 = #[rawInt 150,rawInt 4,.ref c1,rawInt 154,rawInt 13,.ref c2]
  q1:C.q1 = "_law_lexer.<locals>._law_read_on"
  q2:C.q2 = "_law_lexer.<locals>.<lambda>"
noncomputable def zeg:Fn:=fun args hp=>on1 (onS fun txt=>z0a [.strm hp.N txt] (hp.new (.list [.int 0]))) args
theorem WR.tabMore {G G':Addr→Prop} {ρ:Ren} {hp:Hp} {s:Shared} (W:WR C G ρ hp s) {h':Heap} {tk:Nat} {ps':Array Value} (k:∀ b o,b≠C.P→s.heap.get? b = some o→h'.get? b = some o) (hg:∀ b,G' b→G b∨s.heap.get? b = Option.none)
    (ht:∀ b,G' b→∃ o,h'.get? b = some o) (hP:h'.get? C.P = some (tabObj ps')) (ok:zrv C (Own ρ hp G') h' ps') (bp:C.base.get? C.P = Option.none):WR C G' ρ hp {s with heap:=h',toks:=tk}:=by
  have U:Up C ρ ρ (Own ρ hp G) (Own ρ hp G') s.heap h':=⟨fun _ _ e=>e,fun b o e _ n=>k b o n e,fun b q=>q.elim (fun q=>.inl (.inl q)) fun q=>(hg b q).imp .inr id,W.tabAt⟩
  refine ⟨fun n o e=>?_,W.inj,W.top,W.nb,fun b q q'=>?_,ht,fun b q=>(hg b q).elim (W.gb b) fun z=>(by
    cases e:C.base.get? b with
    | none=>rfl
    | some o=>rw [W.keep b o e] at z; exact noN z),fun b o e=>k b o (fun q=>by rw [q,bp] at e; exact noS e) (W.keep b o e),W.gens,W.os,⟨ps',hP,ok⟩⟩
  · obtain ⟨m,x,e1,r⟩:=W.obj n o e
    exact ⟨m,x,e1,r.up U fun ob e=>k _ _ (r.neP W.tabAt).1 e⟩
  · rcases hg b q' with z | z
    · exact W.ng b q z
    · obtain ⟨o,e⟩:=W.lv q; rw [z] at e; exact noS e
theorem mk_fn {M:Model} {A:Around} {E:Value→Shared→Prop} {s:Shared} {name qual:Str} {params:Arguments} {body:List Stmt} {scope:Scope} {env:Env} {ps:Array Value} {pos:Pos} {fl:Nat} {mg:Str→Option Value} {clos:List (Str × Addr)} {Q:Value→Shared→Prop}
    (hcl:closureFor scope env = pure clos) (hge0:env.globals = mainGlobals) (hg:s.heap.Ns mainGlobals mg) (hcode:env.code = .ref 170) (Cd:CodeHd s.heap 170 166) (hP:s.heap.get? 166 = some (tabObj ps)) (hb:s.heap.BuiltinsAt mg 166) (ht:TriplesOk ps.toList)
    (hc:codeAmong pos ps.toList = none∨∃ c',codeAmong pos ps.toList = some (.ref c')∧s.heap.CodeRec (.ref c') qual)
    (h:∀ g c' ctv doc pm h' tk ps',(∀ b o,b≠166→s.heap.get? b = some o→h'.get? b = some o)→s.heap.get? g = none→h'.get? g = some (fnMade name qual params body scope clos doc pm c' ctv)→h'.CodeRec (.ref c') qual→h'.get? 166 = some (tabObj ps')→
      ((codeAmong pos ps.toList = none∧ps' = ps++#[rawInt pos.line,rawInt pos.col,.ref c']∧s.heap.get? c' = none)∨(ps' = ps∧codeAmong pos ps.toList = some (.ref c')))→Q (.ref g) {s with heap:=h',toks:=tk}) :
    wpAny M A (makeFunction name qual params (.stmts body) scope env [] [] [] pos fl) Q E s:=by
  have hgP:mainGlobals≠166:=by decide
  have nosz:∀ b:Addr,@LE.le Nat _ s.heap.objs.size b→s.heap.get? b = none:=fun b hb=>by
    cases q:s.heap.get? b with
    | none=>rfl
    | some o=>exact absurd (Heap.lt_size q) (Nat.not_lt.mpr hb)
  rcases hc with hc | ⟨c',hc,hrec⟩
  · refine makeFunction_K hcl hge0 hg hcode Cd hP ht hc hgP hb fun c' ctv doc h' tk hx hle hlt hrec htab=>?_
    have hsz:@LE.le Nat _ s.heap.objs.size h'.objs.size:=by have h1:@LE.le Nat _ s.heap.objs.size c':=hle; have h2:@LT.lt Nat _ c' h'.objs.size:=hlt; lia
    refine h _ c' ctv doc _ _ tk _ (fun b o hb e=>Heap.get?_push_of_some _ (hx b o hb e)) ?_ (Heap.get?_push_size _ rfl) (hrec.keeps fun b o e=>Heap.get?_push_of_some _ e) (Heap.get?_push_of_some _ htab) (.inl ⟨hc,rfl,nosz _ hle⟩)
    cases q:s.heap.get? h'.objs.size with
    | none=>rfl
    | some o=>exact absurd (Heap.lt_size q) (Nat.not_lt.mpr hsz)
  · refine makeFunction_hit hcl hge0 hg hcode Cd hP ht hc hb fun ctv doc h' tk hx hsz=>?_
    refine h _ c' ctv doc _ _ tk ps (fun b o hb e=>Heap.get?_push_of_some _ (hx b o e)) ?_ (Heap.get?_push_size _ rfl) (hrec.keeps fun b o e=>Heap.get?_push_of_some _ (hx b o e)) (Heap.get?_push_of_some _ (hx _ _ hP)) (.inr ⟨rfl,hc⟩)
    cases q:s.heap.get? h'.objs.size with
    | none=>rfl
    | some o=>exact absurd (Heap.lt_size q) (Nat.not_lt.mpr hsz)
theorem mk_lam {M:Model} {A:Around} {E:Value→Shared→Prop} {s:Shared} {name qual:Str} {params:Arguments} {body:Expr} {scope:Scope} {env:Env} {ps:Array Value} {pos:Pos} {fl:Nat} {mg:Str→Option Value} {clos:List (Str × Addr)} {Q:Value→Shared→Prop}
    (hcl:closureFor scope env = pure clos) (hge0:env.globals = mainGlobals) (hg:s.heap.Ns mainGlobals mg) (hcode:env.code = .ref 170) (Cd:CodeHd s.heap 170 166) (hP:s.heap.get? 166 = some (tabObj ps)) (hb:s.heap.BuiltinsAt mg 166) (ht:TriplesOk ps.toList)
    (hc:codeAmong pos ps.toList = none∨∃ c',codeAmong pos ps.toList = some (.ref c')∧s.heap.CodeRec (.ref c') qual)
    (h:∀ g c' ctv pm h' tk ps',(∀ b o,b≠166→s.heap.get? b = some o→h'.get? b = some o)→s.heap.get? g = none→h'.get? g = some (kla_obj name qual params body scope clos pm c' ctv)→h'.CodeRec (.ref c') qual→h'.get? 166 = some (tabObj ps')→
      ((codeAmong pos ps.toList = none∧ps' = ps++#[rawInt pos.line,rawInt pos.col,.ref c']∧s.heap.get? c' = none)∨(ps' = ps∧codeAmong pos ps.toList = some (.ref c')))→Q (.ref g) {s with heap:=h',toks:=tk}) :
    wpAny M A (makeFunction name qual params (.expr body) scope env [] [] [] pos fl) Q E s:=by
  have hgP:mainGlobals≠166:=by decide
  have nosz:∀ b:Addr,@LE.le Nat _ s.heap.objs.size b→s.heap.get? b = none:=fun b hb=>by
    cases q:s.heap.get? b with
    | none=>rfl
    | some o=>exact absurd (Heap.lt_size q) (Nat.not_lt.mpr hb)
  rcases hc with hc | ⟨c',hc,hrec⟩
  · refine kla_makeFunction hcl hge0 hg hcode Cd hP ht hc hgP hb fun c' ctv h' tk hx hle hlt hrec htab=>?_
    have hsz:@LE.le Nat _ s.heap.objs.size h'.objs.size:=by have h1:@LE.le Nat _ s.heap.objs.size c':=hle; have h2:@LT.lt Nat _ c' h'.objs.size:=hlt; lia
    refine h _ c' ctv _ _ tk _ (fun b o hb e=>Heap.get?_push_of_some _ (hx b o hb e)) ?_ (Heap.get?_push_size _ rfl) (hrec.keeps fun b o e=>Heap.get?_push_of_some _ e) (Heap.get?_push_of_some _ htab) (.inl ⟨hc,rfl,nosz _ hle⟩)
    cases q:s.heap.get? h'.objs.size with
    | none=>rfl
    | some o=>exact absurd (Heap.lt_size q) (Nat.not_lt.mpr hsz)
  · refine kla_makeFunctionHit hcl hge0 hg hcode Cd hP ht hc hb fun ctv h' tk hx hsz=>?_
    refine h _ c' ctv _ _ tk ps (fun b o hb e=>Heap.get?_push_of_some _ (hx b o e)) ?_ (Heap.get?_push_size _ rfl) (hrec.keeps fun b o e=>Heap.get?_push_of_some _ (hx b o e)) (Heap.get?_push_of_some _ (hx _ _ hP)) (.inr ⟨rfl,hc⟩)
    cases q:s.heap.get? h'.objs.size with
    | none=>rfl
    | some o=>exact absurd (Heap.lt_size q) (Nat.not_lt.mpr hsz)
theorem neN {h:Heap} {a b:Addr} {o:Obj} (e:h.get? a = some o) (z:h.get? b = none):a≠b:=by
  intro q; subst q; exact noN (e.symm.trans z)
theorem neO {h:Heap} {a b:Addr} {o o':Obj} (e:h.get? a = some o) (z:h.get? b = some o') (n:o.cls≠o'.cls):a≠b:=by
  intro q; subst q; exact n (congrArg Obj.cls (Option.some.inj (e.symm.trans z)))
theorem zq9 {h:Heap} {a b:Addr} {o o':Obj} (e:h.get? a = some o) (z:h.get? b = some o') (n:o.data≠o'.data):a≠b:=by
  intro q; subst q; exact n (congrArg Obj.data (Option.some.inj (e.symm.trans z)))
theorem zxt {h h':Heap} {a:Addr} (z:h'.get? a = none) (k:∀ o,h.get? a = some o→∃ o',h'.get? a = some o'):h.get? a = none:=by
  cases q:h.get? a with
  | none=>rfl
  | some o=>obtain ⟨o',e⟩:=k o q; exact nomatch (z.symm.trans e)
theorem zkm {h h':Heap} {a:Addr} (z:h'.get? a = none) (k:∀ o,h.get? a = some o→h'.get? a = some o):h.get? a = none:=zxt z fun o e=>⟨o,k o e⟩
theorem zk2 (Gd:Good C) (hS:C.strm = StrmP C.w.params) (G3:Good3 C):zc1 C 15 (.ref 171) zeg:=by
  have ho:=Gd.at_ (rfl:(Kf C.w.params).lookup 171 = some _)
  intro A G a args hp v hp' e ρ s vs W r
  apply on1R ?_ e r; clear e r; intro _ w r e
  apply onSR ?_ r e; clear r e; intro txt t e
  refine codeAny_call_cells (binds:=[(("text" : Str),.str ⟨txt.toArray⟩ t)]) a.room (W.keep _ _ ho) rfl (Gd.lim.keeps W.keep) ((codeRec_of Gd.inK (by rw [Gd.K]; rfl)).keeps W.keep) rfl rfl rfl
    (fun x hx=>.inr (by rw [List.mem_singleton.mp hx]; exact ⟨rfl,rfl⟩)) (fun s₁ I=>?_) rfl rfl rfl
  obtain ⟨h1,tk1,rfl,hk1⟩:=I.done
  have ct1:=I.cell "text" (s.heap.objs.size + 1) rfl
  have ca1:=I.cell "at" (s.heap.objs.size + 1 + 1) rfl
  have ns1:=I.toInCall.ns
  have ct1:h1.IsCell (s.heap.objs.size + 1) (some (.str ⟨txt.toArray⟩ t)):=ct1
  have ca1:h1.IsCell (s.heap.objs.size + 1 + 1) none:=ca1
  clear I
  refine wpAny_execs_cons (wpAny_Assign_Name (wpAny_List (wpAny_items_cons (wpAny_Constant_int (wpAny_items_nil ⟨zhr (by simp),?_⟩)) rfl)) rfl)
  refine wpAny_storeName_cell rfl rfl (c:=s.heap.objs.size + 1 + 1) rfl (ca1.keeps fun b o e=>Heap.get?_push_of_some _ e) fun h2 ca2 sb2=>?_
  dsimp only at sb2 ⊢
  have nol:∀ b:Addr,@LE.le Nat _ s.heap.objs.size b→s.heap.get? b = none:=fun b hb=>by
    cases q:s.heap.get? b with
    | none=>rfl
    | some o=>exact absurd (Heap.lt_size q) (Nat.not_lt.mpr hb)
  have hPs:∃ ps,s.heap.get? 166 = some (tabObj ps)∧zrv C (Own ρ hp G) s.heap ps:=by
    obtain ⟨ps,a1,a2⟩:=W.tab
    rw [G3.P] at a1
    exact ⟨ps,a1,a2⟩
  obtain ⟨ps,tab0,tok⟩:=hPs
  obtain ⟨mg,bn,bmod⟩:=G3.bm
  -- the cell of `at` lies above; the list just made
  have hlo:h1.objs.size = h1.objs.size:=rfl
  generalize hL:s.heap.objs.size = L at *
  generalize hl:h1.objs.size = l at *
  have k2:∀ b o,s.heap.get? b = some o→h2.get? b = some o:=fun b o e=>by
    exact (sb2.2 b (neN e (nol _ (Nat.le_succ_of_le (Nat.le_succ L))))).trans (Heap.get?_push_of_some _ (hk1 b o e))
  have ca1':∃ o,h1.get? (L + 1 + 1) = some o:=let ⟨o,e,_⟩:=ca1; ⟨o,e⟩
  have lca:l≠L + 1 + 1:=by
    obtain ⟨o,e⟩:=ca1'
    exact Nat.ne_of_gt (hl ▸ Heap.lt_size e)
  have hl2:h2.get? l = some (listOf [Value.int 0 tk1].toArray 0):=by
    refine (sb2.2 l lca).trans ?_
    rw [← hl]; exact Heap.get?_push_size _ rfl
  have cta:L + 1≠L + 1 + 1:=Nat.ne_of_lt (Nat.lt_succ_self _)
  have ct2:h2.IsCell (L + 1) (some (.str ⟨txt.toArray⟩ t)):=by
    obtain ⟨o,e,d⟩:=ct1
    exact ⟨o,(sb2.2 _ cta).trans (Heap.get?_push_of_some _ e),d⟩
  have ns2:=(ns1.keeps fun b o e=>Heap.get?_push_of_some (h:=h1) ({cls:=.type "list",data:=.seq [Value.int 0 tk1].toArray}:Obj) e).sameBut sb2 (Nat.ne_of_lt (Nat.lt_succ_of_lt (Nat.lt_succ_self _)))
  have sl:s.heap.get? l = none:=by
    cases q:s.heap.get? l with
    | none=>rfl
    | some o=>exact absurd (hl ▸ Heap.lt_size (hk1 l o q)) (Nat.lt_irrefl _)
  have tab2:=k2 _ _ tab0
  have hW:=fun b o (e:C.base.get? b = some o)=>k2 b o (W.keep b o e)
  have trip:TriplesOk ps.toList:=by
    rcases tok with rfl | ⟨c1,c2,rfl,_⟩
    · trivial
    · rw [G3.tb]; trivial
  have bmk:∀ {h:Heap},(∀ b o,C.base.get? b = some o→h.get? b = some o)→h.BuiltinsAt mg 166:=fun {h} kk=>by
    obtain ⟨bm,o,b1,b2,b3,b4,b5,b6⟩:=bmod
    exact ⟨bm,o,b1,b2,b3,b4,kk _ _ b5,b6⟩
  refine wpAny_execs_cons (nestDef_K rfl rfl rfl (mk_fn (mg:=mg) (ps:=ps) rfl rfl (bn.keeps hW) rfl (G3.ch.keeps hW) tab2 (bmk hW) trip ?_ fun g c1 ctv1 doc pm h3 tk3 ps3 k3 fg3 hg3 rec3 tab3 alt3=>?_))
  · rcases tok with rfl | ⟨c1,c2,rfl,r1,r2,_⟩
    · exact .inl rfl
    · refine .inr ⟨c1,by rw [G3.tb]; rfl,?_⟩
      rw [G3.q1] at r1
      exact r1.keeps k2
  -- the name of the function
  have a166:L≠166:=(neN tab0 (nol L (Nat.le_refl _))).symm
  have ns3:=ns2.at' fun o e=>k3 _ o a166 e
  refine wpAny_storeName_local rfl ns3 (fun h4 ns4 sb4=>?_) rfl
  have fresh_ne:∀ {b:Addr} {o:Obj},s.heap.get? b = some o→b≠L:=fun {b o} e=>neN e (nol L (Nat.le_refl _))
  have gL:g≠L:=by
    obtain ⟨o,_,_,e,_⟩:=ns2
    exact (neN (h:=h2) e fg3).symm
  have k4:∀ b o,b≠166→s.heap.get? b = some o→h4.get? b = some o:=fun b o nb e=>(sb4.2 b (fresh_ne e)).trans (k3 b o nb (k2 b o e))
  have hW4:∀ b o,C.base.get? b = some o→h4.get? b = some o:=fun b o e=>k4 b o (neN e G3.bp) (W.keep b o e)
  have tab4:=(sb4.2 166 (Ne.symm a166)).trans tab3
  have hg4:=(sb4.2 g gL).trans hg3
  have rec4:h4.CodeRec (.ref c1) C.q1:=by
    rw [G3.q1]
    obtain ⟨o,vs,tq,e2,e3,e4⟩:=crec rec3
    refine ⟨c1,o,vs,tq,rfl,(sb4.2 _ fun q=>?_).trans e2,e3,e4⟩
    obtain ⟨o',_,_,e',d',_⟩:=ns3
    rw [show c1 = L from q,show h3.get? L = some o' from e'] at e2
    replace e2:=Option.some.inj e2; subst e2; rw [e3] at d'; cases (d')
  have trip4:TriplesOk ps3.toList:=by
    rcases alt3 with ⟨qn,rfl,_⟩ | ⟨rfl,_⟩
    · rcases tok with rfl | ⟨c1',c2',rfl,_⟩
      · trivial
      · rw [G3.tb] at qn; exact noN qn
    · exact trip
  refine wpAny_execs_cons (wpAny_Assign_Name (kla_eval rfl (mk_lam (mg:=mg) (ps:=ps3) rfl rfl (bn.keeps hW4) rfl (G3.ch.keeps hW4) tab4 (bmk hW4) trip4 ?_ fun f c2 ctv2 pm2 h5 tk5 ps5 k5 ff5 hf5 rec5 tab5 alt5=>?_)) rfl)
  · rcases tok with rfl | ⟨c1',c2',rfl,r1,r2,_,_,_,n2⟩
    · rcases alt3 with ⟨_,rfl,_⟩ | ⟨rfl,q⟩
      · exact .inl rfl
      · exact noS q
    · rcases alt3 with ⟨q,_⟩ | ⟨rfl,q⟩
      · rw [G3.tb] at q; exact noN q
      · refine .inr ⟨c2',by rw [G3.tb]; rfl,?_⟩
        rw [G3.q2] at r2
        obtain ⟨o,vs,tq,e2,e3,e4⟩:=crec r2
        exact ⟨c2',o,vs,tq,rfl,k4 _ _ (fun q=>n2 (q.trans G3.P.symm)) e2,e3,e4⟩
  have ns5:=ns4.at' fun o e=>k5 _ o a166 e
  refine wpAny_storeName_local rfl ns5 (fun h6 ns6 sb6=>?_) rfl
  have fL:f≠L:=by
    obtain ⟨o,_,_,e,_⟩:=ns4
    exact (neN (h:=h4) e ff5).symm
  have hf6:=(sb6.2 f fL).trans hf5
  -- stream.read = _law_read_on
  refine wpAny_execs_cons (plainObj_wpAny_Assign_Attribute (wpAny_Name (wpAny_loadName_local rfl rfl ns6 rfl (wpAny_Name (wpAny_loadName_local rfl rfl ns6 rfl (zrk hf6 fun h7 tk7 hsh t7 n7 k7 hf7 hd7=>?_))))) rfl)
  have fg3:h2.get? g = none:=fg3
  have ff5:h4.get? f = none:=ff5
  have tab5:h5.get? 166 = some (tabObj ps5):=tab5
  have k3:∀ b o,b≠166→h2.get? b = some o→h3.get? b = some o:=k3
  have k5:∀ b o,b≠166→h4.get? b = some o→h5.get? b = some o:=k5
  have k7:∀ b o,b≠f→h6.get? b = some o→h7.get? b = some o:=k7
  have hd7:h7.get? h6.objs.size = some (dictOf [⟨hsh,.str "read" t7,.ref g⟩] n7):=hd7
  have g166:g≠166:=(neN tab2 fg3).symm
  have f166:f≠166:=(neN tab4 ff5).symm
  have sg:s.heap.get? g = none:=zkm fg3 (k2 g)
  have sf:s.heap.get? f = none:=zkm ff5 fun o=>k4 f o f166
  have up4:∀ b o,b≠166→b≠L→h4.get? b = some o→h7.get? b = some o:=fun b o n1 n2 e =>
    k7 b o (neN e ff5) ((sb6.2 b n2).trans (k5 b o n1 e))
  have k7s:∀ b o,b≠166→s.heap.get? b = some o→h7.get? b = some o:=fun b o n1 e=>up4 b o n1 (fresh_ne e) (k4 b o n1 e)
  have k6s:∀ b o,s.heap.get? b = some o→∃ o',h6.get? b = some o':=fun b o e=>by
    by_cases n1:b = 166
    · subst n1; exact ⟨_,(sb6.2 _ (fresh_ne e)).trans tab5⟩
    · exact ⟨o,(sb6.2 b (fresh_ne e)).trans (k5 b o n1 (k4 b o n1 e))⟩
  have lL:l≠L:=by
    obtain ⟨o,_,_,e,d,_⟩:=ns2
    exact zq9 (h:=h2) hl2 e (by rw [d]; exact nofun)
  have l166:l≠166:=neO hl2 tab2 nofun
  have hl4:=(sb4.2 l lL).trans (k3 l _ l166 hl2)
  have hl7:=up4 l _ l166 lL hl4
  have fl:f≠l:=(neN hl4 ff5).symm
  have gl:g≠l:=(neN hl2 fg3).symm
  have hg7:=up4 g _ g166 gL hg4
  have d6:h6.get? h6.objs.size = none:=by
    cases q:h6.get? h6.objs.size with
    | none=>rfl
    | some o=>exact absurd (Heap.lt_size q) (Nat.lt_irrefl _)
  have hl6:=(sb6.2 l lL).trans (k5 l _ l166 hl4)
  have dl:h6.objs.size≠l:=(neN hl6 d6).symm
  have tab6:=(sb6.2 166 (Ne.symm a166)).trans tab5
  have d166:h6.objs.size≠166:=(neN tab6 d6).symm
  have sd:s.heap.get? h6.objs.size = none:=zxt d6 (k6s _)
  have tab7:=k7 166 _ (Ne.symm f166) tab6
  -- the two cells
  have ct7:∃ o,h7.get? (L + 1) = some o∧o.data = .cell (some (.str ⟨txt.toArray⟩ t))∧(L + 1)≠166:=by
    obtain ⟨o,e,d⟩:=ct2
    have n1:(L + 1)≠166:=zq9 (h:=h2) e tab2 (by rw [d]; exact nofun)
    exact ⟨o,up4 _ o n1 (fun q=>Nat.succ_ne_self L q) ((sb4.2 _ (fun q=>Nat.succ_ne_self L q)).trans (k3 _ o n1 e)),d,n1⟩
  have caL:L + 1 + 1≠L:=fun q=>absurd q (Nat.ne_of_gt (Nat.lt_succ_of_lt (Nat.lt_succ_self L)))
  have ca7:∃ o,h7.get? (L + 1 + 1) = some o∧o.data = .cell (some (.ref l))∧(L + 1 + 1)≠166:=by
    obtain ⟨o,e,d⟩:=ca2
    have n1:(L + 1 + 1)≠166:=zq9 (h:=h2) e tab2 (by rw [d]; exact nofun)
    exact ⟨o,up4 _ o n1 caL ((sb4.2 _ caL).trans (k3 _ o n1 e)),d,n1⟩
  obtain ⟨oct,ect,dct,nct⟩:=ct7
  obtain ⟨oca,eca,dca,nca⟩:=ca7
  have cls:(ps5 = C.tb c1 c2)∧(s.heap.get? c1 = none∨(¬ Own ρ hp G c1∧c1≠166))∧(s.heap.get? c2 = none∨(¬ Own ρ hp G c2∧c2≠166)):=by
    have fr1:h2.get? c1 = none→s.heap.get? c1 = none:=fun z=>zkm z (k2 c1)
    have fr2:h4.get? c2 = none→s.heap.get? c2 = none:=fun z=>zkm z fun o=>k4 c2 o (neN tab4 z).symm
    rcases tok with rfl | ⟨c1',c2',rfl,r1,r2,l1,l2,n1,n2⟩
    · rcases alt3 with ⟨_,rfl,z1⟩ | ⟨_,q⟩
      · rcases alt5 with ⟨_,rfl,z2⟩ | ⟨_,q⟩
        · exact ⟨by rw [G3.tb]; rfl,.inl (fr1 z1),.inl (fr2 z2)⟩
        · exact noS q
      · exact noS q
    · rcases alt3 with ⟨q,_⟩ | ⟨rfl,q⟩
      · rw [G3.tb] at q; exact noN q
      · rcases alt5 with ⟨q',_⟩ | ⟨rfl,q'⟩
        · rw [G3.tb] at q'; exact noN q'
        · rw [G3.tb] at q q'
          cases (q); cases (q')
          exact ⟨rfl,.inr ⟨l1,fun q=>n1 (q.trans G3.P.symm)⟩,.inr ⟨l2,fun q=>n2 (q.trans G3.P.symm)⟩⟩
  obtain ⟨ps5e,cl1,cl2⟩:=cls
  have c166:c1≠166:=cl1.elim (fun z=>(neN tab0 z).symm) (·.2)
  have c266:c2≠166:=cl2.elim (fun z=>(neN tab0 z).symm) (·.2)
  -- the code objects
  have rec7:h7.CodeRec (.ref c1) C.q1∧c1≠166∧c1≠L:=by
    obtain ⟨o,vs,tq,e2,e3,e4⟩:=crec rec4
    have n1:=c166
    have n2:c1≠L:=fun q=>by
      obtain ⟨o',_,_,e',d',_⟩:=ns4
      rw [show c1 = L from q,show h4.get? L = some o' from e'] at e2
      replace e2:=Option.some.inj e2; subst e2; rw [e3] at d'; cases (d')
    exact ⟨⟨c1,o,vs,tq,rfl,up4 _ o n1 n2 e2,e3,e4⟩,n1,n2⟩
  obtain ⟨rec7,_,cL⟩:=rec7
  have rec8:h7.CodeRec (.ref c2) C.q2∧c2≠166:=by
    rw [G3.q2]
    obtain ⟨o,vs,tq,e2,e3,e4⟩:=crec rec5
    have e2:h5.get? c2 = some o:=e2
    have n1:=c266
    have n2:c2≠L:=fun q=>by
      obtain ⟨o',_,_,e',d',_⟩:=ns5
      rw [show c2 = L from q,show h5.get? L = some o' from e'] at e2
      replace e2:=Option.some.inj e2; subst e2; rw [e3] at d'; cases (d')
    have n3:c2≠f:=fun q=>by
      rw [q,show h5.get? f = some _ from hf5] at e2
      replace e2:=Option.some.inj e2; subst e2; cases (e3)
    exact ⟨⟨c2,o,vs,tq,rfl,k7 _ o n3 ((sb6.2 _ n2).trans e2),e3,e4⟩,n1⟩
  obtain ⟨rec8,_⟩:=rec8
  have sct:s.heap.get? (L + 1) = none:=nol _ (Nat.le_succ L)
  have sca:s.heap.get? (L + 1 + 1) = none:=nol _ (Nat.le_succ_of_le (Nat.le_succ L))
  have nO:∀ b,s.heap.get? b = none→¬ Own ρ hp G b:=fun b z q=>by
    rcases q with q | q
    · obtain ⟨o,e⟩:=W.lv q; rw [z] at e; exact noS e
    · obtain ⟨o,e⟩:=W.gt b q; rw [z] at e; exact noS e
  have c1l:c1≠l:=by
    obtain ⟨o,vs,tq,e2,e3,e4⟩:=crec rec7
    exact zq9 e2 hl7 (by rw [e3]; exact nofun)
  have c2l:c2≠l:=by
    obtain ⟨o,vs,tq,e2,e3,e4⟩:=crec rec8
    exact zq9 e2 hl7 (by rw [e3]; exact nofun)
  have ctl:L + 1≠l:=zq9 ect hl7 (by rw [dct]; exact nofun)
  have cal:L + 1 + 1≠l:=fun q=>lca q.symm
  have lG:¬ G l:=fun q=>nO l sl (.inr q)
  have lb:C.base.get? l = none:=zkm sl (W.keep l)
  have nOl:∀ b,¬ Own ρ hp G b→b≠l→¬ Own ρ hp (plus G l) b:=fun b n1 n2 q=>q.elim (fun q=>n1 (.inl q)) fun q=>q.elim (fun q=>n1 (.inr q)) n2
  have W1:WR C (plus G l) ρ hp {s with heap:=h7,toks:=tk7}:=by
    refine WR.tabMore (G':=plus G l) W (tk:=tk7) (h':=h7) (ps':=ps5) (fun b o n e=>k7s b o (fun q=>n (q.trans G3.P.symm)) e) (fun b q=>q.elim .inl fun q=>.inr (by rw [q]; exact sl)) (fun b q=>?_) (by rw [G3.P]; exact tab7) (.inr ⟨c1,c2,ps5e,rec7,rec8,?_,?_,fun q=>c166 (q.trans G3.P),fun q=>c266 (q.trans G3.P)⟩) (by rw [G3.P]; exact G3.bp)
    · rcases q with q | rfl
      · by_cases n:b = 166
        · subst n; exact ⟨_,tab7⟩
        · obtain ⟨o,e⟩:=W.gt b q
          exact ⟨o,k7s b o n e⟩
      · exact ⟨_,hl7⟩
    · exact nOl _ (cl1.elim (nO _) (·.1)) c1l
    · exact nOl _ (cl2.elim (nO _) (·.1)) c2l
  obtain ⟨W2,lv2⟩:=W1.new (a:=l) (m:=l) (o:=.list [.int 0]) lb lG (.list (n:=0) (vs:=[.int 0 tk1]) hl7 (.cons (.int 0 tk1) .nil))
  have nO2:∀ b,¬ Own ρ hp G b→b≠l→¬ Own (ρ.new hp.N (l,l)) (hp.new (.list [.int 0])) G b:=fun b n1 n2 q=>q.elim (fun q=>(lv2 b q).elim (fun q=>n1 (.inl q)) n2) fun q=>n1 (.inr q)
  have St:Step C G (fun _=>False) ρ hp s (ρ.new hp.N (l,l)) (hp.new (.list [.int 0])) {s with heap:=h7,toks:=tk7} :=
    ⟨W2,Ren.ext_new W1 _,Nat.le_succ _,fun b o e _ n _=>k7s b o (fun q=>n (q.trans G3.P.symm)) e,fun b o e=>by
      by_cases n:b = 166
      · subst n; exact ⟨_,tab7⟩
      · exact ⟨o,k7s b o n e⟩,fun b q=>(lv2 b q).imp id fun q=>by rw [q]; exact sl⟩
  obtain ⟨oc,vsc,tqc,ec,dc,qc⟩:=crec rec7
  have Vs:VR C (ρ.new hp.N (l,l)) (Own (ρ.new hp.N (l,l)) (hp.new (.list [.int 0])) G) h7 (.strm hp.N txt) (.ref f):=by
    have key:∀ fo go,h7.get? f = some fo→h7.get? g = some go→StrmP C.w.params [(f,fo),(h6.objs.size,dictOf [⟨hsh,.str "read" t7,.ref g⟩] n7),(g,go),(c1,oc),(L + 1,oct),(L + 1 + 1,oca)] f l txt→
        VR C (ρ.new hp.N (l,l)) (Own (ρ.new hp.N (l,l)) (hp.new (.list [.int 0])) G) h7 (.strm hp.N txt) (.ref f):=fun fo go ef eg S=>by
      refine .strm (x:=l) (l:=l) (hS ▸ S) (by simp [Ren.new]) ?_
      intro p hp
      simp only [List.mem_cons,List.not_mem_nil,or_false] at hp
      have P:∀ {b},b≠166→b≠C.P:=fun n q=>n (q.trans G3.P)
      rcases hp with rfl | rfl | rfl | rfl | rfl | rfl
      · exact ⟨ef,nO2 _ (nO _ sf) fl,P f166⟩
      · exact ⟨hd7,nO2 _ (nO _ sd) dl,P d166⟩
      · exact ⟨eg,nO2 _ (nO _ sg) gl,P g166⟩
      · exact ⟨ec,nO2 _ (cl1.elim (nO _) (·.1)) c1l,P c166⟩
      · exact ⟨ect,nO2 _ (nO _ sct) ctl,P nct⟩
      · exact ⟨eca,nO2 _ (nO _ sca) cal,P nca⟩
    refine key _ _ hf7 hg7 ⟨g,_,_,_,_,_,_,_,_,c1,_,oc,vsc,tqc,L + 1,L + 1 + 1,oct,oca,t,⟨_,_,h6.objs.size,_,_,.head _,rfl,rfl,rfl,.tail _ (.head _),rfl⟩,.tail _ (.tail _ (.head _)),?_,.tail _ (.tail _ (.tail _ (.head _))),dc,?_,rfl,rfl,
        .tail _ (.tail _ (.tail _ (.tail _ (.head _)))),dct,.tail _ (.tail _ (.tail _ (.tail _ (.tail _ (.head _))))),dca⟩
    · exact ⟨_,_,_,_,_,_,rfl,rfl⟩
    · rw [G3.q1] at qc; exact qc
  have ns7:=ns6.at' fun o e=>k7 _ o (Ne.symm fL) e
  refine wpAny_execs_cons (wpAny_Return_some (wpAny_Call_Name_kw (zha (x:="_netrclex") (v:=.ref 94) W2 (Gd.glob (by rfl)) rfl rfl rfl rfl rfl ?_)))
  refine callWith_of (P:=fun h=>∀ b o,C.base.get? b = some o→h.get? b = some o) (by rfl) (fun h p=>za5 (f:=.ref 94) Gd.inK (by rw [Gd.K]; rfl) h p) ?_
  refine zfy rfl (wpAny_items_cons (wpAny_Name (wpAny_loadName_local rfl rfl ns7 rfl (wpAny_items_nil ⟨W2.keep,?_⟩))) rfl)
  exact zde ((S_mkL Gd).fn _ G ((AOk.deeper (k:=14) a _).le (by decide)) [.strm hp.N txt] (hp.new (.list [.int 0])) v hp' e (ρ.new hp.N (l,l)) {s with heap:=h7,toks:=tk7} [.ref f] W2 (.cons Vs .nil)) fun w s2 h=>zb3 St h
variable {C:Cfg}
noncomputable def zxg:Fn:=runF 1 24 (seqS (asgS (zas zft (zac (lcl 0) (zac (flz (lstE (zac (cst (.int 2)) (zac (cst (.int 67)) (zac (cst (.int 129)) (zac (cst (.int 7)) (zac (cst (.int 196)) (zac (cst (.int 74)) zaf)))))))) zaf))) (stE 1)) (seqS (asgS (flz (zbo 1 [] (valI (lcl 1)) (stE 0) (cstB true) (zas ze7 (zac (bin addA (bin modA (lcl 0) (cst (.int 63))) (cst (.int 1))) zaf)))) (stE 2)) (seqS (asgS (flz (zbo 1 [2] (valI (zas zbh (zac (cst (.int 6)) zaf))) (stE 0) (cstB true) (bin addA (bin addA (bin zaq (lcl 1) (lcl 0)) (bin zaq (cst (.str [97,98,99,100,101,102])) (lcl 0))) (cst (.str [32,9]))))) (stE 3)) (seqS (asgS (cst (.str [])) (stE 4)) (seqS (forS (valI (zas zbh (zac (cst (.int 6)) zaf))) (stE 5) (seqS (asgS (bin addA (bin addA (lcl 4) (zas zfa (zac (bin zaq (lcl 3) (lcl 5)) (zac (bin modA (bin fdvA (bin zaq (lcl 1) (lcl 5)) (cst (.int 63))) (cst (.int 3))) zaf)))) (bin zaq (flz (lstE (zac (cst (.str [10])) (zac (cst (.str [32])) zaf)))) (bin modA (bin fdvA (bin zaq (lcl 1) (lcl 5)) (cst (.int 189))) (cst (.int 2))))) (stE 4)) nilS)) (seqS (asgS (zas zeg (zac (lcl 4) zaf)) (stE 6)) (seqS (asgS (flz (zbo 1 [6] (valI (zas zbh (zac (cst (.int 6)) zaf))) (stE 0) (cstB true) (zcj 0 zau (lcl 1) zaf))) (stE 7)) (seqS (iteS (orB (tru (bin neA (lcl 7) (lcl 3))) (orB (tru (bin neA (zcj 0 zau (lcl 6) zaf) (cst (.str [])))) (orB (tru (bin neA (attE 0 0 (lcl 6)) (bin addA (cst (.int 1)) (zcc "str" zl3 (lcl 4) (zac (cst (.str [10])) zaf))))) (cstB false)))) (seqS (retS (cst (.bool false))) nilS) nilS) (seqS (asgS (flz (zbo 1 [] (valI (lcl 7)) (stE 0) (cstB true) (zas zvd (zac (lcl 0) zaf)))) (stE 8)) (seqS (asgS (flz (zbo 1 [8] (valI (lcl 8)) (stE 0) (cstB true) (flz (zbo 1 [0] (valI (lcl 1)) (stE 0) (cstB true) (zcj 1 zhk (lcl 1) (zac (lcl 0) zaf)))))) (stE 9)) (seqS (asgS (flz (zbo 1 [] (valI (lcl 2)) (stE 0) (cstB true) (zas zed (zac (lcl 0) (zac (cst (.int 6)) zaf))))) (stE 10)) (seqS (asgS (flz (zbo 1 [10] (valI (lcl 10)) (stE 0) (cstB true) (flz (zbo 1 [0] (valI (lcl 1)) (stE 0) (cstB true) (zas ze6 (zac (lcl 1) (zac (lcl 0) zaf))))))) (stE 11)) (seqS (iteS (tru (bin neA (lcl 9) (lcl 11))) (seqS (retS (cst (.bool false))) nilS) nilS) (seqS (asgS (lcz (lstE zaf)) (stE 12)) (seqS (forS (valI (zas zbh (zac (cst (.int 6)) zaf))) (stE 13) (seqS (asgS (flz (zbo 1 [9,13] (valI (zas zbh (zac (cst (.int 6)) zaf))) (stE 0) (tru (bin zaq (bin zaq (lcl 1) (lcl 2)) (lcl 0))) (lcl 0))) (stE 14)) (seqS (zcl (zcc "list" zca (lcl 12) (zac (flz (zbo 1 [9,14] (valI (lcl 14)) (stE 0) (tru (bin eqA (flz (zbo 1 [0,1] (valI (lcl 2)) (stE 0) (tru (bin zaq (bin zaq (lcl 2) (lcl 0)) (lcl 1))) (lcl 0))) (flz (lstE zaf)))) (lcl 0))) zaf))) nilS))) (seqS (frzS 12) (seqS (asgS (zas zeu (zac (lcl 12) zaf)) (stE 15)) (seqS (iteS (tru (bin neA (flz (zjs (zac (lcl 15) zaf))) (flz (lstE (zac (cst (.int 0)) (zac (cst (.int 1)) (zac (cst (.int 2)) (zac (cst (.int 3)) (zac (cst (.int 4)) (zac (cst (.int 5)) zaf)))))))))) (seqS (retS (cst (.bool false))) nilS) nilS) (seqS (asgS (zas zcs (zac (lcl 6) (zac (lcl 7) (zac (lcl 9) (zac (lcl 15) zaf))))) (stE 16)) (seqS (iteS (orB (tru (bin neA (lcl 16) (zas zb4 (zac (lcl 9) (zac (lcl 15) zaf))))) (orB (tru (bin neA (zcj 0 zau (lcl 6) zaf) (cst (.str [])))) (cstB false))) (seqS (retS (cst (.bool false))) nilS) nilS) (seqS (asgS (cst (.str [])) (stE 17)) (seqS (forS (valI (lcl 16)) (stE 18) (seqS (asgS (bin addA (bin addA (lcl 17) (zcc "str" zt7 (cst (.str [32])) (zac (flz (zbo 1 [3] (valI (lcl 18)) (stE 0) (cstB true) (bin addA (bin addA (cst (.str [34])) (bin zaq (lcl 1) (lcl 0))) (cst (.str [34]))))) zaf))) (cst (.str [10]))) (stE 17)) nilS)) (seqS (asgS (zas zeg (zac (lcl 17) zaf)) (stE 19)) (seqS (asgS (lcz (lstE zaf)) (stE 20)) (seqS (forS (valI (zas zbh (zac (cst (.int 6)) zaf))) (stE 5) (seqS (asgS (zcj 0 zau (lcl 19) zaf) (stE 21)) (seqS (zcl (zcc "list" zca (lcl 20) (zac (tupE (zac (lcl 21) (zac (attE 0 0 (lcl 19)) zaf))) zaf))) nilS))) (seqS (frzS 20) (seqS (iteS (tru (bin neA (flz (zhh (zac (flz (zbo 2 [] (valI (lcl 20)) (tupT 2 (zd4 (stE 0) (zd4 (stE 1) nilT))) (cstB true) (lcl 0))) zaf))) (flz (zhh (zac (lcl 3) zaf))))) (seqS (retS (cst (.bool false))) nilS) nilS) (seqS (asgS (flz (zbo 1 [20] (valI (lcl 3)) (stE 0) (cstB true) (bin zaq (flz (zbo 2 [0] (valI (lcl 1)) (tupT 2 (zd4 (stE 0) (zd4 (stE 1) nilT))) (tru (bin eqA (lcl 0) (lcl 2))) (lcl 1))) (cst (.int 0))))) (stE 22)) (seqS (iteS (tru (bin neA (flz (zbo 1 [22] (valI (lcl 22)) (stE 0) (tru (bin gtA (zcc "list" zks (lcl 1) (zac (lcl 0) zaf)) (cst (.int 2)))) (lcl 0))) (flz (lstE zaf)))) (seqS (retS (cst (.bool false))) nilS) nilS) (seqS (iteS (tru (bin neA (flz (zl4 2 [11,22] (valI (zas zbh (zac (cst (.int 6)) zaf))) (stE 0) (valI (zas zbh (zac (cst (.int 6)) zaf))) (stE 1) (andB (tru (bin zaq (bin zaq (lcl 2) (lcl 0)) (lcl 1))) (andB (tru (bin geA (bin zaq (lcl 3) (lcl 0)) (bin zaq (lcl 3) (lcl 1)))) (cstB true))))) (flz (lstE zaf)))) (seqS (retS (cst (.bool false))) nilS) nilS) (seqS (iteS (orB (tru (bin neA (zcj 0 zau (lcl 19) zaf) (cst (.str [])))) (orB (tru (bin neA (attE 0 0 (lcl 19)) (bin addA (zas lenF (zac (lcl 16) zaf)) (cst (.int 1))))) (cstB false))) (seqS (retS (cst (.bool false))) nilS) nilS) (seqS (asgS (flz (zbo 1 [11] (valI (zas zbh (zac (cst (.int 6)) zaf))) (stE 0) (cstB true) (flz (zbo 1 [0,1] (valI (zas zbh (zac (lcl 0) zaf))) (stE 0) (andB (notB (tru (bin zaq (bin zaq (lcl 2) (lcl 1)) (lcl 0)))) (andB (notB (tru (bin zaq (bin zaq (lcl 2) (lcl 0)) (lcl 1)))) (cstB true))) (lcl 0))))) (stE 23)) (seqS (retS (zu5 eqA eqA (zas ztw (zac (lcl 22) zaf)) (zas lenF (zac (lcl 16) zaf)) (bin subA (cst (.int 6)) (zas zcm (zac (lcl 23) zaf))))) nilS)))))))))))))))))))))))))))))))))
theorem S_law (Gd:Good C) (hS:C.strm = StrmP C.w.params) (G3:Good3 C):zc1 C 60 (.ref 229) zxg:=by
  have ho:=Gd.at_ (rfl:(Kf C.w.params).lookup 229 = some _)
  refine zbn (slots:=["script","totals","leads","words","text","k","machine","told","marks","ahead","columns","due","nexts","i","behind","order","plan","page","hour","reader","seen","word","hours","apart"]) (np:=1) ho rfl rfl rfl (codeRec_of Gd.inK (by rw [Gd.K]; rfl)) Gd.lim (zf0 (by decide) (by decide) (by decide) rfl rfl rfl) (zi2 fun _=>rfl) fun L=>?_
  exact (zab (zag (zan (Gd.glob rfl) (za5 Gd.inK (by rw [Gd.K]; rfl)) (SimF.le (by decide) (znb Gd).fn) (zad (zaa 0 rfl rfl rfl rfl) (zad (za7 (zbb (zad zal (zad zal (zad zal (zad zal (zad zal (zad zal zae rfl) rfl) rfl) rfl) rfl) rfl))) zae rfl) rfl) rfl rfl rfl rfl rfl rfl) (zaj 1 rfl rfl rfl) rfl)
    (zab (zag (za7 (zbm (owns:=["total"]) (frees:=[]) (tt:=false) (za4 (zaa 1 rfl rfl rfl rfl)) (fun _=>rfl) rfl rfl (by decide) ⟨by decide,za0 rfl⟩ (zcz rfl) (by decide) (fun L=>(zap (zaj 0 rfl rfl rfl))) (fun L=>zem) (fun L=>(zan (Gd.glob rfl) (za5 Gd.inK (by rw [Gd.K]; rfl)) (SimF.le (by decide) (zpd Gd).fn) (zad (zat (zat (zaa 0 rfl rfl rfl rfl) zal zhs) zal zbi) zae rfl) rfl rfl rfl rfl rfl rfl)))) (zbg 2 rfl rfl rfl rfl) rfl)
    (zab (zag (za7 (zbm (owns:=["k"]) (frees:=[2]) (tt:=false) (za4 (zan (Gd.blt rfl rfl (by decide)) (zba _) zbt (zad zal zae rfl) rfl rfl rfl rfl rfl rfl)) (fun _=>rfl) rfl rfl (by decide) ⟨by decide,za0 rfl⟩ (zcz rfl) (by decide) (fun L=>(zap (zaj 0 rfl rfl rfl))) (fun L=>zem) (fun L=>(zat (zat (zax (zak 1 rfl rfl rfl rfl rfl) (zaa 0 rfl rfl rfl rfl) (fun _ _=>rfl)) (zax (zbc [97,98,99,100,101,102] rfl) (zaa 0 rfl rfl rfl rfl) (fun _ _=>rfl)) zbi) (zbc [32,9] rfl) zbi)))) (zbg 3 rfl rfl rfl rfl) rfl)
    (zab (zag (zbc [] rfl) (zaj 4 rfl rfl rfl) rfl)
    (zab (zc4 (tt:=false) (za4 (zan (Gd.blt rfl rfl (by decide)) (zba _) zbt (zad zal zae rfl) rfl rfl rfl rfl rfl rfl)) (zap (zaj 5 rfl rfl rfl)) (zab (zag (zat (zat (zaa 4 rfl rfl rfl rfl) (zan (Gd.glob rfl) (za5 Gd.inK (by rw [Gd.K]; rfl)) (SimF.le (by decide) (zlh Gd).fn) (zad (zax (zak 3 rfl rfl rfl rfl rfl) (zaa 5 rfl rfl rfl rfl) (fun _ _=>rfl)) (zad (zat (zat (zax (zaa 1 rfl rfl rfl rfl) (zaa 5 rfl rfl rfl rfl) (fun _ _=>rfl)) zal zj8) zal zhs) zae rfl) rfl) rfl rfl rfl rfl rfl rfl) zbi) (zax (za7 (zbb (zad (zbc [10] rfl) (zad (zbc [32] rfl) zae rfl) rfl))) (zat (zat (zax (zaa 1 rfl rfl rfl rfl) (zaa 5 rfl rfl rfl rfl) (fun _ _=>rfl)) zal zj8) zal zhs) (fun _ _=>rfl)) zbi) (zaj 4 rfl rfl rfl) rfl)
    zah) (fun _=>rfl))
    (zab (zag (zan (Gd.glob rfl) (za5 Gd.inK (by rw [Gd.K]; rfl)) (SimF.le (by decide) (zk2 Gd hS G3).fn) (zad (zaa 4 rfl rfl rfl rfl) zae rfl) rfl rfl rfl rfl rfl rfl) (zbg 6 rfl rfl rfl rfl) rfl)
    (zab (zfc true rfl (zap (zaj 7 rfl rfl rfl)) (owns:=["k"]) (frees:=[6]) (tt:=false) (za4 (zan (Gd.blt rfl rfl (by decide)) (zba _) zbt (zad zal zae rfl) rfl rfl rfl rfl rfl rfl)) (fun _=>rfl) rfl rfl (by decide) ⟨by decide,za0 rfl⟩ (zcz rfl) (by decide) (fun L=>(zap (zaj 0 rfl rfl rfl))) (fun L=>zem) (fun L=>(zbr 0 Gd.clsL (zak 1 rfl rfl rfl rfl rfl) zae (SimF.le (by decide) (zdi Gd hS).fn) (za5 Gd.inK (by rw [Gd.K]; rfl)) (by rw [Gd.K,Gd.c0]; rfl) (by rw [Gd.K]; rfl) (by rw [Gd.fldL]; decide) rfl rfl rfl rfl)))
    (zab (zbq (zd6 (zdt (zay (zaa 7 rfl rfl rfl rfl) (zak 3 rfl rfl rfl rfl rfl) zf4 rfl) (zdt (zay (zbr 0 Gd.clsL (zak 6 rfl rfl rfl rfl rfl) zae (SimF.le (by decide) (zdi Gd hS).fn) (za5 Gd.inK (by rw [Gd.K]; rfl)) (by rw [Gd.K,Gd.c0]; rfl) (by rw [Gd.K]; rfl) (by rw [Gd.fldL]; decide) rfl rfl rfl rfl) (zbc [] rfl) zf4 rfl) (zdt (zay (zby 0 0 Gd.clsL (by rw [Gd.fldL]; rfl) (zak 6 rfl rfl rfl rfl rfl) rfl) (zat zal (zbu (zaa 4 rfl rfl rfl rfl) (zad (zbc [10] rfl) zae rfl) zsv F.plainAttrs_str F.slot_str_count F.type_str_count rfl rfl rfl rfl) zbi) zf4 rfl) zht)))) (zab (zbd zds)
    zah) zah)
    (zab (zag (za7 (zbm (owns:=["word"]) (frees:=[]) (tt:=false) (za4 (zaa 7 rfl rfl rfl rfl)) (fun _=>rfl) rfl rfl (by decide) ⟨by decide,za0 rfl⟩ (zcz rfl) (by decide) (fun L=>(zap (zaj 0 rfl rfl rfl))) (fun L=>zem) (fun L=>(zan (Gd.glob rfl) (za5 Gd.inK (by rw [Gd.K]; rfl)) (SimF.le (by decide) (S_mkW Gd).fn) (zad (zaa 0 rfl rfl rfl rfl) zae rfl) rfl rfl rfl rfl rfl rfl)))) (zbg 8 rfl rfl rfl rfl) rfl)
    (zab (zag (za7 (zbm (owns:=["one"]) (frees:=[8]) (tt:=false) (za4 (zak 8 rfl rfl rfl rfl rfl)) (fun _=>rfl) rfl rfl (by decide) ⟨by decide,za0 rfl⟩ (zcz rfl) (by decide) (fun L=>(zap (zbg 0 rfl rfl rfl rfl))) (fun L=>zem) (fun L=>(za7 (zbm (owns:=["other"]) (frees:=[0]) (tt:=false) (za4 (zak 1 rfl rfl rfl rfl rfl)) (fun _=>rfl) rfl rfl (by decide) ⟨by decide,za0 rfl⟩ (zcz rfl) (by decide) (fun L=>(zap (zaj 0 rfl rfl rfl))) (fun L=>zem) (fun L=>(zbr 1 Gd.clsW (zak 1 rfl rfl rfl rfl rfl) (zad (zaa 0 rfl rfl rfl rfl) zae rfl) (SimF.le (by decide) (zxd Gd).fn) (za5 Gd.inK (by rw [Gd.K]; rfl)) (by rw [Gd.K,Gd.c1]; rfl) (by rw [Gd.K]; rfl) (by rw [Gd.fldW]; decide) rfl rfl rfl rfl))))))) (zbg 9 rfl rfl rfl rfl) rfl)
    (zab (zag (za7 (zbm (owns:=["lead"]) (frees:=[]) (tt:=false) (za4 (zak 2 rfl rfl rfl rfl rfl)) (fun _=>rfl) rfl rfl (by decide) ⟨by decide,za0 rfl⟩ (zcz rfl) (by decide) (fun L=>(zap (zaj 0 rfl rfl rfl))) (fun L=>zem) (fun L=>(zan (Gd.glob rfl) (za5 Gd.inK (by rw [Gd.K]; rfl)) (SimF.le (by decide) (zli Gd).fn) (zad (zaa 0 rfl rfl rfl rfl) (zad zal zae rfl) rfl) rfl rfl rfl rfl rfl rfl)))) (zbg 10 rfl rfl rfl rfl) rfl)
    (zab (zag (za7 (zbm (owns:=["one"]) (frees:=[10]) (tt:=false) (za4 (zak 10 rfl rfl rfl rfl rfl)) (fun _=>rfl) rfl rfl (by decide) ⟨by decide,za0 rfl⟩ (zcz rfl) (by decide) (fun L=>(zap (zbg 0 rfl rfl rfl rfl))) (fun L=>zem) (fun L=>(za7 (zbm (owns:=["other"]) (frees:=[0]) (tt:=false) (za4 (zak 1 rfl rfl rfl rfl rfl)) (fun _=>rfl) rfl rfl (by decide) ⟨by decide,za0 rfl⟩ (zcz rfl) (by decide) (fun L=>(zap (zaj 0 rfl rfl rfl))) (fun L=>zem) (fun L=>(zan (Gd.glob rfl) (za5 Gd.inK (by rw [Gd.K]; rfl)) (SimF.le (by decide) (zpc Gd).fn) (zad (zak 1 rfl rfl rfl rfl rfl) (zad (zaa 0 rfl rfl rfl rfl) zae rfl) rfl) rfl rfl rfl rfl rfl rfl))))))) (zbg 11 rfl rfl rfl rfl) rfl)
    (zab (zbq (zay (zak 9 rfl rfl rfl rfl rfl) (zak 11 rfl rfl rfl rfl rfl) zf4 rfl) (zab (zbd zds)
    zah) zah)
    (zab (zag (zdo (zbb zae)) (zaj 12 rfl rfl rfl) rfl)
    (zab (zc4 (tt:=false) (za4 (zan (Gd.blt rfl rfl (by decide)) (zba _) zbt (zad zal zae rfl) rfl rfl rfl rfl rfl rfl)) (zap (zbg 13 rfl rfl rfl rfl)) (zab (zag (za7 (zbm (owns:=["j"]) (frees:=[9,13]) (tt:=false) (za4 (zan (Gd.blt rfl rfl (by decide)) (zba _) zbt (zad zal zae rfl) rfl rfl rfl rfl rfl rfl)) (fun _=>rfl) rfl rfl (by decide) ⟨by decide,za0 rfl⟩ (zcz rfl) (by decide) (fun L=>(zap (zaj 0 rfl rfl rfl))) (fun L=>(zdd (zc5 (zax (zax (zak 1 rfl rfl rfl rfl rfl) (zak 2 rfl rfl rfl rfl rfl) (fun _ _=>rfl)) (zaa 0 rfl rfl rfl rfl) (fun _ _=>rfl)) rfl))) (fun L=>(zaa 0 rfl rfl rfl rfl)))) (zbg 14 rfl rfl rfl rfl) rfl)
    (zab (zbp (zbu (zaa 12 rfl rfl rfl rfl) (zad (za7 (zbm (owns:=["j"]) (frees:=[9,14]) (tt:=false) (za4 (zak 14 rfl rfl rfl rfl rfl)) (fun _=>rfl) rfl rfl (by decide) ⟨by decide,za0 rfl⟩ (zcz rfl) (by decide) (fun L=>(zap (zbg 0 rfl rfl rfl rfl))) (fun L=>(zdd (zay (za7 (zbm (owns:=["m"]) (frees:=[0,1]) (tt:=false) (za4 (zak 2 rfl rfl rfl rfl rfl)) (fun _=>rfl) rfl rfl (by decide) ⟨by decide,za0 rfl⟩ (zcz rfl) (by decide) (fun L=>(zap (zaj 0 rfl rfl rfl))) (fun L=>(zdd (zc5 (zax (zax (zak 2 rfl rfl rfl rfl rfl) (zaa 0 rfl rfl rfl rfl) (fun _ _=>rfl)) (zak 1 rfl rfl rfl rfl rfl) (fun _ _=>rfl)) rfl))) (fun L=>(zaa 0 rfl rfl rfl rfl)))) (za7 (zbb zae)) zel rfl))) (fun L=>(zak 0 rfl rfl rfl rfl rfl)))) zae rfl) zc6 F.plainAttrs_list F.slot_list_append F.type_list_append rfl rfl rfl rfl) rfl rfl)
    zah)) (fun _=>rfl))
    (ze8 12 (zab (zag (zan (Gd.glob rfl) (za5 Gd.inK (by rw [Gd.K]; rfl)) (SimF.le (by decide) (zk5 Gd).fn) (zad (zaa 12 rfl rfl rfl rfl) zae rfl) rfl rfl rfl rfl rfl rfl) (zaj 15 rfl rfl rfl) rfl)
    (zab (zbq (zay (za7 (znr (Gd.blt rfl rfl (by decide)) (zad (zaa 15 rfl rfl rfl rfl) zae rfl) rfl rfl rfl rfl rfl)) (za7 (zbb (zad zal (zad zal (zad zal (zad zal (zad zal (zad zal zae rfl) rfl) rfl) rfl) rfl) rfl))) zf4 rfl) (zab (zbd zds)
    zah) zah)
    (zab (zag (zan (Gd.glob rfl) (za5 Gd.inK (by rw [Gd.K]; rfl)) (SimF.le (by decide) (zh2 Gd hS).fn) (zad (zak 6 rfl rfl rfl rfl rfl) (zad (zaa 7 rfl rfl rfl rfl) (zad (zak 9 rfl rfl rfl rfl rfl) (zad (zaa 15 rfl rfl rfl rfl) zae rfl) rfl) rfl) rfl) rfl rfl rfl rfl rfl rfl) (zaj 16 rfl rfl rfl) rfl)
    (zab (zbq (zd6 (zdt (zay (zaa 16 rfl rfl rfl rfl) (zan (Gd.glob rfl) (za5 Gd.inK (by rw [Gd.K]; rfl)) (SimF.le (by decide) (zh3 Gd).fn) (zad (zak 9 rfl rfl rfl rfl rfl) (zad (zaa 15 rfl rfl rfl rfl) zae rfl) rfl) rfl rfl rfl rfl rfl rfl) zf4 rfl) (zdt (zay (zbr 0 Gd.clsL (zak 6 rfl rfl rfl rfl rfl) zae (SimF.le (by decide) (zdi Gd hS).fn) (za5 Gd.inK (by rw [Gd.K]; rfl)) (by rw [Gd.K,Gd.c0]; rfl) (by rw [Gd.K]; rfl) (by rw [Gd.fldL]; decide) rfl rfl rfl rfl) (zbc [] rfl) zf4 rfl) zht))) (zab (zbd zds)
    zah) zah)
    (zab (zag (zbc [] rfl) (zaj 17 rfl rfl rfl) rfl)
    (zab (zc4 (tt:=false) (za4 (zaa 16 rfl rfl rfl rfl)) (zap (zaj 18 rfl rfl rfl)) (zab (zag (zat (zat (zaa 17 rfl rfl rfl rfl) (zbu (zbc [32] rfl) (zad (za7 (zbm (owns:=["k"]) (frees:=[3]) (tt:=false) (za4 (zaa 18 rfl rfl rfl rfl)) (fun _=>rfl) rfl rfl (by decide) ⟨by decide,za0 rfl⟩ (zcz rfl) (by decide) (fun L=>(zap (zaj 0 rfl rfl rfl))) (fun L=>zem) (fun L=>(zat (zat (zbc [34] rfl) (zax (zak 1 rfl rfl rfl rfl rfl) (zaa 0 rfl rfl rfl rfl) (fun _ _=>rfl)) zbi) (zbc [34] rfl) zbi)))) zae rfl) zpk F.plainAttrs_str F.slot_str_join F.type_str_join rfl rfl rfl rfl) zbi) (zbc [10] rfl) zbi) (zaj 17 rfl rfl rfl) rfl)
    zah) (fun _=>rfl))
    (zab (zag (zan (Gd.glob rfl) (za5 Gd.inK (by rw [Gd.K]; rfl)) (SimF.le (by decide) (zk2 Gd hS G3).fn) (zad (zaa 17 rfl rfl rfl rfl) zae rfl) rfl rfl rfl rfl rfl rfl) (zaj 19 rfl rfl rfl) rfl)
    (zab (zag (zdo (zbb zae)) (zbg 20 rfl rfl rfl rfl) rfl)
    (zab (zc4 (tt:=false) (za4 (zan (Gd.blt rfl rfl (by decide)) (zba _) zbt (zad zal zae rfl) rfl rfl rfl rfl rfl rfl)) (zap (zaj 5 rfl rfl rfl)) (zab (zag (zbr 0 Gd.clsL (zaa 19 rfl rfl rfl rfl) zae (SimF.le (by decide) (zdi Gd hS).fn) (za5 Gd.inK (by rw [Gd.K]; rfl)) (by rw [Gd.K,Gd.c0]; rfl) (by rw [Gd.K]; rfl) (by rw [Gd.fldL]; decide) rfl rfl rfl rfl) (zaj 21 rfl rfl rfl) rfl)
    (zab (zbp (zbu (zak 20 rfl rfl rfl rfl rfl) (zad (ze9 (zad (zaa 21 rfl rfl rfl rfl) (zad (zby 0 0 Gd.clsL (by rw [Gd.fldL]; rfl) (zaa 19 rfl rfl rfl rfl) rfl) zae rfl) rfl)) zae rfl) zc6 F.plainAttrs_list F.slot_list_append F.type_list_append rfl rfl rfl rfl) rfl rfl)
    zah)) (fun _=>rfl))
    (ze8 20 (zab (zbq (zay (za7 (zjd (Gd.blt rfl rfl (by decide)) (zad (za7 (zbm (owns:=["word","hour"]) (frees:=[]) (tt:=true) (za4 (zak 20 rfl rfl rfl rfl rfl)) (fun _=>rfl) rfl rfl (by decide) ⟨by decide,za0 rfl⟩ (zcz rfl) (by decide) (fun L=>(zfu (zcv (zap (zaj 0 rfl rfl rfl)) (zcv (zap (zaj 1 rfl rfl rfl)) zgi)) rfl)) (fun L=>zem) (fun L=>(zaa 0 rfl rfl rfl rfl)))) zae rfl) rfl rfl rfl rfl rfl)) (za7 (zjd (Gd.blt rfl rfl (by decide)) (zad (zak 3 rfl rfl rfl rfl rfl) zae rfl) rfl rfl rfl rfl rfl)) zf4 rfl) (zab (zbd zds)
    zah) zah)
    (zab (zag (za7 (zbm (owns:=["word"]) (frees:=[20]) (tt:=false) (za4 (zak 3 rfl rfl rfl rfl rfl)) (fun _=>rfl) rfl rfl (by decide) ⟨by decide,za0 rfl⟩ (zcz rfl) (by decide) (fun L=>(zap (zbg 0 rfl rfl rfl rfl))) (fun L=>zem) (fun L=>(zax (za7 (zbm (owns:=["one","hour"]) (frees:=[0]) (tt:=true) (za4 (zak 1 rfl rfl rfl rfl rfl)) (fun _=>rfl) rfl rfl (by decide) ⟨by decide,za0 rfl⟩ (zcz rfl) (by decide) (fun L=>(zfu (zcv (zap (zaj 0 rfl rfl rfl)) (zcv (zap (zaj 1 rfl rfl rfl)) zgi)) rfl)) (fun L=>(zdd (zay (zaa 0 rfl rfl rfl rfl) (zak 2 rfl rfl rfl rfl rfl) zel rfl))) (fun L=>(zaa 1 rfl rfl rfl rfl)))) zal (fun _ _=>rfl))))) (zbg 22 rfl rfl rfl rfl) rfl)
    (zab (zbq (zay (za7 (zbm (owns:=["h"]) (frees:=[22]) (tt:=false) (za4 (zak 22 rfl rfl rfl rfl rfl)) (fun _=>rfl) rfl rfl (by decide) ⟨by decide,za0 rfl⟩ (zcz rfl) (by decide) (fun L=>(zap (zaj 0 rfl rfl rfl))) (fun L=>(zdd (zay (zbu (zak 1 rfl rfl rfl rfl rfl) (zad (zaa 0 rfl rfl rfl rfl) zae rfl) zqv F.plainAttrs_list F.slot_list_count F.type_list_count rfl rfl rfl rfl) zal zsu rfl))) (fun L=>(zaa 0 rfl rfl rfl rfl)))) (za7 (zbb zae)) zf4 rfl) (zab (zbd zds)
    zah) zah)
    (zab (zbq (zay (za7 (zqw (owns:=["i","j"]) (frees:=[11,22]) (tt:=false) (tt2:=false) (za4 (zan (Gd.blt rfl rfl (by decide)) (zba _) zbt (zad zal zae rfl) rfl rfl rfl rfl rfl rfl)) (fun _=>rfl) (fun _ _=>rfl) rfl rfl (by decide) ⟨by decide,za0 rfl⟩ (zcz rfl) (by decide) (fun L=>(zap (zaj 0 rfl rfl rfl))) (fun L=>(zdd (zd6 (zbk (zc5 (zax (zax (zak 2 rfl rfl rfl rfl rfl) (zaa 0 rfl rfl rfl rfl) (fun _ _=>rfl)) (zaa 1 rfl rfl rfl rfl) (fun _ _=>rfl)) rfl) (zbk (zay (zax (zak 3 rfl rfl rfl rfl rfl) (zaa 0 rfl rfl rfl rfl) (fun _ _=>rfl)) (zax (zak 3 rfl rfl rfl rfl rfl) (zaa 1 rfl rfl rfl rfl) (fun _ _=>rfl)) zno rfl) zdu))))) (fun L=>(za4 (zan (Gd.blt rfl rfl (by decide)) (zba _) zbt (zad zal zae rfl) rfl rfl rfl rfl rfl rfl))) (fun L=>(zap (zaj 1 rfl rfl rfl))))) (za7 (zbb zae)) zf4 rfl) (zab (zbd zds)
    zah) zah)
    (zab (zbq (zd6 (zdt (zay (zbr 0 Gd.clsL (zaa 19 rfl rfl rfl rfl) zae (SimF.le (by decide) (zdi Gd hS).fn) (za5 Gd.inK (by rw [Gd.K]; rfl)) (by rw [Gd.K,Gd.c0]; rfl) (by rw [Gd.K]; rfl) (by rw [Gd.fldL]; decide) rfl rfl rfl rfl) (zbc [] rfl) zf4 rfl) (zdt (zay (zby 0 0 Gd.clsL (by rw [Gd.fldL]; rfl) (zaa 19 rfl rfl rfl rfl) rfl) (zat (zan (Gd.blt rfl rfl (by decide)) (zar _) zci (zad (zaa 16 rfl rfl rfl rfl) zae rfl) rfl rfl rfl rfl rfl rfl) zal zbi) zf4 rfl) zht))) (zab (zbd zds)
    zah) zah)
    (zab (zfc true rfl (zap (zaj 23 rfl rfl rfl)) (owns:=["i"]) (frees:=[11]) (tt:=false) (za4 (zan (Gd.blt rfl rfl (by decide)) (zba _) zbt (zad zal zae rfl) rfl rfl rfl rfl rfl rfl)) (fun _=>rfl) rfl rfl (by decide) ⟨by decide,za0 rfl⟩ (zcz rfl) (by decide) (fun L=>(zap (zbg 0 rfl rfl rfl rfl))) (fun L=>zem) (fun L=>(za7 (zbm (owns:=["j"]) (frees:=[0,1]) (tt:=false) (za4 (zan (Gd.blt rfl rfl (by decide)) (zba _) zbt (zad (zak 0 rfl rfl rfl rfl rfl) zae rfl) rfl rfl rfl rfl rfl rfl)) (fun _=>rfl) rfl rfl (by decide) ⟨by decide,za0 rfl⟩ (zcz rfl) (by decide) (fun L=>(zap (zaj 0 rfl rfl rfl))) (fun L=>(zdd (zd6 (zbk (zml (zc5 (zax (zax (zak 2 rfl rfl rfl rfl rfl) (zak 1 rfl rfl rfl rfl rfl) (fun _ _=>rfl)) (zaa 0 rfl rfl rfl rfl) (fun _ _=>rfl)) rfl)) (zbk (zml (zc5 (zax (zax (zak 2 rfl rfl rfl rfl rfl) (zaa 0 rfl rfl rfl rfl) (fun _ _=>rfl)) (zak 1 rfl rfl rfl rfl rfl) (fun _ _=>rfl)) rfl)) zdu))))) (fun L=>(zaa 0 rfl rfl rfl rfl))))))
    (zab (zbd (zov (zan (Gd.blt rfl rfl (by decide)) (zar _) zvz (zad (zak 22 rfl rfl rfl rfl rfl) zae rfl) rfl rfl rfl rfl rfl rfl) (zan (Gd.blt rfl rfl (by decide)) (zar _) zci (zad (zaa 16 rfl rfl rfl rfl) zae rfl) rfl rfl rfl rfl rfl rfl) (zat zal (zan (Gd.glob rfl) (za5 Gd.inK (by rw [Gd.K]; rfl)) (SimF.le (by decide) (zjb Gd).fn) (zad (zaa 23 rfl rfl rfl rfl) zae rfl) rfl rfl rfl rfl rfl rfl) zgt) zel zel rfl))
    zah)))))))))))))))))))))))))))))))))
noncomputable def hp0:Hp:=⟨fun _=>none,0⟩
noncomputable def tab2 (c1 c2:Addr):Array Value:=#[rawInt 150,rawInt 4,.ref c1,rawInt 154,rawInt 13,.ref c2]
noncomputable def cfg (p:Program) (w:World) (h:Heap) (os:OsState):Cfg where
  prog:=p
  w:=w
  base:=ghostOf h [(170,166)]
  os:=os
  cls:=fun n=>if n = 0 then 94 else 160
  fld:=fun n=>if n = 0 then (["lineno","instream","whitespace","pushback"]:List Str) else (["raw","n","nt","norm","is_simple"]:List Str)
  P:=166
  q1:="_law_lexer.<locals>._law_read_on"
  q2:="_law_lexer.<locals>.<lambda>"
  K:=Kf w.params
  readf:=77
  strm:=StrmP w.params
  tb:=tab2
variable {p:Program} {w:World} {s:Shared} {loose:List Str} {mean:ExcName→Option Value} {mg mb:Str→Option Value} {q:Program}
theorem good (hT:TabsAt [(170,166)] s.heap) (X:(Kf w.params).In s.heap) (T:Top q loose mean mg mb s.heap):Good (cfg p w s.heap s.os) where
  K:=rfl
  inK:=ghost_K hT X (by rfl)
  lim:=(ghost_top hT T).nolimit
  c0:=rfl
  c1:=rfl
  fldL:=rfl
  fldW:=rfl
  rdf:=rfl
  ns:=⟨mg,mb,ghost_ns hT T.g,ghost_ns hT T.b,T.builtins⟩
theorem good3 (hT:TabsAt [(170,166)] s.heap) (T:Top q loose mean mg mb s.heap):Good3 (cfg p w s.heap s.os) where
  P:=rfl
  ch:=(ghost_code hT).1
  bp:=hideAll_none _ (by simp)
  bm:=⟨mg,ghost_ns hT T.g,by
    obtain ⟨bm,ob,a1,a2,a3,a4,a5,a6⟩:=(ghost_top hT T).bmain
    refine ⟨bm,ob,a1,a2,fun q=>?_,fun q=>?_,a3,a4,a5,a6⟩
    · obtain ⟨o,es,ep,e,d,_⟩:=(ghost_top hT T).g
      rw [← q,a3] at e; replace e:=Option.some.inj e; subst e; rw [a6] at d; cases (d)
    · have:(ghostOf s.heap [(170,166)]).get? 166 = none:=hideAll_none _ (by simp)
      rw [q,this] at a3; exact noS a3⟩
  tb:=fun _ _=>rfl
  q1:=rfl
  q2:=rfl
theorem wr0 (hT:TabsAt [(170,166)] s.heap) (hg:s.gens = #[]):WR (cfg p w s.heap s.os) (fun _=>False) (fun _=>none) hp0 s where
  obj:=fun n o e=>by exact noS e
  inj:=fun n k m x m' h=>absurd rfl h
  top:=fun n _=>⟨rfl,rfl⟩
  nb:=fun b ⟨n,m,h,_⟩=>absurd rfl h
  ng:=fun b ⟨n,m,h,_⟩=>absurd rfl h
  gt:=fun b h=>h.elim
  gb:=fun b h=>h.elim
  keep:=fun b o e=>of_hideAll _ e
  gens:=hg
  os:=rfl
  tab:=⟨#[],(hT _ (.head _)).2,.inl rfl⟩
theorem zp7 {C:Cfg} {ρ:Ren} {L:Addr→Prop} {h:Heap}:∀ {vs:List Value} {ns:List Int},IntsAre vs ns→VRs C ρ L h (ns.map .int) vs
  | _,_,.nil=>.nil
  | _,_,.cons n t r=>.cons (.int n t) (zp7 r)
theorem zyp (hT:TabsAt [(170,166)] s.heap) (X:(Kf w.params).In s.heap) (T:Top q loose mean mg mb s.heap) (hg:s.gens = #[]) {a:Addr} {vs:List Value} {ns:List Int} (ha:s.heap.get? a = some (listOf vs.toArray 0)) (hI:IntsAre vs ns)
    {hp':Hp} (e:zxg [.fl (ns.map .int)] hp0 = some (.bool true,hp')) :
    wpAny (model p w) callerA (call (.ref 229) [.ref a]) (fun v s'=>v = .bool true∧(∀ b o,s.heap.get? b = some o→b≠166→s'.heap.get? b = some o)∧(∀ b o,s.heap.get? b = some o→∃ o',s'.heap.get? b = some o')∧s'.os = s.os∧s'.gens = #[]∧
      ∃ ps,s'.heap.get? 166 = some (tabObj ps)) noE s:=by
  have a0:AOk 60 callerA:=⟨rfl,by decide,by decide⟩
  refine zde ((S_law (C:=cfg p w s.heap s.os) (good hT X T) rfl (good3 hT T)).fn callerA (fun _=>False) a0 _ hp0 _ hp' e (fun _=>none) s [.ref a] (wr0 hT hg) (.cons (.fl ha (fun q=>q.elim (fun ⟨n,m,h,_⟩=>absurd rfl h) id) (zp7 hI)) .nil)) fun v s' zq1=>?_; obtain ⟨ρ',S,r⟩:=zq1
  replace r:=VR.boolI r; subst r
  obtain ⟨ps,e1,_⟩:=S.wr.tab
  exact ⟨rfl,fun b o e n=>S.keep b o e (fun ⟨n,m,h,_⟩=>absurd rfl h) n id,S.there,S.wr.os,S.wr.gens,ps,e1⟩
end Mine
end
section
namespace Mine
noncomputable def zbv (B:Nat→Nat→Bool) (done:List Nat):List Nat :=
  [5,4,3,2,1,0].filter fun p=>!done.contains p && [0,1,2,3,4,5].all fun q=>!B q p || done.contains q
noncomputable def zc2 (B:Nat→Nat→Bool):Nat→List Nat→List (List Nat)
  | 0,_=>[]
  | f + 1,done=>if 6≤done.length then [] else (zbv B done).take 2 ::zc2 B f (done++(zbv B done).take 2)
theorem zjv (B:Nat→Nat→Bool):∀ y0,zc2 B 0 y0 =
   ([]):=fun _=>rfl
theorem zju (B:Nat→Nat→Bool):∀ f done,zc2 B (f + 1) done =
   (if 6≤done.length then [] else (zbv B done).take 2 ::zc2 B f (done++(zbv B done).take 2)):=fun _ _=>rfl
noncomputable def mmP (G:Nat→Nat→Bool):Nat→List Nat→Nat
  | _,[]=>0
  | 0,_=>0
  | f + 1,i ::r=>r.foldl (fun m j=>if G i j then max m (mmP G f (r.filter (· != j)) + 1) else m) (mmP G f r)
noncomputable def zb0 (P:List (List Nat)) (p:Nat):Nat:=P.findIdx (·.contains p)
noncomputable def incP (B:Nat→Nat→Bool) (p q:Nat):Bool:=!B p q && !B q p
noncomputable def leafA (B:Nat→Nat→Bool):Bool :=
  (zc2 B 7 []).flatten.length == 6 && ([0,1,2,3,4,5].all fun p=>(zc2 B 7 []).flatten.contains p) &&
  ((zc2 B 7 []).all fun h=>decide (h.length≤2) && decide (1≤h.length)) &&
  ([0,1,2,3,4,5].all fun p=>[0,1,2,3,4,5].all fun q=>!B p q || decide (zb0 (zc2 B 7 []) p < zb0 (zc2 B 7 []) q)) &&
  mmP (incP B) 6 [5,4,3,2,1,0] + (zc2 B 7 []).length == 6
noncomputable def leafB (B:Nat→Nat→Bool):Bool :=
  ([0,1,2,3,4,5].all fun p=>decide (([0,1,2,3,4,5].filter fun q=>zb0 (zc2 B 7 []) q == zb0 (zc2 B 7 []) p).length≤2) && decide (zb0 (zc2 B 7 []) p < (zc2 B 7 []).length)) &&
  [0,1,2,3,4,5].any fun p=>zb0 (zc2 B 7 []) p + 1 == (zc2 B 7 []).length
noncomputable def zt4 (B:Nat→Nat→Bool):Bool:=leafA B && leafB B
noncomputable def dAt (D:List Nat) (p q:Nat):Bool:=(D.getD p 0).testBit q
noncomputable def zhp (N:Nat):Nat→List Nat→Nat
  | _,[]=>N
  | q,d ::r=>(if N.testBit q then d else 0) ||| zhp N (q + 1) r
theorem zog (N:Nat):∀ y0,zhp N y0 [] =
   (N):=fun _=>rfl
theorem zof (N:Nat):∀ q d r,zhp N q (d ::r) =
   ((if N.testBit q then d else 0) ||| zhp N (q + 1) r):=fun _ _ _=>rfl
noncomputable def zk1 (N:Nat):Nat→List Nat→Bool
  | _,[]=>true
  | q,d ::r=>(!N.testBit q || (d &&& N == 0)) && zk1 N (q + 1) r
theorem zw9 (N:Nat):∀ y0,zk1 N y0 [] =
   (true):=fun _=>rfl
theorem zw8 (N:Nat):∀ q d r,zk1 N q (d ::r) =
   ((!N.testBit q || (d &&& N == 0)) && zk1 N (q + 1) r):=fun _ _ _=>rfl
noncomputable def ziw {α:Type} (n:Nat) (k:Nat→α):α:=match n with
  | 0=>k 0
  | m + 1=>k (m + 1)
theorem zgm {α:Type} (n:Nat) (k:Nat→α):ziw n k = k n:=by cases n <;> rfl
noncomputable def zhc {α:Type}:List Nat→(List Nat→α)→α
  | [],k=>k []
  | a ::r,k=>ziw a fun a=>zhc r fun r=>k (a ::r)
theorem zgn {α:Type}:∀ (l:List Nat) (k:List Nat→α),zhc l k = k l:=by
  intro l
  induction l with
  | nil=>exact fun _=>rfl
  | cons a r ih=>exact fun k=>(zgm a _).trans (ih _)
noncomputable def zo8 {α:Type}:List (List Nat)→(List (List Nat)→α)→α
  | [],k=>k []
  | a ::r,k=>zhc a fun a=>zo8 r fun r=>k (a ::r)
theorem zrj {α:Type}:∀ (l:List (List Nat)) (k:List (List Nat)→α),zo8 l k = k l:=by
  intro l
  induction l with
  | nil=>exact fun _=>rfl
  | cons a r ih=>exact fun k=>(zgn a _).trans (ih _)
noncomputable def zv8 (B:Nat→Nat→Bool):Nat→List Nat→List (List Nat)
  | 0,_=>[]
  | f + 1,done=>if 6≤done.length then [] else zhc ((zbv B done).take 2) fun h=>zhc (done++h) fun d=>h ::zv8 B f d
theorem zv7 (B:Nat→Nat→Bool):∀ f done,zv8 B f done = zc2 B f done:=by
  intro f
  induction f with
  | zero=>exact fun _=>rfl
  | succ f ih =>
    intro done
    refine Eq.trans (b:=if 6≤done.length then [] else zhc ((zbv B done).take 2) fun h=>zhc (done++h) fun d=>h ::zv8 B f d) rfl ?_
    rw [zgn,zgn,ih]
    rfl
noncomputable def mmF (G:Nat→Nat→Bool):Nat→List Nat→Nat
  | _,[]=>0
  | 0,_=>0
  | f + 1,i ::r=>r.foldl (fun m j=>ziw m fun m=>if G i j then zhc (r.filter (· != j)) fun q=>ziw (mmF G f q + 1) fun x=>max m x else m) (mmF G f r)
theorem mmF_eq (G:Nat→Nat→Bool):∀ f l,mmF G f l = mmP G f l:=by
  intro f
  induction f with
  | zero=>intro l; cases l <;> rfl
  | succ f ih =>
    intro l
    cases l with
    | nil=>rfl
    | cons i r =>
      refine Eq.trans (b:=r.foldl (fun m j=>ziw m fun m=>if G i j then zhc (r.filter (· != j)) fun q=>ziw (mmF G f q + 1) fun x=>max m x else m) (mmF G f r)) rfl ?_
      rw [ih]
      refine congrArg (fun g=>r.foldl g (mmP G f r)) (funext fun m=>funext fun j=>?_)
      rw [zgm,zgn,zgm,ih]
noncomputable def leafQ (mm:Nat) (B:Nat→Nat→Bool) (P:List (List Nat)):Bool :=
  (P.flatten.length == 6 && ([0,1,2,3,4,5].all fun p=>P.flatten.contains p) &&
  (P.all fun h=>decide (h.length≤2) && decide (1≤h.length)) &&
  ([0,1,2,3,4,5].all fun p=>[0,1,2,3,4,5].all fun q=>!B p q || decide (zb0 P p < zb0 P q)) &&
  mm + P.length == 6) &&
  (([0,1,2,3,4,5].all fun p=>decide (([0,1,2,3,4,5].filter fun q=>zb0 P q == zb0 P p).length≤2) && decide (zb0 P p < P.length)) &&
  [0,1,2,3,4,5].any fun p=>zb0 P p + 1 == P.length)
noncomputable def zwk (B:Nat→Nat→Bool):Bool:=zo8 (zv8 B 7 []) fun P=>ziw (mmF (incP B) 6 [5,4,3,2,1,0]) fun mm=>leafQ mm B P
theorem zwj (B:Nat→Nat→Bool):zwk B = zt4 B:=by
  rw [zwk,zrj,zgm,zv7,mmF_eq]; rfl
noncomputable def zdx:Nat→Nat→Nat→List Nat→Bool
  | 0,_,_,D=>zwk (dAt D)
  | f + 1,p,prev,D=>(List.range (2 ^ p)).all fun N=>decide (N < prev) || !zk1 N 0 D || ziw (zhp N 0 D) fun c=>zhc (D++[c]) fun D=>zdx f (p + 1) N D
theorem enumP_e1:∀ y0 y1 D,zdx 0 y0 y1 D =
   (zwk (dAt D)):=fun _ _ _=>rfl
theorem zqh:∀ f p prev D,zdx (f + 1) p prev D =
   ((List.range (2 ^ p)).all fun N=>decide (N < prev) || !zk1 N 0 D || ziw (zhp N 0 D) fun c=>zhc (D++[c]) fun D=>zdx f (p + 1) N D):=fun _ _ _ _=>rfl
noncomputable def zyx:Nat→Nat→Nat→List Nat→List (Nat × List Nat)
  | 0,_,prev,D=>[(prev,D)]
  | f + 1,p,prev,D=>((List.range (2 ^ p)).filter fun N=>!(decide (N < prev) || !zk1 N 0 D)).flatMap fun N=>zyx f (p + 1) N (D++[zhp N 0 D])
theorem zyw (g:Nat):∀ f p prev D,(∀ x∈zyx f p prev D,zdx g (p + f) x.1 x.2 = true)→zdx (f + g) p prev D = true:=by
  intro f
  induction f with
  | zero =>
    intro p prev D h
    rw [Nat.zero_add]
    exact h (prev,D) (.head _)
  | succ f ih =>
    intro p prev D h
    rw [Nat.succ_add,zqh,List.all_eq_true]
    intro N hN
    cases hc:decide (N < prev) || !zk1 N 0 D with
    | true=>exact Bool.true_or _
    | false =>
      rw [Bool.false_or,zgm,zgn]
      refine ih (p + 1) N _ fun x hx=>?_
      have:=h x (List.mem_flatMap.2 ⟨N,List.mem_filter.2 ⟨hN,by rw [hc]; rfl⟩,hx⟩)
      rwa [show p + 1 + f = p + (f + 1) from Nat.succ_add p f]
theorem en0:zdx 2 4 0 [0,0,0,0] = true:=by decide +kernel
theorem en1:zdx 2 4 1 [0,0,0,1] = true:=by decide +kernel
theorem en2:zdx 2 4 2 [0,0,0,2] = true:=by decide +kernel
theorem en3:zdx 2 4 3 [0,0,0,3] = true:=by decide +kernel
theorem en4:zdx 2 4 4 [0,0,0,4] = true:=by decide +kernel
theorem en5:zdx 2 4 5 [0,0,0,5] = true:=by decide +kernel
theorem en6:zdx 2 4 6 [0,0,0,6] = true:=by decide +kernel
theorem en7:zdx 2 4 7 [0,0,0,7] = true:=by decide +kernel
theorem en8:zdx 2 4 1 [0,0,1,1] = true:=by decide +kernel
theorem en9:zdx 2 4 2 [0,0,1,2] = true:=by decide +kernel
theorem en10:zdx 2 4 3 [0,0,1,3] = true:=by decide +kernel
theorem en11:zdx 2 4 4 [0,0,1,5] = true:=by decide +kernel
theorem en12:zdx 2 4 6 [0,0,1,7] = true:=by decide +kernel
theorem en13:zdx 2 4 2 [0,0,2,2] = true:=by decide +kernel
theorem en14:zdx 2 4 3 [0,0,2,3] = true:=by decide +kernel
theorem en15:zdx 2 4 4 [0,0,2,6] = true:=by decide +kernel
theorem en16:zdx 2 4 5 [0,0,2,7] = true:=by decide +kernel
theorem en17:zdx 2 4 3 [0,0,3,3] = true:=by decide +kernel
theorem en18:zdx 2 4 4 [0,0,3,7] = true:=by decide +kernel
theorem en19:zdx 2 4 1 [0,1,1,1] = true:=by decide +kernel
theorem en20:zdx 2 4 2 [0,1,1,3] = true:=by decide +kernel
theorem en21:zdx 2 4 4 [0,1,1,5] = true:=by decide +kernel
theorem en22:zdx 2 4 6 [0,1,1,7] = true:=by decide +kernel
theorem en23:zdx 2 4 2 [0,1,3,3] = true:=by decide +kernel
theorem en24:zdx 2 4 4 [0,1,3,7] = true:=by decide +kernel
theorem zzz:zdx 6 0 0 [] = true:=zyw 2 4 0 0 [] (by
  rw [show zyx 4 0 0 [] = [(0,[0,0,0,0]),(1,[0,0,0,1]),(2,[0,0,0,2]),(3,[0,0,0,3]),(4,[0,0,0,4]),(5,[0,0,0,5]),(6,[0,0,0,6]),(7,[0,0,0,7]),(1,[0,0,1,1]),(2,[0,0,1,2]),(3,[0,0,1,3]),(4,[0,0,1,5]),(6,[0,0,1,7]),(2,[0,0,2,2]),(3,[0,0,2,3]),(4,[0,0,2,6]),(5,[0,0,2,7]),(3,[0,0,3,3]),(4,[0,0,3,7]),(1,[0,1,1,1]),(2,[0,1,1,3]),(4,[0,1,1,5]),(6,[0,1,1,7]),(2,[0,1,3,3]),(4,[0,1,3,7])] by decide +kernel]
  exact List.forall_mem_cons.2 ⟨en0,List.forall_mem_cons.2 ⟨en1,List.forall_mem_cons.2 ⟨en2,List.forall_mem_cons.2 ⟨en3,List.forall_mem_cons.2 ⟨en4,List.forall_mem_cons.2 ⟨en5,List.forall_mem_cons.2 ⟨en6,List.forall_mem_cons.2 ⟨en7,List.forall_mem_cons.2 ⟨en8,List.forall_mem_cons.2 ⟨en9,List.forall_mem_cons.2 ⟨en10,List.forall_mem_cons.2 ⟨en11,List.forall_mem_cons.2 ⟨en12,List.forall_mem_cons.2 ⟨en13,List.forall_mem_cons.2 ⟨en14,List.forall_mem_cons.2 ⟨en15,List.forall_mem_cons.2 ⟨en16,List.forall_mem_cons.2 ⟨en17,List.forall_mem_cons.2 ⟨en18,List.forall_mem_cons.2 ⟨en19,List.forall_mem_cons.2 ⟨en20,List.forall_mem_cons.2 ⟨en21,List.forall_mem_cons.2 ⟨en22,List.forall_mem_cons.2 ⟨en23,List.forall_mem_cons.2 ⟨en24,fun _ h=>nomatch h⟩⟩⟩⟩⟩⟩⟩⟩⟩⟩⟩⟩⟩⟩⟩⟩⟩⟩⟩⟩⟩⟩⟩⟩⟩)
theorem zus {f p prev N:Nat} {D:List Nat} (h:zdx (f + 1) p prev D = true) (h1:N < 2 ^ p) (h2:prev≤N) (h3:zk1 N 0 D = true):zdx f (p + 1) N (D++[zhp N 0 D]) = true:=by
  rw [zqh,List.all_eq_true] at h
  have h:=h N (List.mem_range.2 h1)
  rw [h3,decide_eq_false (Nat.not_lt.2 h2),zgm,zgn] at h
  exact h
noncomputable def zd7 (f:Nat→Bool):Nat→Nat
  | 0=>0
  | n + 1=>zd7 f n ||| if f n then 2 ^ n else 0
theorem zdm (f:Nat→Bool):∀ n q,(zd7 f n).testBit q = (decide (q < n) && f q):=by
  intro n
  induction n with
  | zero =>
    intro q
    simp [zd7]
  | succ n ih =>
    intro q
    have ih:=ih q
    simp only [zd7,Nat.testBit_or,ih]
    by_cases e:q = n
    · subst e
      cases hf:f q <;> simp
    · have:decide (q < n + 1) = decide (q < n):=by
        apply decide_eq_decide.2; lia
      rw [this]
      have:(if f n = true then 2 ^ n else 0).testBit q = false:=by
        split
        · rw [Nat.testBit_two_pow]; simp; lia
        · simp
      simp [this]
theorem zrp (N x:Nat):∀ (D:List Nat) (s:Nat),(zhp N s D).testBit x = true↔N.testBit x = true∨∃ i,i < D.length∧N.testBit (s + i) = true∧(D.getD i 0).testBit x = true:=by
  intro D
  induction D with
  | nil =>
    intro s
    simp [zog,zof]
  | cons d r ih =>
    intro s
    simp only [zog,zof,Nat.testBit_or,Bool.or_eq_true,ih (s + 1)]
    constructor
    · rintro (h | h | ⟨i,h1,h2,h3⟩)
      · by_cases hb:N.testBit s = true
        · rw [if_pos hb] at h
          exact .inr ⟨0,by simp,by simpa using hb,by simpa using h⟩
        · rw [if_neg hb] at h; simp at h
      · exact .inl h
      · exact .inr ⟨i + 1,by simpa using h1,by rw [← h2]; congr 1; lia,by simpa using h3⟩
    · rintro (h | ⟨i,h1,h2,h3⟩)
      · exact .inr (.inl h)
      · cases i with
        | zero=>exact .inl (by rw [if_pos (by simpa using h2)]; simpa using h3)
        | succ i=>exact .inr (.inr ⟨i,by simpa using h1,by rw [← h2]; congr 1; lia,by simpa using h3⟩)
theorem zw7 (N:Nat):∀ (D:List Nat) (s:Nat),(∀ i,i < D.length→N.testBit (s + i) = true→∀ x,(D.getD i 0).testBit x = true→N.testBit x = false)→zk1 N s D = true:=by
  intro D
  induction D with
  | nil =>
    intro s _
    exact rfl
  | cons d r ih =>
    intro s h
    simp only [zw9,zw8,Bool.and_eq_true,Bool.or_eq_true,Bool.not_eq_true',beq_iff_eq]
    refine ⟨?_,ih (s + 1) fun i h1 h2 x h3=>h (i + 1) (by simpa using h1) (by rw [← h2]; congr 1; lia) x (by simpa using h3)⟩
    cases hb:N.testBit s
    · exact .inl rfl
    · refine .inr (Nat.eq_of_testBit_eq fun x=>?_)
      rw [Nat.testBit_and,Nat.zero_testBit]
      cases hx:d.testBit x
      · rfl
      · simpa using h 0 (by simp) (by simpa using hb) x (by simpa using hx)
noncomputable def covP (B:Nat→Nat→Bool) (p q:Nat):Bool:=B p q && !([0,1,2,3,4,5].any fun m=>B p m && B m q)
structure Canon (B:Nat→Nat→Bool):Prop where
  lt6:∀ p q,B p q = true→p < 6∧q < 6
  tr:∀ p q r,B p q = true→B q r = true→B p r = true
  rk:∃ r:Nat→Int,∀ p q,B p q = true→r p < r q
  dn:∀ p q,covP B p q = true→q < p
  mo:∀ p,p < 5→zd7 (covP B p) 6≤zd7 (covP B (p + 1)) 6
theorem mem6 {n:Nat}:n∈[0,1,2,3,4,5]↔n < 6:=by simp; lia
section
variable {B:Nat→Nat→Bool}
theorem Canon.cov (c:Canon B):∀ (k:Nat) (p q:Nat),B p q = true→(∀ r:Nat→Int,(∀ p q,B p q = true→r p < r q)→(r q - r p).toNat≤k→∃ m,covP B p m = true∧(m = q∨B m q = true))
  | 0,p,q,h,r,hr,hk=>by have:=hr p q h; lia
  | k + 1,p,q,h,r,hr,hk=>by
    by_cases hc:covP B p q = true
    · exact ⟨q,hc,.inl rfl⟩
    · simp only [covP,h,Bool.true_and,Bool.not_eq_true',Bool.not_eq_false,List.any_eq_true,Bool.and_eq_true] at hc
      obtain ⟨m,_,h1,h2⟩:=hc
      have a:=hr p m h1
      have b:=hr m q h2
      obtain ⟨x,x1,x2⟩:=c.cov k p m h1 r hr (by lia)
      refine ⟨x,x1,.inr ?_⟩
      rcases x2 with rfl | x2
      · exact h2
      · exact c.tr _ _ _ x2 h2
theorem Canon.cov' (c:Canon B) {p q:Nat} (h:B p q = true):∃ m,covP B p m = true∧(m = q∨B m q = true):=by
  obtain ⟨r,hr⟩:=c.rk
  exact c.cov _ p q h r hr (Nat.le_refl _)
theorem zqi {p q:Nat} (h:covP B p q = true):B p q = true:=by
  simp only [covP,Bool.and_eq_true] at h; exact h.1
theorem Canon.masks (c:Canon B) {p:Nat} (hp:p < 6):zd7 (covP B p) 6 < 2 ^ p:=by
  refine Nat.lt_pow_two_of_testBit _ fun q hq=>?_
  rw [zdm]
  cases h:covP B p q
  · simp
  · have:=c.dn _ _ h; lia
theorem zd9 (f:Nat→Nat) {n i:Nat} (h:i < n):((List.range n).map f).getD i 0 = f i:=by
  rw [List.getD_eq_getElem?_getD]; simp [h]
theorem Canon.close (c:Canon B) {p:Nat} (hp:p < 6):zhp (zd7 (covP B p) 6) 0 ((List.range p).map fun x=>zd7 (B x) 6) = zd7 (B p) 6:=by
  refine Nat.eq_of_testBit_eq fun x=>?_
  rw [Bool.eq_iff_iff,zrp]
  simp only [zdm,Bool.and_eq_true,decide_eq_true_eq,List.length_map,List.length_range,Nat.zero_add]
  constructor
  · rintro (⟨h1,h2⟩ | ⟨i,h1,⟨h2,h3⟩,h4⟩)
    · exact ⟨h1,zqi h2⟩
    · rw [zd9 _ h1,zdm] at h4
      simp only [Bool.and_eq_true,decide_eq_true_eq] at h4
      exact ⟨h4.1,c.tr _ _ _ (zqi h3) h4.2⟩
  · rintro ⟨h1,h2⟩
    obtain ⟨m,h3,h4⟩:=c.cov' h2
    have hm:=c.dn _ _ h3
    rcases h4 with rfl | h4
    · exact .inl ⟨h1,h3⟩
    · refine .inr ⟨m,hm,⟨by lia,h3⟩,?_⟩
      rw [zd9 _ hm,zdm]
      simp [h1,h4]
theorem Canon.anti (c:Canon B) {p:Nat} (hp:p < 6):zk1 (zd7 (covP B p) 6) 0 ((List.range p).map fun x=>zd7 (B x) 6) = true:=by
  refine zw7 _ _ _ fun i h1 h2 x h3=>?_
  simp only [List.length_map,List.length_range] at h1
  rw [zd9 _ h1,zdm] at h3
  rw [zdm] at h2 ⊢
  simp only [Nat.zero_add,Bool.and_eq_true,decide_eq_true_eq] at h2 h3
  cases h:covP B p x
  · simp
  · simp only [covP,Bool.and_eq_true,Bool.not_eq_true',List.any_eq_false] at h
    have:=h.2 i (mem6.2 (by lia))
    simp [zqi h2.2,h3.2] at this
theorem Canon.run (c:Canon B):∀ p,p≤6→zdx (6 - p) p (if p = 0 then 0 else zd7 (covP B (p - 1)) 6) ((List.range p).map fun x=>zd7 (B x) 6) = true
  | 0,_=>by simpa using zzz
  | p + 1,hp=>by
    have ih:=c.run p (by lia)
    rw [show 6 - p = (6 - (p + 1)) + 1 by lia] at ih
    have:=zus ih (N:=zd7 (covP B p) 6) (c.masks (by lia)) (by
      split
      · lia
      · rename_i h0
        have:=c.mo (p - 1) (by lia)
        rwa [show p - 1 + 1 = p by lia] at this) (c.anti (by lia))
    rw [c.close (by lia)] at this
    rw [List.range_succ,List.map_append]
    simpa using this
theorem Canon.leaf (c:Canon B):zt4 B = true:=by
  have this:zt4 (dAt ((List.range 6).map fun x=>zd7 (B x) 6)) = true:=(zwj _).symm.trans (c.run 6 (by lia))
  have e:dAt ((List.range 6).map fun x=>zd7 (B x) 6) = B:=by
    funext p q
    rw [Bool.eq_iff_iff,dAt]
    by_cases hp:p < 6
    · rw [zd9 _ hp,zdm]
      simp only [Bool.and_eq_true,decide_eq_true_eq]
      exact ⟨fun h=>h.2,fun h=>⟨(c.lt6 _ _ h).2,h⟩⟩
    · constructor
      · intro h
        rw [List.getD_eq_getElem?_getD,List.getElem?_eq_none (by simp; lia)] at h
        simp at h
      · intro h; exact absurd (c.lt6 _ _ h).1 hp
  rw [e] at this
  exact this
end
noncomputable def ends (ps:List (Nat × Nat)):List Nat:=ps.flatMap fun pr=>[pr.1,pr.2]
structure IsM (G:Nat→Nat→Bool) (l:List Nat) (ps:List (Nat × Nat)):Prop where
  mem:∀ pr∈ps,pr.1∈l∧pr.2∈l∧G pr.1 pr.2 = true
  nd:(ends ps).Nodup
section
variable {G:Nat→Nat→Bool}
theorem zo9 (v:Nat→Nat) (g:Nat→Bool):∀ (r:List Nat) (m0:Nat),(r.foldl (fun m j=>if g j then max m (v j) else m) m0 = m0)∨∃ j∈r,g j = true∧r.foldl (fun m j=>if g j then max m (v j) else m) m0 = v j:=by
  intro r
  induction r with
  | nil =>
    intro m0
    exact .inl rfl
  | cons j r ih =>
    intro m0
    simp only [List.foldl_cons]
    rcases ih (if g j then max m0 (v j) else m0) with h | ⟨i,h1,h2,h3⟩
    · by_cases hg:g j = true
      · rw [if_pos hg] at h ⊢
        by_cases hm:m0≤v j
        · exact .inr ⟨j,by simp,hg,by rw [h]; lia⟩
        · exact .inl (by rw [h]; lia)
      · rw [if_neg hg] at h ⊢
        exact .inl h
    · exact .inr ⟨i,by simp [h1],h2,h3⟩
theorem zqb (v:Nat→Nat) (g:Nat→Bool):∀ (r:List Nat) (m0:Nat),m0≤r.foldl (fun m j=>if g j then max m (v j) else m) m0:=by
  intro r
  induction r with
  | nil =>
    intro m0
    exact Nat.le_refl _
  | cons j r ih =>
    intro m0
    simp only [List.foldl_cons]
    refine Nat.le_trans ?_ (ih _)
    split <;> lia
theorem zuq (v:Nat→Nat) (g:Nat→Bool):∀ (r:List Nat) (m0 j:Nat),j∈r→g j = true→v j≤r.foldl (fun m j=>if g j then max m (v j) else m) m0
  | j' ::r,m0,j,h,hg=>by
    simp only [List.foldl_cons]
    rcases List.mem_cons.1 h with rfl | h
    · refine Nat.le_trans ?_ (zqb v g r _)
      rw [if_pos hg]; lia
    · exact zuq v g r _ j h hg
theorem IsM.attain:∀ (f:Nat) (l:List Nat),l.Nodup→∃ ps,IsM G l ps∧ps.length = mmP G f l
  | _,[],_=>by
    refine ⟨[],⟨by simp,by simp [ends]⟩,?_⟩
    simp [mmP]
  | 0,i ::r,_=>⟨[],⟨by simp,by simp [ends]⟩,by simp [mmP]⟩
  | f + 1,i ::r,hn=>by
    simp only [mmP]
    rw [List.nodup_cons] at hn
    rcases zo9 (fun j=>mmP G f (r.filter (· != j)) + 1) (G i) r (mmP G f r) with h | ⟨j,h1,h2,h3⟩
    · obtain ⟨ps,h1,h2⟩:=IsM.attain f r hn.2
      exact ⟨ps,⟨fun pr hp=>by have:=h1.mem pr hp; simp [this.1,this.2.1,this.2.2],h1.nd⟩,by rw [h2]; exact h.symm⟩
    · obtain ⟨ps,h4,h5⟩:=IsM.attain f (r.filter (· != j)) (hn.2.filter _)
      have sub:∀ x∈ends ps,x∈r∧x≠j:=by
        intro x hx
        simp only [ends,List.mem_flatMap] at hx
        obtain ⟨pr,hp,hx⟩:=hx
        have:=h4.mem pr hp
        simp only [List.mem_filter,bne_iff_ne] at this
        simp only [List.mem_cons,List.not_mem_nil,or_false] at hx
        rcases hx with rfl | rfl
        · exact this.1
        · exact this.2.1
      refine ⟨(i,j) ::ps,⟨?_,?_⟩,by rw [List.length_cons,h5]; exact h3.symm⟩
      · intro pr hp
        rcases List.mem_cons.1 hp with rfl | hp
        · simp [h1,h2]
        · have:=h4.mem pr hp
          simp only [List.mem_filter] at this
          simp [this.1.1,this.2.1.1,this.2.2]
      · simp only [ends,List.flatMap_cons,List.cons_append,List.nil_append,List.nodup_cons,List.mem_cons]
        refine ⟨?_,?_,h4.nd⟩
        · rintro (e | e)
          · subst e; exact hn.1 h1
          · exact hn.1 (sub i e).1
        · intro e; exact (sub j e).2 rfl
theorem zuu {ps qs:List (Nat × Nat)} (h:ps.Perm qs):(ends ps).Perm (ends qs):=List.Perm.flatMap_right _ h
theorem IsM.complete (hs:∀ a b,G a b = true→G b a = true):∀ (f:Nat) (l:List Nat) (ps:List (Nat × Nat)),l.length≤f→IsM G l ps→ps.length≤mmP G f l
  | _,[],ps,_,h=>by
    cases ps with
    | nil=>simp
    | cons pr ps=>have:=(h.mem pr (by simp)).1; simp at this
  | 0,i ::r,ps,hl,h=>by simp at hl
  | f + 1,i ::r,ps,hl,h=>by
    simp only [mmP]
    by_cases hi:i∈ends ps
    · simp only [ends,List.mem_flatMap] at hi
      obtain ⟨pr,hp,hx⟩:=hi
      have hperm:=List.perm_cons_erase hp
      have hnd:=(zuu hperm).nodup_iff.1 h.nd
      simp only [ends,List.flatMap_cons,List.cons_append,List.nil_append,List.nodup_cons,List.mem_cons,not_or] at hnd
      have hlen:ps.length = (ps.erase pr).length + 1:=by rw [hperm.length_eq]; simp
      have hm:=h.mem pr hp
      have key:∀ j,(pr = (i,j)∨pr = (j,i))→ps.length≤r.foldl (fun m j=>if G i j = true then max m (mmP G f (r.filter (· != j)) + 1) else m) (mmP G f r):=by
        intro j hj
        have hij:i≠j:=by rcases hj with rfl | rfl; exact hnd.1.1; exact fun e=>hnd.1.1 e.symm
        have hjr:j∈r:=by
          rcases hj with rfl | rfl
          · rcases List.mem_cons.1 hm.2.1 with e | e
            · exact absurd e.symm hij
            · exact e
          · rcases List.mem_cons.1 hm.1 with e | e
            · exact absurd e.symm hij
            · exact e
        have hg:G i j = true:=by rcases hj with rfl | rfl; exact hm.2.2; exact hs _ _ hm.2.2
        refine Nat.le_trans ?_ (zuq (fun j=>mmP G f (r.filter (· != j)) + 1) (G i) r _ j hjr hg)
        rw [hlen]
        refine Nat.add_le_add_right (IsM.complete hs f _ _ (Nat.le_trans (List.length_filter_le _ _) (by simpa using hl)) ⟨fun q hq=>?_,hnd.2.2⟩) 1
        have:=h.mem q (List.mem_of_mem_erase hq)
        have e1:q.1∈ends (ps.erase pr):=List.mem_flatMap.2 ⟨q,hq,by simp⟩
        have e2:q.2∈ends (ps.erase pr):=List.mem_flatMap.2 ⟨q,hq,by simp⟩
        have n1:∀ x,x∈ends (ps.erase pr)→x≠i∧x≠j:=by
          intro x hx
          rcases hj with rfl | rfl
          · exact ⟨fun e=>hnd.1.2 (e ▸ hx),fun e=>hnd.2.1 (e ▸ hx)⟩
          · exact ⟨fun e=>hnd.2.1 (e ▸ hx),fun e=>hnd.1.2 (e ▸ hx)⟩
        simp only [List.mem_cons] at this
        simp only [List.mem_filter,bne_iff_ne]
        exact ⟨⟨this.1.resolve_left (n1 _ e1).1,(n1 _ e1).2⟩,⟨this.2.1.resolve_left (n1 _ e2).1,(n1 _ e2).2⟩,this.2.2⟩
      simp only [List.mem_cons,List.not_mem_nil,or_false] at hx
      rcases hx with e | e
      · exact key pr.2 (.inl (by rw [e]))
      · exact key pr.1 (.inr (by rw [e]))
    · refine Nat.le_trans (IsM.complete hs f r ps (by simpa using hl) ⟨fun pr hp=>?_,h.nd⟩) (zqb _ _ _ _)
      have:=h.mem pr hp
      have e1:pr.1∈ends ps:=List.mem_flatMap.2 ⟨pr,hp,by simp⟩
      have e2:pr.2∈ends ps:=List.mem_flatMap.2 ⟨pr,hp,by simp⟩
      simp only [List.mem_cons] at this
      exact ⟨this.1.resolve_left (fun e=>hi (e ▸ e1)),this.2.1.resolve_left (fun e=>hi (e ▸ e2)),this.2.2⟩
theorem zfe {φ:Nat→Nat}:∀ {l:List Nat},l.Nodup→(∀ a∈l,∀ b∈l,φ a = φ b→a = b)→(l.map φ).Nodup:=by
  intro l
  induction l with
  | nil =>
    intro _ _
    simp
  | cons a l ih =>
    intro h hi
    rw [List.nodup_cons] at h
    rw [List.map_cons,List.nodup_cons]
    refine ⟨fun hm=>?_,ih h.2 fun x hx y hy=>hi x (by simp [hx]) y (by simp [hy])⟩
    obtain ⟨b,hb,e⟩:=List.mem_map.1 hm
    exact h.1 (hi b (by simp [hb]) a (by simp) e ▸ hb)
theorem mm_le {G':Nat→Nat→Bool} {l l':List Nat} {f f':Nat} (φ:Nat→Nat) (h1:∀ a∈l,φ a∈l') (h2:∀ a∈l,∀ b∈l,φ a = φ b→a = b) (h3:∀ a∈l,∀ b∈l,G a b = true→G' (φ a) (φ b) = true)
    (hs:∀ a b,G' a b = true→G' b a = true) (hn:l.Nodup) (hf:l'.length≤f'):mmP G f l≤mmP G' f' l':=by
  obtain ⟨ps,m,e⟩:=IsM.attain (G:=G) f l hn
  rw [← e,← List.length_map (f:=fun pr:Nat × Nat=>(φ pr.1,φ pr.2))]
  refine IsM.complete hs _ _ _ hf ⟨?_,?_⟩
  · intro pr hp
    obtain ⟨q,hq,rfl⟩:=List.mem_map.1 hp
    have:=m.mem q hq
    exact ⟨h1 _ this.1,h1 _ this.2.1,h3 _ this.1 _ this.2.1 this.2.2⟩
  · have:ends (ps.map fun pr:Nat × Nat=>(φ pr.1,φ pr.2)) = (ends ps).map φ:=by
      simp [ends,List.flatMap_map,List.map_flatMap]
    rw [this]
    refine zfe m.nd fun a ha b hb=>h2 a ?_ b ?_
    · simp only [ends,List.mem_flatMap] at ha
      obtain ⟨pr,hp,hx⟩:=ha
      simp only [List.mem_cons,List.not_mem_nil,or_false] at hx
      have:=m.mem pr hp
      rcases hx with rfl | rfl
      · exact this.1
      · exact this.2.1
    · simp only [ends,List.mem_flatMap] at hb
      obtain ⟨pr,hp,hx⟩:=hb
      simp only [List.mem_cons,List.not_mem_nil,or_false] at hx
      have:=m.mem pr hp
      rcases hx with rfl | rfl
      · exact this.1
      · exact this.2.1
end
end Mine
end
section
open PySem
namespace Mine
section
variable {loc loc1 loc2:Loc} {hp hp1 hp2 hp3 hp4:Hp} {t:MT} {body:MS} {b tests:MB} {elt:ME} {fr own own1:Loc} {x y:AV} {xs ys:List AV} {R:Option (Fl × Loc × Hp)} {f i:Nat} {rd:Fn}
theorem zeh (h1:t x loc hp = some (loc1,hp1)) (h2:body loc1 hp1 = some (.nx,loc2,hp2)) (h3:forM t body xs loc2 hp2 = R):forM t body (x ::xs) loc hp = R:=bE h1 (bE h2 h3)
theorem for_rt (h1:t x loc hp = some (loc1,hp1)) (h2:body loc1 hp1 = some (.rt y,loc2,hp2)):forM t body (x ::xs) loc hp = some (.rt y,loc2,hp2):=bE h1 (bE h2 rfl)
theorem for_br (h1:t x loc hp = some (loc1,hp1)) (h2:body loc1 hp1 = some (.br,loc2,hp2)):forM t body (x ::xs) loc hp = some (.nx,loc2,hp2):=bE h1 (bE h2 rfl)
theorem zhf (h1:b loc hp = some (true,hp1)) (h2:body loc hp1 = some (.nx,loc2,hp2)) (h3:zcd b body f loc2 hp2 = R):zcd b body (f + 1) loc hp = R:=bE h1 (bE h2 h3)
theorem zpe (h1:b loc hp = some (true,hp1)) (h2:body loc hp1 = some (.ct,loc2,hp2)) (h3:zcd b body f loc2 hp2 = R):zcd b body (f + 1) loc hp = R:=bE h1 (bE h2 h3)
theorem zpf (h1:b loc hp = some (true,hp1)) (h2:body loc hp1 = some (.br,loc2,hp2)):zcd b body (f + 1) loc hp = some (.nx,loc2,hp2):=bE h1 (bE h2 rfl)
theorem zgh (h1:b loc hp = some (false,hp1)):zcd b body (f + 1) loc hp = some (.nx,loc,hp1):=bE h1 rfl
theorem zzy (h:zdy rd i hp = some (none,hp1)):zgv rd t body i (f + 1) loc hp = some (.nx,loc,hp1):=bE h rfl
theorem fc_nx (h:zdy rd i hp = some (some x,hp1)) (h1:t x loc hp1 = some (loc1,hp2)) (h2:body loc1 hp2 = some (.nx,loc2,hp3)) (h3:zgv rd t body i f loc2 hp3 = R):zgv rd t body i (f + 1) loc hp = R:=bE h (bE h1 (bE h2 h3))
theorem fc_ct (h:zdy rd i hp = some (some x,hp1)) (h1:t x loc hp1 = some (loc1,hp2)) (h2:body loc1 hp2 = some (.ct,loc2,hp3)) (h3:zgv rd t body i f loc2 hp3 = R):zgv rd t body i (f + 1) loc hp = R:=bE h (bE h1 (bE h2 h3))
theorem zzx (h:zdy rd i hp = some (some x,hp1)) (h1:t x loc hp1 = some (loc1,hp2)) (h2:body loc1 hp2 = some (.rt y,loc2,hp3)):zgv rd t body i (f + 1) loc hp = some (.rt y,loc2,hp3):=bE h (bE h1 (bE h2 rfl))
theorem cm_t (h1:t x own hp = some (own1,hp1)) (h2:tests (own1++fr) hp1 = some (true,hp2)) (h3:elt (own1++fr) hp2 = some (y,hp3)) (h4:zhy t tests elt fr xs own1 hp3 = some (ys,hp4)):zhy t tests elt fr (x ::xs) own hp = some (y ::ys,hp4):=bE h1 (bE h2 (bE h3 (bE h4 rfl)))
theorem cm_f {R:Option (List AV × Hp)} (h1:t x own hp = some (own1,hp1)) (h2:tests (own1++fr) hp1 = some (false,hp2)) (h4:zhy t tests elt fr xs own1 hp2 = R):zhy t tests elt fr (x ::xs) own hp = R:=bE h1 (bE h2 h4)
end
theorem zql {b:MB} {body:MS} (I:Nat→Loc→Hp→Prop) (J:Loc→Hp→Prop)
    (step:∀ n loc hp,I n loc hp→(∃ hp1,b loc hp = some (false,hp1)∧J loc hp1)∨
      ∃ hp1,b loc hp = some (true,hp1)∧∃ fl loc2 hp2,body loc hp1 = some (fl,loc2,hp2)∧(((fl = .nx∨fl = .ct)∧∃ m,m < n∧I m loc2 hp2)∨(fl = .br∧J loc2 hp2))) :
    ∀ f n loc hp,n < f→I n loc hp→∃ loc' hp',zcd b body f loc hp = some (.nx,loc',hp')∧J loc' hp':=by
  intro f
  induction f with
  | zero =>
    intro n loc hp hn h
    lia
  | succ f ih =>
    intro n loc hp hn h
    rcases step n loc hp h with ⟨hp1,e1,e2⟩ | ⟨hp1,e1,fl,loc2,hp2,e2,⟨e3,m,hm,e4⟩ | ⟨rfl,e4⟩⟩
    · exact ⟨loc,hp1,zgh e1,e2⟩
    · obtain ⟨loc',hp',e5,e6⟩:=ih m loc2 hp2 (by lia) e4
      rcases e3 with rfl | rfl
      · exact ⟨loc',hp',zhf e1 e2 e5,e6⟩
      · exact ⟨loc',hp',zpe e1 e2 e5,e6⟩
    · exact ⟨loc2,hp2,zpf e1 e2,e4⟩
theorem compM1 {α:Type} (g:α→AV) (tst:α→Bool) (e:α→AV) {tests:MB} {elt:ME} {fr:Loc} {hp:Hp}:∀ (l:List α) (o:Option AV)
    (h:∀ x∈l,tests (some (g x) ::fr) hp = some (tst x,hp)∧(tst x = true→elt (some (g x) ::fr) hp = some (e x,hp))),
    zhy (stE 0) tests elt fr (l.map g) [o] hp = some ((l.filter tst).map e,hp):=by
  intro l
  induction l with
  | nil =>
    intro o h
    exact rfl
  | cons x r ih =>
    intro o h
    have h1:=h x (by simp)
    have ih:=ih (some (g x)) fun y hy=>h y (by simp [hy])
    cases ht:tst x with
    | false =>
      rw [List.filter_cons_of_neg (by rw [ht]; decide)]
      exact cm_f rfl (h1.1.trans (by rw [ht])) ih
    | true =>
      rw [List.filter_cons_of_pos ht]
      exact cm_t rfl (h1.1.trans (by rw [ht])) (h1.2 ht) ih
theorem compL1 {α:Type} (g:α→AV) (tst:α→Bool) (e:α→AV) {tests:MB} {elt:ME} {frees:List Nat} {loc:Loc} {ite:Loc→Hp→Option (List AV × Hp)} {hp:Hp} (l:List α)
    (hi:ite loc hp = some (l.map g,hp)) (hl:l.length≤1000000)
    (h:∀ x∈l,tests (some (g x) ::pick frees loc) hp = some (tst x,hp)∧(tst x = true→elt (some (g x) ::pick frees loc) hp = some (e x,hp))) :
    zbo 1 frees ite (stE 0) tests elt loc hp = some ((l.filter tst).map e,hp):=by
  exact bE hi ((if_pos (by rw [List.length_map]; exact hl)).trans (compM1 g tst e l none h))
theorem zcr {α:Type} (l:List α):l.filter (fun _=>true) = l:=by simp
theorem zu2 {α:Type} (g:α→AV) {elt:ME} {fr:Loc} (I:List α→List AV→Hp→Prop)
    (step:∀ x r ys hp,I (x ::r) ys hp→∃ y hp1,elt (some (g x) ::fr) hp = some (y,hp1)∧I r (ys++[y]) hp1) :
    ∀ (l:List α) (o:Option AV) ys hp,I l ys hp→∃ zs hp',zhy (stE 0) (cstB true) elt fr (l.map g) [o] hp = some (zs,hp')∧I [] (ys++zs) hp':=by
  intro l
  induction l with
  | nil =>
    intro o ys hp h
    exact ⟨[],hp,rfl,by simpa using h⟩
  | cons x r ih =>
    intro o ys hp h
    obtain ⟨y,hp1,e1,e2⟩:=step x r ys hp h
    obtain ⟨zs,hp',e3,e4⟩:=ih (some (g x)) _ hp1 e2
    exact ⟨y ::zs,hp',cm_t rfl rfl e1 e3,by simpa using e4⟩
theorem zkz {α:Type} (g:α→AV) {elt:ME} {frees:List Nat} {loc:Loc} {ite:Loc→Hp→Option (List AV × Hp)} {hp:Hp} (I:List α→List AV→Hp→Prop) (l:List α)
    (hi:ite loc hp = some (l.map g,hp)) (hl:l.length≤1000000)
    (step:∀ x r ys hp,I (x ::r) ys hp→∃ y hp1,elt (some (g x) ::pick frees loc) hp = some (y,hp1)∧I r (ys++[y]) hp1) (h:I l [] hp) :
    ∃ zs hp',zbo 1 frees ite (stE 0) (cstB true) elt loc hp = some (zs,hp')∧I [] zs hp':=by
  obtain ⟨zs,hp',e1,e2⟩:=zu2 g I step l none [] hp h
  exact ⟨zs,hp',bE hi ((if_pos (by rw [List.length_map]; exact hl)).trans e1),by simpa using e2⟩
theorem Hp.ext' {a b:Hp} (h1:a.H = b.H) (h2:a.N = b.N):a = b:=by cases (a); cases (b); simp_all
theorem zfh (hp:Hp) (i:Nat) (a b:AO):(hp.put i a).put i b = hp.put i b:=by
  simp only [Hp.put,Hp.mk.injEq,and_true]; funext n; split <;> rfl
theorem zcb (hp:Hp) (i:Nat) (a:AO):(hp.put i a).H i = some a:=by simp [Hp.put]
theorem za1 (hp:Hp) {i j:Nat} (a:AO) (h:j≠i):(hp.put i a).H j = hp.H j:=by simp [Hp.put,h]
theorem zf3 (hp:Hp) (i:Nat) (a:AO):(hp.put i a).N = hp.N:=rfl
theorem zgu {hp:Hp} {i:Nat} {a:AO} (h:hp.H i = some a):hp.put i a = hp:=by
  cases (hp); simp only [Hp.put,Hp.mk.injEq,and_true]; funext n; split
  · subst_vars; exact h.symm
  · rfl
theorem zfr (hp:Hp) (a:AO):(hp.new a).H hp.N = some a:=by simp [Hp.new]
theorem zct (hp:Hp) {j:Nat} (a:AO) (h:j≠hp.N):(hp.new a).H j = hp.H j:=by simp [Hp.new,h]
theorem zi7 (hp:Hp) (a:AO):(hp.new a).N = hp.N + 1:=rfl
theorem zb8 (hp:Hp) {i j:Nat} (h:j≠i):(hp.free i).H j = hp.H j:=by simp [Hp.free,h]
structure Upp (hp hp':Hp):Prop where
  n:hp.N≤hp'.N
  h:∀ j,j < hp.N→hp'.H j = hp.H j
theorem Upp.refl (hp:Hp):Upp hp hp:=⟨Nat.le_refl _,fun _ _=>rfl⟩
theorem Upp.trans {a b c:Hp} (h:Upp a b) (g:Upp b c):Upp a c:=⟨Nat.le_trans h.n g.n,fun j hj=>(g.h j (Nat.lt_of_lt_of_le hj h.n)).trans (h.h j hj)⟩
theorem zqn:∀ (l:List Int),zg5 (l.map .int) = some (l.map PyData.int):=by
  intro l
  induction l with
  | nil =>
    exact rfl
  | cons i l ih =>
    simp [zi4,zi5,zez,ze1,zey,zex,ze0,ih]
theorem zd5 {α:Type} (g:α→AV) (d:α→PyData) (h:∀ x,toPy (g x) = some (d x)):∀ l:List α,zg5 (l.map g) = some (l.map d):=by
  intro l
  induction l with
  | nil =>
    exact rfl
  | cons i l ih =>
    simp [zi4,zi5,h,ih]
theorem znh {α:Type} (g:α→AV) (d:α→PyData):∀ (l:List α) (h:∀ x∈l,toPy (g x) = some (d x)),zg5 (l.map g) = some (l.map d):=by
  intro l
  induction l with
  | nil =>
    intro _
    exact rfl
  | cons i l ih =>
    intro h
    simp [zi4,zi5,h i (by simp),ih fun x hx=>h x (by simp [hx])]
theorem zdh (n:Nat):∀ (l:List PyData),(∀ x∈l,x.depth≤n)→PyData.depthAll l≤n:=by
  intro l
  induction l with
  | nil =>
    intro _
    simp [PyData.depthAll]
  | cons x l ih =>
    intro h
    have:=ih fun y hy=>h y (by simp [hy])
    have:=h x (by simp)
    simp only [PyData.depthAll]; lia
theorem zm5 {xs:List AV} {ds:List PyData} (h:zg5 xs = some ds) (hd:∀ d∈ds,d.depth≤50):eqB (.fl xs) (.fl []) = some (decide (xs = [])):=by
  have h2:=zdh 50 ds hd
  have h3:(PyData.list ds).depth≤60:=by simp only [PyData.depth]; lia
  simp only [eqB,zez,ze1,zey,zex,ze0,h,Option.bind_eq_bind,Option.map_some,Option.bind_some,zi4,zi5]
  rw [if_pos h3]
  cases xs with
  | nil=>simp [zi4,zi5] at h; subst h; simp [PyData.eqv,PyData.eqvAll]
  | cons x xs =>
    simp only [zi4,zi5,Option.bind_eq_bind,Option.bind_eq_some_iff] at h
    obtain ⟨d,_,ds',_,e⟩:=h
    replace e:=Option.some.inj e; subst e
    simp [PyData.eqv,PyData.eqvAll]
theorem addA_t (a b:List AV) (hp:Hp):addA (.tup a) (.tup b) hp = if a.length + b.length≤1000000 then some (.tup (a++b),hp) else none:=rfl
theorem eqS_i (a b:Int):eqS (.int a) (.int b) = some (a == b):=rfl
theorem eqS_s (a b:List Nat):eqS (.str a) (.str b) = some (a == b):=rfl
section
variable {loc loc1 loc2:Loc} {hp hp1 hp2 hp3:Hp} {x y v:AV} {xs ys:List AV} {m m1 m2 m3:ME} {ms:MEs} {ml:ML} {b c:MB} {s s1 s2:MS} {t:MT} {R:Option (Fl × Loc × Hp)} {RB:Option (Bool × Hp)} {RV:Option (AV × Hp)} {q:Bool}
theorem zaz (h:m loc hp = some (v,hp1)) (h2:t v loc hp1 = some (loc1,hp2)):asgS m t loc hp = some (.nx,loc1,hp2):=bE h (bE h2 rfl)
theorem zcu (h:m loc hp = some (v,hp1)):zcl m loc hp = some (.nx,loc,hp1):=bE h rfl
theorem zdp (h:m loc hp = some (v,hp1)):retS m loc hp = some (.rt v,loc,hp1):=bE h rfl
theorem zao (h:s1 loc hp = some (.nx,loc1,hp1)) (h2:s2 loc1 hp1 = R):seqS s1 s2 loc hp = R:=bE h h2
theorem zb6 (h:s1 loc hp = some (.rt v,loc1,hp1)):seqS s1 s2 loc hp = some (.rt v,loc1,hp1):=bE h rfl
theorem zpq (h:s1 loc hp = some (.br,loc1,hp1)):seqS s1 s2 loc hp = some (.br,loc1,hp1):=bE h rfl
theorem zpp (h:s1 loc hp = some (.ct,loc1,hp1)):seqS s1 s2 loc hp = some (.ct,loc1,hp1):=bE h rfl
theorem za2 (h:s1 loc hp = some (.nx,loc1,hp1)):seqS s1 nilS loc hp = some (.nx,loc1,hp1):=bE h rfl
theorem zfi (h:b loc hp = some (true,hp1)) (h2:s1 loc hp1 = R):iteS b s1 s2 loc hp = R:=bE h h2
theorem zdb (h:b loc hp = some (false,hp1)) (h2:s2 loc hp1 = R):iteS b s1 s2 loc hp = R:=bE h h2
theorem zh4 (h:m loc hp = some (x,hp1)) (h2:truA hp1 x = some q):tru m loc hp = some (q,hp1):=bE h (bE h2 rfl)
theorem zb2 (h:m loc hp = some (.bool q,hp1)):tru m loc hp = some (q,hp1):=zh4 h rfl
theorem zxa (h:b loc hp = some (true,hp1)) (h2:c loc hp1 = RB):andB b c loc hp = RB:=bE h h2
theorem zxb (h:b loc hp = some (false,hp1)):andB b c loc hp = some (false,hp1):=bE h rfl
theorem zlg {q1 q2:Bool} (h:b loc hp = some (q1,hp)) (h2:c loc hp = some (q2,hp)):andB b c loc hp = some (q1 && q2,hp):=by
  cases q1 with
  | true=>exact bE h h2
  | false=>exact bE h rfl
theorem or_f (h:b loc hp = some (false,hp1)) (h2:c loc hp1 = RB):orB b c loc hp = RB:=bE h h2
theorem zpy (h:b loc hp = some (q,hp1)):notB b loc hp = some (!q,hp1):=bE h rfl
theorem zav {f:Fn} (h:ms loc hp = some (xs,hp1)) (h2:f xs hp1 = RV):zas f ms loc hp = RV:=bE h h2
theorem zc8 {T:String} {f:Fn} (h:m loc hp = some (x,hp1)) (hk:zo2 hp1 T x = true) (h1:ms loc hp1 = some (xs,hp2)) (h2:f (x ::xs) hp2 = RV):zcc T f m ms loc hp = RV:=bE h ((if_pos hk).trans (bE h1 h2))
theorem zdf {c:Nat} {f:Fn} (h:m loc hp = some (x,hp1)) (hk:zn4 c x hp1 = true) (h1:ms loc hp1 = some (xs,hp2)) (h2:f (x ::xs) hp2 = RV):zcj c f m ms loc hp = RV:=bE h ((if_pos hk).trans (bE h1 h2))
theorem zai (h:m loc hp = some (x,hp1)) (h2:ms loc hp1 = some (xs,hp2)):zac m ms loc hp = some (x ::xs,hp2):=bE h (bE h2 rfl)
theorem zbw (h:ml loc hp = some (xs,hp1)):flz ml loc hp = some (.fl xs,hp1):=bE h rfl
theorem zfl (h:ml loc hp = some (xs,hp1)):lcz ml loc hp = some (.loc hp1.N,hp1.new (.list xs)):=bE h rfl
theorem zd8 {n:Nat} (h:n≤10000):n≤1000000:=Nat.le_trans h (by decide)
theorem zgr (h:ms loc hp = some (xs,hp1)) (hl:xs.length≤10000):tupE ms loc hp = some (.tup xs,hp1):=bE h (if_pos (zd8 hl))
theorem zc9 (h:ms loc hp = some (xs,hp1)) (hl:xs.length≤10000):lstE ms loc hp = some (xs,hp1):=bE h (if_pos (zd8 hl))
theorem zfn {ite:Loc→Hp→Option (List AV × Hp)} (h:ite loc hp = some (xs,hp1)) (h2:forM t s xs loc hp1 = R):forS ite t s loc hp = R:=bE h h2
theorem zb5 (h:m loc hp = some (x,hp1)) (h2:zji x = some xs):valI m loc hp = some (xs,hp1):=bE h (bE h2 rfl)
theorem zei {c i:Nat} (h:m loc hp = some (x,hp1)) (h2:zoa c i x hp1 = some v) (h3:okV v = true):attE c i m loc hp = some (v,hp1):=bE h (bE h2 (if_pos h3))
theorem zfp {c i:Nat} {mo:ME} (h1:m loc hp = some (v,hp1)) (h2:mo loc hp1 = some (x,hp2)) (h3:zq6 c i x v hp2 = some hp3):zee c i m mo loc hp = some (.nx,loc,hp3):=bE h1 (bE h2 (bE h3 rfl))
theorem zh7 {o i:AV} {mo mi:ME} (h1:m loc hp = some (v,hp1)) (h2:mo loc hp1 = some (o,hp2)) (h3:mi loc hp2 = some (i,hp3)) {hp4:Hp} (h4:setA o i v hp3 = some hp4):subS m mo mi loc hp = some (.nx,loc,hp4):=bE h1 (bE h2 (bE h3 (bE h4 rfl)))
theorem una_eq {op:AV→Hp→Option (AV × Hp)} (h1:m loc hp = some (x,hp1)) (h2:op x hp1 = RV):una op m loc hp = RV:=bE h1 h2
theorem zam {op:AV→AV→Hp→Option (AV × Hp)} (h1:m1 loc hp = some (x,hp1)) (h2:m2 loc hp1 = some (y,hp2)) (h3:op x y hp2 = RV):bin op m1 m2 loc hp = RV:=bE h1 (bE h2 h3)
theorem zdv {np n:Nat} {args:List AV} (hl:args.length = np) (h:s (args.map some++List.replicate (n - np) none) hp = some (.rt v,loc1,hp1)):runF np n s args hp = some (v,hp1):=(if_pos hl).trans (bE h rfl)
theorem zkf {np n:Nat} {args:List AV} (hl:args.length = np) (h:s (args.map some++List.replicate (n - np) none) hp = some (.nx,loc1,hp1)):runF np n s args hp = some (.none,hp1):=(if_pos hl).trans (bE h rfl)
theorem zho (h:xs.length≤10000):lenF [.fl xs] hp = some (.int xs.length,hp):=if_pos (zd8 h)
theorem zo0 (h:xs.length≤10000):lenF [.tup xs] hp = some (.int xs.length,hp):=if_pos (zd8 h)
theorem len_str {xs:List Nat} (h:xs.length≤10000):lenF [.str xs] hp = some (.int xs.length,hp):=if_pos (zd8 h)
theorem zyb {i j:Nat} {a b:AV} (h:m loc hp = some (.tup [a,b],hp1)) (h1:stE j b loc hp1 = some (loc1,hp2)) (h2:stE i a loc1 hp2 = some (loc2,hp3)):zvm m i j loc hp = some (.nx,loc2,hp3):=bE h (bE h1 (bE h2 rfl))
theorem zhb {i L:Nat} (h0:loc[i]? = some (some (.loc L))) (h:hp.H L = some (.list xs)):frzS i loc hp = some (.nx,loc.set i (some (.fl xs)),hp.free L):=bE h0 (bE rfl (lE h rfl))
theorem zhn {L:Nat} {c i:Nat} {fs:List (Option AV)} (h:hp.H L = some (.inst c fs)) (hi:i < fs.length):zq6 c i (.loc L) v hp = some (hp.put L (.inst c (fs.set i (some v)))):=iE h (if_pos ⟨rfl,hi⟩)
theorem zg0 {L:Nat} {c i:Nat} {fs:List (Option AV)} (h:hp.H L = some (.inst c fs)) (hi:fs[i]? = some (some v)):zoa c i (.loc L) hp = some v:=iE h ((if_pos rfl).trans (bE hi rfl))
end
noncomputable def Ok (l:List Nat):Prop:=∀ c∈l,c < 1114112
theorem zjr {l:List Nat} (h:Ok l):toPy (.str l) = some (.str ⟨l.toArray⟩):=by
  have:l.all (· < 1114112) = true:=by simpa [Ok] using h
  simp only [zez,ze1,zey,zex,ze0]; exact if_pos this
theorem zur {a b:List Nat} (ha:Ok a) (hb:Ok b):eqB (.str a) (.str b) = some (decide (a = b)):=by
  simp only [eqB,zjr ha,zjr hb,Option.bind_eq_bind,Option.bind_some]
  rw [if_pos (by simp [PyData.depth])]
  simp only [PyData.eqv,Option.some.injEq]
  rw [Bool.eq_iff_iff]
  simp
theorem zhw {a b:List Nat} (ha:Ok a) (hb:Ok b) (hp:Hp):eqA (.str a) (.str b) hp = some (.bool (decide (a = b)),hp):=by simp [eqA,zur ha hb]
theorem zkn {a b:List Nat} (ha:Ok a) (hb:Ok b) (hp:Hp):neA (.str a) (.str b) hp = some (.bool !(decide (a = b)),hp):=by simp [neA,zur ha hb]
theorem ok1 {c:Nat} (h:c < 1114112):Ok [c]:=by intro x hx; simp at hx; lia
noncomputable def wsP:List Nat→Nat→Nat→Nat→List Int→Nat × Nat × Nat × List Int
  | [],n,nt,b,cnt=>(n,nt,b,cnt)
  | c ::r,n,nt,b,cnt=>if c = 32 then wsP r (n + 1) nt (b + 1) cnt else if c = 9 then
      (if cnt.length≤b then wsP r (n + 1) (nt + 1) 0 ((cnt++List.replicate (b - cnt.length + 1) 0).set b ((cnt++List.replicate (b - cnt.length + 1) 0).getD b 0 + 1))
       else wsP r (n + 1) (nt + 1) 0 (cnt.set b (cnt.getD b 0 + 1))) else (n,nt,b,cnt)
theorem zne:∀ n nt b cnt,wsP [] n nt b cnt =
   ((n,nt,b,cnt)):=fun _ _ _ _=>rfl
theorem znd:∀ c r n nt b cnt,wsP (c ::r) n nt b cnt =
   (if c = 32 then wsP r (n + 1) nt (b + 1) cnt else if c = 9 then
      (if cnt.length≤b then wsP r (n + 1) (nt + 1) 0 ((cnt++List.replicate (b - cnt.length + 1) 0).set b ((cnt++List.replicate (b - cnt.length + 1) 0).getD b 0 + 1))
       else wsP r (n + 1) (nt + 1) 0 (cnt.set b (cnt.getD b 0 + 1))) else (n,nt,b,cnt)):=fun _ _ _ _ _ _=>rfl
noncomputable def znf:MS:=(seqS (iteS (tru (bin eqA (lcl 8) (lcl 2))) (seqS (asgS (bin addA (lcl 6) (cst (.int 1))) (stE 6)) (seqS (asgS (bin addA (lcl 5) (cst (.int 1))) (stE 5)) nilS)) (seqS (iteS (tru (bin eqA (lcl 8) (lcl 3))) (seqS (asgS (bin addA (lcl 6) (cst (.int 1))) (stE 6)) (seqS (asgS (bin addA (lcl 7) (cst (.int 1))) (stE 7)) (seqS (iteS (tru (bin geA (lcl 5) (zas lenF (zac (lcl 4) zaf)))) (seqS (asgS (lcz (catL (lcl 4) (flz (mulL (flz (lstE (zac (cst (.int 0)) zaf))) (bin addA (bin subA (lcl 5) (zas lenF (zac (lcl 4) zaf))) (cst (.int 1))))))) (stE 4)) nilS) nilS) (seqS (subS (bin addA (bin zaq (lcl 4) (lcl 5)) (cst (.int 1))) (lcl 4) (lcl 5)) (seqS (asgS (cst (.int 0)) (stE 5)) nilS))))) (seqS brS nilS)) nilS)) nilS)
noncomputable def zg4 (self ws:AV) (L:Nat) (n nt b:Nat) (x:Option AV):Loc:=[some self,some ws,some (.str [32]),some (.str [9]),some (.loc L),some (.int b),some (.int n),some (.int nt),x]
theorem zly {i:Nat} {loc loc1:Loc} {hp:Hp} {n:Nat} (h:lcl i loc hp = some (.int n,hp)) (h2:stE i (.int (n + 1:Nat)) loc hp = some (loc1,hp)):asgS (bin addA (lcl i) (cst (.int 1))) (stE i) loc hp = some (.nx,loc1,hp):=zaz (zam h rfl rfl) h2
theorem zj3 {i j:Nat} {loc:Loc} {hp:Hp} {a b:List Nat} {q:Bool} (h1:lcl i loc hp = some (.str a,hp)) (h2:lcl j loc hp = some (.str b,hp)) (ha:Ok a) (hb:Ok b) (hq:decide (a = b) = q):tru (bin eqA (lcl i) (lcl j)) loc hp = some (q,hp):=hq ▸ zb2 (zam h1 h2 (zhw ha hb hp))
theorem zvf (self ws:AV) (L n nt b:Nat) (hp:Hp):znf (zg4 self ws L n nt b (some (.str [32]))) hp = some (.nx,zg4 self ws L (n + 1) nt (b + 1) (some (.str [32])),hp) :=
  za2 (zfi (zj3 rfl rfl (ok1 (by decide)) (ok1 (by decide)) rfl) (zao (zly rfl rfl) (za2 (zly rfl rfl))))
theorem ne1 {a b:Nat} (h:a≠b):decide ([a] = [b]) = false:=decide_eq_false fun e=>h (List.head_eq_of_cons_eq e)
theorem zvg (self ws:AV) (L n nt b c:Nat) (hc:c < 1114112) (h1:c≠32) (h2:c≠9) (hp:Hp):znf (zg4 self ws L n nt b (some (.str [c]))) hp = some (.br,zg4 self ws L n nt b (some (.str [c])),hp) :=
  zpq (zdb (zj3 rfl rfl (ok1 hc) (ok1 (by decide)) (ne1 h1)) (zpq (zdb (zj3 rfl rfl (ok1 hc) (ok1 (by decide)) (ne1 h2)) (zpq rfl))))
theorem getElem?_map_int (cnt:List Int) (b:Nat) (h:b < cnt.length):(cnt.map AV.int)[b]? = some (AV.int (cnt.getD b 0)):=by
  simp [List.getD_eq_getElem?_getD,h]
noncomputable def wsExt:ML:=(catL (lcl 4) (flz (mulL (flz (lstE (zac (cst (.int 0)) zaf))) (bin addA (bin subA (lcl 5) (zas lenF (zac (lcl 4) zaf))) (cst (.int 1))))))
theorem zeq {hp:Hp} {L:Nat} {xs:List AV} (h:hp.H L = some (.list xs)) (hl:xs.length≤1000):lenF [.loc L] hp = some (.int xs.length,hp):=bE (lE h rfl) (if_pos (zd8 (Nat.le_trans hl (by decide))))
theorem ztt {m1 m2:ME} {loc:Loc} {hp hp1 hp2:Hp} {a x:AV} {i:Int} (h1:m1 loc hp = some (a,hp1)) (h2:m2 loc hp1 = some (.int i,hp2)) (h3:zc0 hp2 a = some [x]) (h4:0≤i) (h5:i≤1000) :
    mulL m1 m2 loc hp = some (List.replicate i.toNat x,hp2):=bE h1 (bE h2 (bE h3 (if_pos ⟨h4,Int.le_trans h5 (by decide)⟩)))
theorem zu6 {m1 m2:ME} {loc:Loc} {hp hp1 hp2:Hp} {a b:AV} {xs ys:List AV} (h1:m1 loc hp = some (a,hp1)) (h2:m2 loc hp1 = some (b,hp2)) (h3:zc0 hp2 a = some xs) (h4:zc0 hp2 b = some ys) (h5:xs.length + ys.length≤10000) :
    catL m1 m2 loc hp = some (xs++ys,hp2):=bE h1 (bE h2 (bE h3 (bE h4 (if_pos (zd8 h5)))))
theorem nn (i:Nat):(0:Int)≤(i:Int):=Int.natCast_nonneg i
theorem ltm {i:Nat} (h:i < 100000):(i:Int) < 1000000:=Int.ofNat_lt.2 (Nat.lt_trans h (by decide))
theorem zw4 {α β:Type} {xs:List α} {i:Nat} {v:α} (f:α→β) (e:xs[i]? = some v):(xs[(i:Int).toNat]?).map f = some (f v):=congrArg (Option.map f) e
theorem zcn {hp:Hp} {L i:Nat} {xs:List AV} {v:AV} (h:hp.H L = some (.list xs)) (hi:i < 100000) (e:xs[i]? = some v):zaq (.loc L) (.int i) hp = some (v,hp):=(zr4 L i hp).trans (bE (lE h rfl) ((if_pos (nn i)).trans ((if_pos (ltm hi)).trans (zw4 (·,hp) e))))
theorem zc3 {hp:Hp} {i:Nat} {xs:List AV} {v:AV} (hi:i < 100000) (e:xs[i]? = some v):zaq (.fl xs) (.int i) hp = some (v,hp):=(zye xs i hp).trans (bE (zwq hp xs) ((if_pos (nn i)).trans ((if_pos (ltm hi)).trans (zw4 (·,hp) e))))
theorem znj {hp:Hp} {i:Nat} {xs:List AV} {v:AV} (hi:i < 100000) (e:xs[i]? = some v):zaq (.tup xs) (.int i) hp = some (v,hp):=(zyc xs i hp).trans ((if_pos ⟨nn i,ltm hi⟩).trans (zw4 (·,hp) e))
theorem zr3 {hp:Hp} {i:Nat} {xs:List Nat} {v:Nat} (hi:i < 100000) (e:xs[i]? = some v):zaq (.str xs) (.int i) hp = some (.str [v],hp):=(zyd xs i hp).trans ((if_pos ⟨nn i,ltm hi⟩).trans (zw4 (fun c=>(AV.str [c],hp)) e))
theorem zgd {hp:Hp} {L i:Nat} {xs:List AV} {v:AV} (h:hp.H L = some (.list xs)) (hi:i < 100000) (e:i < xs.length):setA (.loc L) (.int i) v hp = some (hp.put L (.list (xs.set i v))):=(setA_e L i v hp).trans (lE h (if_pos ⟨nn i,Int.ofNat_lt.2 e,ltm hi⟩))
theorem zvi (self ws:AV) (L n nt b:Nat) (cnt:List Int) (x:Option AV) (hp:Hp) (hL:hp.H L = some (.list (cnt.map .int))) (hb:cnt.length≤b) (hl:b≤900) :
    wsExt (zg4 self ws L n nt b x) hp = some ((cnt++List.replicate (b - cnt.length + 1) 0).map .int,hp):=by
  have e0:=zeq hL (by rw [List.length_map]; exact Nat.le_trans hb (Nat.le_trans hl (by decide)))
  rw [List.length_map] at e0
  have e1:(b:Int) - cnt.length + 1 = ((b - cnt.length + 1:Nat):Int):=by lia
  have e2:=zbw (ztt (m2:=bin addA (bin subA (lcl 5) (zas lenF (zac (lcl 4) zaf))) (cst (.int 1))) (m1:=flz (lstE (zac (cst (.int 0)) zaf))) (loc:=zg4 self ws L n nt b x) (x:=.int 0) (zbw (zc9 (zai rfl rfl) (by decide))) (zam (m1:=bin subA (lcl 5) (zas lenF (zac (lcl 4) zaf))) (zam (m1:=lcl 5) (x:=.int b) rfl (zav (zai (m:=lcl 4) rfl rfl) e0) rfl) (m2:=cst (.int 1)) rfl (congrArg (fun z=>some (AV.int z,hp)) e1)) rfl (nn (b - cnt.length + 1)) (by lia))
  rw [List.map_append,List.map_replicate]
  exact zu6 rfl e2 (lE hL rfl) rfl (by rw [List.length_map,List.length_replicate]; show _ + (b - cnt.length + 1)≤_; lia)
theorem zx7 (self ws:AV) (L n nt b:Nat) (cnt:List Int) (hp:Hp) (hL:hp.H L = some (.list (cnt.map .int))) (hb:b < cnt.length) (hl:cnt.length≤1000) :
    znf (zg4 self ws L n nt b (some (.str [9]))) hp = some (.nx,zg4 self ws L (n + 1) (nt + 1) 0 (some (.str [9])),hp.put L (.list ((cnt.set b (cnt.getD b 0 + 1)).map .int))):=by
  have e0:=zeq hL (by rw [List.length_map]; exact hl)
  have t0:tru (bin geA (lcl 5) (zas lenF (zac (lcl 4) zaf))) (zg4 self ws L (n + 1) (nt + 1) b (some (.str [9]))) hp = some (false,hp) :=
    zb2 (zam rfl (zav (zai rfl rfl) e0) (by rw [List.length_map]; exact congrArg (fun z=>some (AV.bool z,hp)) (decide_eq_false (by lia))))
  have e4:=zgd (v:=.int (cnt.getD b 0 + 1)) hL (i:=b) (by lia) (by rw [List.length_map]; exact hb)
  rw [← List.map_set] at e4
  exact za2 (zdb (zj3 rfl rfl (ok1 (by decide)) (ok1 (by decide)) rfl) (za2 (zfi (zj3 rfl rfl (ok1 (by decide)) (ok1 (by decide)) rfl) (zao (zly rfl rfl) (zao (zly rfl rfl) (zao (zdb t0 rfl) (zao (zh7 (zam (zam rfl rfl (zcn hL (by lia) (getElem?_map_int cnt b hb))) rfl rfl) rfl rfl e4) (za2 (zaz rfl rfl)))))))))
theorem zx6 (self ws:AV) (L n nt b:Nat) (cnt:List Int) (hp:Hp) (hL:hp.H L = some (.list (cnt.map .int))) (hb:cnt.length≤b) (hl:b≤900) :
    znf (zg4 self ws L n nt b (some (.str [9]))) hp = some (.nx,zg4 self ws hp.N (n + 1) (nt + 1) 0 (some (.str [9])),(hp.new (.list ((cnt++List.replicate (b - cnt.length + 1) 0).map .int))).put hp.N (.list (((cnt++List.replicate (b - cnt.length + 1) 0).set b ((cnt++List.replicate (b - cnt.length + 1) 0).getD b 0 + 1)).map .int))):=by
  have e1:=zvi self ws L (n + 1) (nt + 1) b cnt (some (.str [9])) hp hL hb hl
  generalize hc:cnt++List.replicate (b - cnt.length + 1) 0 = c2 at e1 ⊢
  have e9:b < c2.length:=by rw [← hc]; simp; lia
  have e10:=getElem?_map_int _ b e9
  have e11:=zcn (L:=hp.N) (i:=b) (zfr hp (.list (c2.map .int))) (by lia) e10
  have e12:=zgd (L:=hp.N) (i:=b) (v:=.int (c2.getD b 0 + 1)) (zfr hp (.list (c2.map .int))) (by lia) (by simpa using e9)
  have e14:=zeq hL (by rw [List.length_map]; exact Nat.le_trans hb (Nat.le_trans hl (by decide)))
  have t0:tru (bin geA (lcl 5) (zas lenF (zac (lcl 4) zaf))) (zg4 self ws L (n + 1) (nt + 1) b (some (.str [9]))) hp = some (true,hp) :=
    zb2 (zam rfl (zav (zai rfl rfl) e14) (by rw [List.length_map]; exact congrArg (fun z=>some (AV.bool z,hp)) (decide_eq_true (by lia))))
  rw [← List.map_set] at e12
  exact za2 (zdb (zj3 rfl rfl (ok1 (by decide)) (ok1 (by decide)) rfl) (za2 (zfi (zj3 rfl rfl (ok1 (by decide)) (ok1 (by decide)) rfl) (zao (zly rfl rfl) (zao (zly rfl rfl) (zao (zfi t0 (za2 (zaz (zfl e1) rfl))) (zao (zh7 (zam (zam rfl rfl e11) rfl rfl) rfl rfl e12) (za2 (zaz rfl rfl)))))))))
theorem ws_run (self ws:AV) (N0:Nat):∀ (cs:List Nat) (n nt b:Nat) (cnt:List Int) (L:Nat) (x:Option AV) (hp:Hp),Ok cs→hp.H L = some (.list (cnt.map .int))→N0≤L→L < hp.N→b + cs.length≤900→cnt.length≤900→
    ∃ L' x' hp',forM (stE 8) znf (cs.map fun c=>.str [c]) (zg4 self ws L n nt b x) hp = some (.nx,zg4 self ws L' (wsP cs n nt b cnt).1 (wsP cs n nt b cnt).2.1 (wsP cs n nt b cnt).2.2.1 x',hp')∧hp'.H L' = some (.list ((wsP cs n nt b cnt).2.2.2.map .int))∧
      N0≤L'∧L' < hp'.N∧hp.N≤hp'.N∧(∀ j,j < N0→hp'.H j = hp.H j)∧(wsP cs n nt b cnt).2.2.2.length≤900:=by
  intro cs
  induction cs with
  | nil =>
    intro n nt b cnt L x hp hok hL h0 h1 h2 h3
    exact ⟨L,x,hp,rfl,hL,h0,h1,Nat.le_refl _,fun _ _=>rfl,h3⟩
  | cons c r ih =>
    intro n nt b cnt L x hp hok hL h0 h1 h2 h3
    have hc:c < 1114112:=hok c (by simp)
    have hr:Ok r:=fun y hy=>hok y (by simp [hy])
    have es:stE 8 (.str [c]) (zg4 self ws L n nt b x) hp = some (zg4 self ws L n nt b (some (.str [c])),hp):=rfl
    simp only [List.length_cons] at h2
    by_cases c1:c = 32
    · subst c1
      obtain ⟨L',x',hp',e1,e2⟩:=ih (n + 1) nt (b + 1) cnt L (some (.str [32])) hp hr hL h0 h1 (by lia) h3
      rw [show wsP (32 ::r) n nt b cnt = _ from if_pos rfl]
      exact ⟨L',x',hp',zeh es (zvf ..) e1,e2⟩
    · by_cases c2:c = 9
      · subst c2
        by_cases hb:cnt.length≤b
        · have hw:wsP (9 ::r) n nt b cnt = wsP r (n + 1) (nt + 1) 0 ((cnt++List.replicate (b - cnt.length + 1) 0).set b ((cnt++List.replicate (b - cnt.length + 1) 0).getD b 0 + 1)):=by
            exact (if_neg (by decide)).trans ((if_pos rfl).trans (if_pos hb))
          rw [hw]
          obtain ⟨L',x',hp',e1,e2,e3,e4,e5,e6,e7⟩:=ih (n + 1) (nt + 1) 0 ((cnt++List.replicate (b - cnt.length + 1) 0).set b ((cnt++List.replicate (b - cnt.length + 1) 0).getD b 0 + 1)) hp.N (some (.str [9]))
            ((hp.new (.list ((cnt++List.replicate (b - cnt.length + 1) 0).map .int))).put hp.N (.list (((cnt++List.replicate (b - cnt.length + 1) 0).set b ((cnt++List.replicate (b - cnt.length + 1) 0).getD b 0 + 1)).map .int))) hr (zcb _ _ _) (by lia) (by simp only [zf3,zi7]; lia) (by lia) (by simp; lia)
          refine ⟨L',x',hp',zeh es (zx6 _ _ _ _ _ _ _ _ hL hb (by lia)) e1,e2,e3,e4,?_,?_,e7⟩
          · simp only [zf3,zi7] at e5; lia
          · intro j hj
            rw [e6 j hj,za1 _ _ (by lia),zct _ _ (by lia)]
        · have hw:wsP (9 ::r) n nt b cnt = wsP r (n + 1) (nt + 1) 0 (cnt.set b (cnt.getD b 0 + 1)):=by
            exact (if_neg (by decide)).trans ((if_pos rfl).trans (if_neg hb))
          rw [hw]
          obtain ⟨L',x',hp',e1,e2,e3,e4,e5,e6,e7⟩:=ih (n + 1) (nt + 1) 0 (cnt.set b (cnt.getD b 0 + 1)) L (some (.str [9])) (hp.put L (.list ((cnt.set b (cnt.getD b 0 + 1)).map .int))) hr (zcb _ _ _) h0 (by simpa only [zf3] using h1) (by lia) (by simp; lia)
          refine ⟨L',x',hp',zeh es (zx7 _ _ _ _ _ _ _ _ hL (by lia) (by lia)) e1,e2,e3,e4,e5,?_,e7⟩
          intro j hj
          rw [e6 j hj,za1 _ _ (by lia)]
      · rw [show wsP (c ::r) n nt b cnt = _ from (if_neg c1).trans (if_neg c2)]
        exact ⟨L,some (.str [c]),hp,for_br es (zvg _ _ _ _ _ _ _ hc c1 c2 _),hL,h0,h1,Nat.le_refl _,fun _ _=>rfl,h3⟩
noncomputable def wobj (w:List Nat) (r:Nat × Nat × Nat × List Int):AV:=.obj 1 [.str w,.int r.1,.int r.2.1,.tup [.tup (r.2.2.2.map .int),.int r.2.2.1],.bool (decide (r.2.2.2.length≤1))]
theorem mkW_eq (w:List Nat) (hok:Ok w) (hl:w.length≤900) (hp:Hp):∃ hp',zvd [.str w] hp = some (wobj w (wsP w 0 0 0 []),hp')∧Upp hp hp':=by
  obtain ⟨L',x',hp',e1,e2,e3,e4,e5,e6,e7⟩:=ws_run (.loc hp.N) (.str w) (hp.N + 1) w 0 0 0 [] (hp.N + 1) none (((hp.new (.inst 1 [none,none,none,none,none])).put hp.N (.inst 1 [some (.str w),none,none,none,none])).new (.list [])) hok (zfr _ _) (Nat.le_refl _) (by simp [zi7,zf3]) (by lia) (by simp)
  have hm:hp'.H hp.N = some (.inst 1 [some (.str w),none,none,none,none]):=by
    rw [e6 _ (by lia),zct _ _ (by simp [zf3,zi7]),zcb]
  have hA:(((hp.new (.inst 1 [none,none,none,none,none])).put hp.N (.inst 1 [some (.str w),none,none,none,none])).new (.list [])).H hp.N = some (.inst 1 [some (.str w),none,none,none,none]):=by
    rw [zct _ _ (by simp [zf3,zi7]),zcb]
  have hne:hp.N≠L':=by lia
  have hne':L'≠hp.N:=by lia
  generalize hq:wsP w 0 0 0 [] = q at *
  obtain ⟨n,nt,b,cnt⟩:=q
  simp only at e1 e2 e7
  have el:(cnt.map AV.int).length≤10000:=by rw [List.length_map]; lia
  let k2:=(hp'.put hp.N (.inst 1 [some (.str w),some (.int n),none,none,none])).put hp.N (.inst 1 [some (.str w),some (.int n),some (.int nt),none,none])
  let k4:=(k2.free L').put hp.N (.inst 1 [some (.str w),some (.int n),some (.int nt),some (.tup [.tup (cnt.map .int),.int b]),none])
  let k5:=k4.put hp.N (.inst 1 [some (.str w),some (.int n),some (.int nt),some (.tup [.tup (cnt.map .int),.int b]),some (.bool (decide (cnt.length≤1)))])
  have f8:k2.H L' = some (.list (cnt.map .int)):=(za1 _ _ hne').trans ((za1 _ _ hne').trans e2)
  have f9:(k2.free L').H hp.N = some (.inst 1 [some (.str w),some (.int n),some (.int nt),none,none]):=(zb8 _ hne).trans (zcb _ _ _)
  have hb:bin leA (zas lenF (zac (lcl 4) zaf)) (cst (.int 1)) [some (.loc hp.N),some (.str w),some (.str [32]),some (.str [9]),some (.fl (cnt.map .int)),some (.int b),some (.int n),some (.int nt),x'] k4 = some (.bool (decide (cnt.length≤1)),k4) :=
    zam (zav (zai rfl rfl) (zho el)) rfl (by rw [List.length_map]; exact congrArg (fun z=>some (AV.bool z,k4)) (decide_eq_decide.2 (by lia)))
  let h2:=(hp.new (.inst 1 [none,none,none,none,none])).put hp.N (.inst 1 [some (.str w),none,none,none,none])
  have s2:zvm (tupE (zac (cst (.str [32])) (zac (cst (.str [9])) zaf))) 2 3 [some (.loc hp.N),some (.str w),none,none,none,none,none,none,none] h2 = some (.nx,[some (.loc hp.N),some (.str w),some (.str [32]),some (.str [9]),none,none,none,none,none],h2):=zyb (a:=.str [32]) (b:=.str [9]) (zgr (ms:=zac (cst (.str [32])) (zac (cst (.str [9])) zaf)) rfl (by simp)) rfl rfl
  have s4:asg3 (cst (.int 0)) (stE 5) (stE 6) (stE 7) [some (.loc hp.N),some (.str w),some (.str [32]),some (.str [9]),some (.loc (hp.N + 1)),none,none,none,none] (h2.new (.list [])) = some (.nx,zg4 (.loc hp.N) (.str w) (hp.N + 1) 0 0 0 none,h2.new (.list [])):=rfl
  have s9:zrx [.fl (cnt.map .int)] (k2.free L') = some (.tup (cnt.map .int),k2.free L'):=if_pos (zd8 el)
  have init:znc [.loc hp.N,.str w] (hp.new (.inst 1 [none,none,none,none,none])) = some (.none,k5) :=
    zkf rfl (zao (zfp rfl rfl (zhn (zfr _ _) (by simp))) (zao s2 (zao (zaz (zfl (zc9 rfl (by simp))) rfl) (zao s4 (zao (zfn (zb5 (zei rfl (zg0 hA rfl) rfl) rfl) e1)
      (zao (zfp rfl rfl (zhn hm (by simp))) (zao (zfp rfl rfl (zhn (zcb _ _ _) (by simp))) (zao (zhb rfl f8) (zao (zfp (zgr (zai (zav (zai rfl rfl) s9) (zai rfl rfl)) (by simp)) rfl (zhn f9 (by simp))) (za2 (zfp hb rfl (zhn (zcb _ _ _) (by simp)))))))))))))
  refine ⟨k5.free hp.N,(ztx init).trans (iE (zcb _ _ _) ((if_pos ⟨rfl,rfl⟩).trans rfl)),?_⟩
  · refine ⟨?_,fun j hj=>?_⟩
    · have e5:hp.N + 1 + 1≤hp'.N:=e5
      show hp.N≤hp'.N; lia
    · have h1:j≠hp.N:=Nat.ne_of_lt hj
      have h3:j≠L':=by lia
      exact (zb8 _ h1).trans ((za1 _ _ h1).trans ((za1 _ _ h1).trans ((zb8 _ h3).trans ((za1 _ _ h1).trans ((za1 _ _ h1).trans ((e6 j (Nat.lt_succ_of_lt hj)).trans ((zct _ _ (Nat.ne_of_lt (Nat.lt_succ_of_lt hj))).trans ((za1 _ _ h1).trans (zct _ _ h1)))))))))
noncomputable abbrev WS:=Nat × Nat × Nat × List Int
noncomputable def zg9 (ts:Nat) (cnt:List Int):List Nat→Int→Int
  | [],a=>a
  | i ::r,a=>zg9 ts cnt r (a + ((ts + i) / ts:Nat) * cnt.getD (ts + i) 0)
theorem zud (ts:Nat) (cnt:List Int):∀ a,zg9 ts cnt [] a =
   (a):=fun _=>rfl
theorem zuc (ts:Nat) (cnt:List Int):∀ i r a,zg9 ts cnt (i ::r) a =
   (zg9 ts cnt r (a + ((ts + i) / ts:Nat) * cnt.getD (ts + i) 0)):=fun _ _ _=>rfl
noncomputable def ilP (ts:Nat) (q:WS):Int:=q.2.2.1 + ts * (zg9 ts q.2.2.2 (List.range (q.2.2.2.length - ts)) 0 + q.2.1)
noncomputable def lrP (q:WS):Int:=if (q.2.2.1:Int) > (q.2.2.2.length:Int) - 1 then q.2.2.1 else (q.2.2.2.length:Int) - 1
noncomputable def zzi (a b:WS):Bool :=
  if b.1≤a.1 then false else if a.2.2.2.length≤1∧b.2.2.2.length≤1 then decide (a.2.1≤b.2.1) else
    (List.range ((if lrP b > lrP a then lrP b else lrP a) + 1 + 1 - 2).toNat).all fun i=>decide (ilP (2 + i) a < ilP (2 + i) b)
structure WOk (q:WS):Prop where
  len:q.2.2.2.length≤10
  nn:∀ c∈q.2.2.2,(0:Int)≤c∧c≤10
  nt:q.2.1≤10
  b:q.2.2.1≤10
theorem WOk.len' {q:WS} (h:WOk q):q.2.2.2.length≤1000000:=by have:=h.len; lia
theorem lr_eq (w:List Nat) (q:WS) (h:WOk q) (hp:Hp):zbj [wobj w q] hp = some (.int (lrP q),hp):=by
  obtain ⟨n,nt,b,cnt⟩:=q
  have el:(cnt.map AV.int).length≤10000:=by rw [List.length_map]; exact Nat.le_trans h.len (by decide)
  have t0:tupT 2 (zd4 (stE 1) (zd4 (stE 2) nilT)) (.tup [.tup (cnt.map .int),.int b]) [some (wobj w (n,nt,b,cnt)),none,none] hp = some ([some (wobj w (n,nt,b,cnt)),some (.tup (cnt.map .int)),some (.int b)],hp):=rfl
  have hs:bin subA (zas lenF (zac (lcl 1) zaf)) (cst (.int 1)) [some (wobj w (n,nt,b,cnt)),some (.tup (cnt.map .int)),some (.int b)] hp = some (.int ((cnt.length:Int) - 1),hp) :=
    zam (zav (zai rfl rfl) (zo0 el)) rfl (by rw [List.length_map]; rfl)
  exact zdv rfl (zao (zaz (zei rfl rfl rfl) t0) (zb6 (zdp (zav (zai hs (zai rfl rfl)) rfl))))
theorem getElem?_map_int' (cnt:List Int) (b:Nat) (h:b < cnt.length):(cnt.map AV.int)[b]? = some (AV.int (cnt.getD b 0)):=by
  simp [List.getD_eq_getElem?_getD,h]
theorem zso {a:Int} (h:a.natAbs≤100000):a.natAbs < 2 ^ 60:=Nat.lt_of_le_of_lt h (by decide)
theorem zoz {a b:Int} (h1:a.natAbs≤100000) (h2:b.natAbs≤100000) (hp:Hp):mulA (.int a) (.int b) hp = some (.int (a * b),hp):=by
  exact congrArg (Option.map (·,hp)) (if_pos ⟨zso h1,zso h2⟩)
theorem zm2 {a b:Nat} (h1:b≠0) (h2:b≤100000) (hp:Hp):fdvA (.int a) (.int b) hp = some (.int (a / b:Nat),hp):=by
  have:¬ ((b:Int) = 0∨1000000000≤(b:Int).natAbs):=by lia
  exact (congrArg (Option.map (·,hp)) (if_neg this)).trans (congrArg (fun z=>some (AV.int z,hp)) (Int.ofNat_fdiv a b).symm)
noncomputable def zue:MS:=(seqS (asgS (bin addA (lcl 4) (bin mulA (bin fdvA (lcl 5) (lcl 1)) (bin zaq (lcl 2) (lcl 5)))) (stE 4)) nilS)
theorem zzp (x0 b c:AV) (a ts i d v:Int) (hp:Hp) (e4:fdvA (.int i) (.int ts) hp = some (.int d,hp)) (e5:zaq c (.int i) hp = some (.int v,hp)) (e6:mulA (.int d) (.int v) hp = some (.int (d * v),hp)) :
    zue [some x0,some (.int ts),some c,some b,some (.int a),some (.int i)] hp = some (.nx,[some x0,some (.int ts),some c,some b,some (.int (a + d * v)),some (.int i)],hp):=by
  have h1:bin fdvA (lcl 5) (lcl 1) [some x0,some (.int ts),some c,some b,some (.int a),some (.int i)] hp = some (.int d,hp):=zam rfl rfl e4
  have h2:bin zaq (lcl 2) (lcl 5) [some x0,some (.int ts),some c,some b,some (.int a),some (.int i)] hp = some (.int v,hp):=zam rfl rfl e5
  have h3:=zam (op:=mulA) h1 h2 e6
  have h4:=zam (op:=addA) (m1:=lcl 4) (x:=.int a) rfl h3 rfl
  simp only [zue,seqS,asgS,h4,Option.bind_eq_bind,Option.bind_some]
  rfl
theorem zzq (x0:AV) (cnt:List Int) (b:AV) (ts:Nat) (h1:1≤ts) (h2:ts≤100) (hl:cnt.length≤10) (hn:∀ c∈cnt,(0:Int)≤c∧c≤10) (hp:Hp):∀ (l:List Nat) (a:Int) (x:Option AV),(∀ i∈l,ts + i < cnt.length)→0≤a→a + 100 * l.length≤10000→
    ∃ x',forM (stE 5) zue (l.map fun i:Nat=>AV.int ((ts:Int) + (i:Int))) [some x0,some (.int ts),some (.tup (cnt.map .int)),some b,some (.int a),x] hp =
      some (.nx,[some x0,some (.int ts),some (.tup (cnt.map .int)),some b,some (.int (zg9 ts cnt l a)),x'],hp)∧0≤zg9 ts cnt l a∧zg9 ts cnt l a≤a + 100 * l.length:=by
  intro l
  induction l with
  | nil =>
    intro a x hi ha hb
    exact ⟨x,rfl,ha,by simp [zud,zuc]⟩
  | cons i r ih =>
    intro a x hi ha hb
    have hlt:=hi i (by simp)
    simp only [List.length_cons] at hb
    have hd:(ts + i) / ts≤10:=by
      have:=Nat.div_le_self (ts + i) ts; lia
    have ec:((ts + i:Nat):Int) = (ts:Int) + (i:Int):=by lia
    have e4:=zm2 (a:=ts + i) (b:=ts) (by lia) (by lia) hp
    rw [ec] at e4
    have hf:zg9 ts cnt (i ::r) a = zg9 ts cnt r (a + (((ts + i) / ts:Nat):Int) * cnt.getD (ts + i) 0):=rfl
    rw [hf]
    have e5:=znj (hp:=hp) (i:=ts + i) (by lia) (getElem?_map_int' cnt _ hlt)
    rw [ec] at e5
    have hc:=hn (cnt.getD (ts + i) 0) (by rw [List.getD_eq_getElem?_getD]; simp [hlt])
    generalize (ts + i) / ts = d at *
    generalize cnt.getD (ts + i) 0 = v at *
    have hm:(0:Int)≤(d:Int) * v:=Int.mul_nonneg (by lia) hc.1
    have hm2:(d:Int) * v≤10 * 10:=Int.mul_le_mul (by lia) hc.2 hc.1 (by lia)
    obtain ⟨x',e1,e2,e3⟩:=ih (a + (d:Int) * v) (some (.int ((ts:Int) + (i:Int)))) (fun j hj=>hi j (by simp [hj])) (by lia) (by lia)
    refine ⟨x',?_,e2,?_⟩
    · have es:stE 5 (.int ((ts:Int) + (i:Int))) [some x0,some (.int ts),some (.tup (cnt.map .int)),some b,some (.int a),x] hp = some ([some x0,some (.int ts),some (.tup (cnt.map .int)),some b,some (.int a),some (.int ((ts:Int) + (i:Int)))],hp):=rfl
      have e6:=zoz (a:=(d:Int)) (b:=v) (by lia) (by lia) hp
      exact zeh es (zzp x0 b (.tup (cnt.map .int)) a ts _ d v hp e4 e5 e6) e1
    · simp only [List.length_cons]; lia
theorem zny (a b:Nat):zfq (a:Int) (b:Int) = (List.range (b - a)).map fun i:Nat=>AV.int ((a:Int) + (i:Int)):=by
  simp only [zfq,show ((b:Int) - (a:Int)).toNat = b - a by lia]
theorem zgk {a b:Nat} (h1:a≤100000) (h2:b≤100000):zji (.rng (a:Int) (b:Int)) = some ((List.range (b - a)).map fun i:Nat=>AV.int ((a:Int) + (i:Int))):=by
  have:-1000000≤(a:Int)∧(a:Int)≤1000000∧-1000000≤(b:Int)∧(b:Int)≤1000000:=by lia
  simp only [zji,if_pos this,zny]
theorem zbs {b:Nat} (h2:b≤100000):zji (.rng 0 (b:Int)) = some ((List.range b).map fun i:Nat=>AV.int (i:Int)):=by
  have:=zgk (a:=0) (b:=b) (by lia) h2
  rw [show ((0:Nat):Int) = 0 from rfl] at this
  rw [this]
  congr 1
  apply List.map_congr_left
  intro i _
  rw [Int.zero_add]
theorem il_eq (w:List Nat) (q:WS) (h:WOk q) (ts:Nat) (h1:1≤ts) (h2:ts≤100) (hp:Hp):zb1 [wobj w q,.int ts] hp = some (.int (ilP ts q),hp):=by
  obtain ⟨n,nt,b,cnt⟩:=q
  have hl:=h.len
  have hb:=h.b
  have hnt:=h.nt
  simp only at hl hb hnt
  have el:lenF [.tup (cnt.map .int)] hp = some (.int cnt.length,hp):=by
    rw [zo0 (by simp; lia),List.length_map]
  have ei:=zgk (a:=ts) (b:=cnt.length) (by lia) (by lia)
  obtain ⟨x',e1,e2,e3⟩:=zzq (wobj w (n,nt,b,cnt)) cnt (.int b) ts h1 h2 h.len h.nn hp (List.range (cnt.length - ts)) 0 none (fun i hi=>by have:=List.mem_range.1 hi; lia) (by lia) (by simp only [List.length_range]; lia)
  simp only [List.length_range] at e3
  have e4:=zoz (a:=ts) (b:=zg9 ts cnt (List.range (cnt.length - ts)) 0 + nt) (by lia) (by lia) hp
  exact zdv rfl (zao (zaz (zei rfl rfl rfl) rfl) (zao (zaz rfl rfl) (zao (zfn (zb5 (zav (zai rfl (zai (zav (zai rfl rfl) el) rfl)) rfl) ei) e1) (zb6 (zdp (zam rfl (zam rfl (zam rfl (zei rfl rfl rfl) rfl) e4) rfl))))))
noncomputable def zjy:MS:=(seqS (iteS (tru (bin geA (zcj 1 zb1 (lcl 0) (zac (lcl 3) zaf)) (zcj 1 zb1 (lcl 1) (zac (lcl 3) zaf)))) (seqS (retS (cst (.bool false))) nilS) nilS) nilS)
theorem zt3 (w1 w2:List Nat) (a b:WS) (ha:WOk a) (hb:WOk b) (n:AV) (hp:Hp):∀ (l:List Nat) (x:Option AV),(∀ i∈l,i≤50)→
    ∃ x',forM (stE 3) zjy (l.map fun i:Nat=>AV.int (((2:Nat):Int) + (i:Int))) [some (wobj w1 a),some (wobj w2 b),some n,x] hp =
      some (if l.all (fun i=>decide (ilP (2 + i) a < ilP (2 + i) b)) then .nx else .rt (.bool false),[some (wobj w1 a),some (wobj w2 b),some n,x'],hp):=by
  intro l
  induction l with
  | nil =>
    intro x _
    exact ⟨x,rfl⟩
  | cons i r ih =>
    intro x hi
    have hi1:=hi i (by simp)
    have ec:((2 + i:Nat):Int) = ((2:Nat):Int) + (i:Int):=by lia
    have e1:=il_eq w1 a ha (2 + i) (by lia) (by lia) hp
    have e2:=il_eq w2 b hb (2 + i) (by lia) (by lia) hp
    rw [ec] at e1 e2
    have es:stE 3 (.int (((2:Nat):Int) + (i:Int))) [some (wobj w1 a),some (wobj w2 b),some n,x] hp = some ([some (wobj w1 a),some (wobj w2 b),some n,some (.int (((2:Nat):Int) + (i:Int)))],hp):=rfl
    have et:tru (bin geA (zcj 1 zb1 (lcl 0) (zac (lcl 3) zaf)) (zcj 1 zb1 (lcl 1) (zac (lcl 3) zaf))) [some (wobj w1 a),some (wobj w2 b),some n,some (.int (((2:Nat):Int) + (i:Int)))] hp = some (decide (ilP (2 + i) b≤ilP (2 + i) a),hp) :=
      zb2 (zam (zdf rfl rfl (zai rfl rfl) e1) (zdf rfl rfl (zai rfl rfl) e2) rfl)
    by_cases hc:ilP (2 + i) a < ilP (2 + i) b
    · obtain ⟨x',e3⟩:=ih (some (.int (((2:Nat):Int) + (i:Int)))) fun j hj=>hi j (by simp [hj])
      rw [decide_eq_false (by lia)] at et
      have eb:zjy [some (wobj w1 a),some (wobj w2 b),some n,some (.int (((2:Nat):Int) + (i:Int)))] hp = _:=za2 (zdb et rfl)
      refine ⟨x',?_⟩
      rw [List.all_cons,decide_eq_true hc,Bool.true_and]
      exact zeh es eb e3
    · rw [decide_eq_true (by lia)] at et
      have eb:zjy [some (wobj w1 a),some (wobj w2 b),some n,some (.int (((2:Nat):Int) + (i:Int)))] hp = _:=zb6 (zfi et (zb6 (zdp rfl)))
      refine ⟨some (.int (((2:Nat):Int) + (i:Int))),?_⟩
      rw [List.all_cons,decide_eq_false hc,Bool.false_and]
      exact for_rt es eb
theorem zzh (w1 w2:List Nat) (a b:WS) (ha:WOk a) (hb:WOk b) (hp:Hp):zhk [wobj w1 a,wobj w2 b] hp = some (.bool (zzi a b),hp):=by
  have t1:tru (bin geA (attE 1 1 (lcl 0)) (attE 1 1 (lcl 1))) ([some (wobj w1 a),some (wobj w2 b),none,none]) hp = some (decide ((b.1:Int)≤(a.1:Int)),hp):=zb2 (zam (zei rfl rfl rfl) (zei rfl rfl rfl) rfl)
  unfold zzi
  by_cases h1:b.1≤a.1
  · rw [decide_eq_true (by lia)] at t1
    rw [if_pos h1]
    exact zdv rfl (zb6 (zfi t1 (zb6 (zdp rfl))))
  rw [decide_eq_false (by lia)] at t1
  rw [if_neg h1]
  have t2:andB (tru (attE 1 4 (lcl 0))) (andB (tru (attE 1 4 (lcl 1))) (cstB true)) ([some (wobj w1 a),some (wobj w2 b),none,none]) hp = some (decide (a.2.2.2.length≤1) && (decide (b.2.2.2.length≤1) && true),hp) :=
    zlg (zb2 (zei rfl rfl rfl)) (zlg (zb2 (zei rfl rfl rfl)) rfl)
  by_cases h2:a.2.2.2.length≤1∧b.2.2.2.length≤1
  · rw [decide_eq_true h2.1,decide_eq_true h2.2] at t2
    rw [if_pos h2]
    have t3:bin leA (attE 1 2 (lcl 0)) (attE 1 2 (lcl 1)) ([some (wobj w1 a),some (wobj w2 b),none,none]) hp = some (.bool (decide ((a.2.1:Int)≤(b.2.1:Int))),hp):=zam (zei rfl rfl rfl) (zei rfl rfl rfl) rfl
    rw [show decide ((a.2.1:Int)≤(b.2.1:Int)) = decide (a.2.1≤b.2.1) by apply decide_eq_decide.2; lia] at t3
    exact zdv rfl (zao (zdb t1 rfl) (zb6 (zfi t2 (zb6 (zdp t3)))))
  · rw [if_neg h2]
    have t2':(decide (a.2.2.2.length≤1) && (decide (b.2.2.2.length≤1) && true)) = false:=by
      simp only [Bool.and_true,Bool.and_eq_false_iff,decide_eq_false_iff_not]; lia
    rw [t2'] at t2
    have hla:=ha.len
    have hlb:=hb.len
    have hba:=ha.b
    have hbb:=hb.b
    have hA:∃ k:Nat,lrP a = (k:Int) - 1∧k≤11:=by
      unfold lrP; split
      · exact ⟨a.2.2.1 + 1,by lia,by lia⟩
      · exact ⟨a.2.2.2.length,by lia,by lia⟩
    have hB:∃ k:Nat,lrP b = (k:Int) - 1∧k≤11:=by
      unfold lrP; split
      · exact ⟨b.2.2.1 + 1,by lia,by lia⟩
      · exact ⟨b.2.2.2.length,by lia,by lia⟩
    obtain ⟨ka,ea,la⟩:=hA
    obtain ⟨kb,eb,lb⟩:=hB
    have hK:∃ k:Nat,(if lrP b > lrP a then lrP b else lrP a) + 1 = (k:Int)∧k≤11:=by
      split
      · exact ⟨kb,by lia,lb⟩
      · exact ⟨ka,by lia,la⟩
    obtain ⟨k,ek,lk⟩:=hK
    rw [ek]
    have e5:bin addA (zas maxF (zac (zcj 1 zbj (lcl 0) zaf) (zac (zcj 1 zbj (lcl 1) zaf) zaf))) (cst (.int 1)) ([some (wobj w1 a),some (wobj w2 b),none,none]) hp = some (.int k,hp):=by
      rw [← ek]
      exact zam (zav (zai (zdf rfl rfl rfl (lr_eq w1 a ha hp)) (zai (zdf rfl rfl rfl (lr_eq w2 b hb hp)) rfl)) rfl) rfl rfl
    have ei:=zgk (a:=2) (b:=k + 1) (by lia) (by lia)
    obtain ⟨x',e6⟩:=zt3 w1 w2 a b ha hb (.int k) hp (List.range (k + 1 - 2)) none (fun i hi=>by have:=List.mem_range.1 hi; lia)
    rw [show ((k:Int) + 1 - 2).toNat = k + 1 - 2 by lia]
    have e7:forS (valI (zas zbh (zac (cst (.int 2)) (zac (bin addA (lcl 2) (cst (.int 1))) zaf)))) (stE 3) zjy [some (wobj w1 a),some (wobj w2 b),some (.int k),none] hp = _ :=
      zfn (zb5 (zav (zai rfl (zai (zam rfl rfl rfl) rfl)) rfl) ei) e6
    cases hq:(List.range (k + 1 - 2)).all fun i=>decide (ilP (2 + i) a < ilP (2 + i) b)
    · rw [hq] at e7
      exact zdv rfl (zao (zdb t1 rfl) (zao (zdb t2 rfl) (zao (zaz e5 rfl) (zb6 e7))))
    · rw [hq] at e7
      exact zdv rfl (zao (zdb t1 rfl) (zao (zdb t2 rfl) (zao (zaz e5 rfl) (zao e7 (zb6 (zdp rfl))))))
noncomputable def zms:Nat→Nat→List Nat
  | 0,_=>[]
  | f + 1,c=>if c≤1 then [] else zms f (c / 2)++[if c % 2 = 1 then 9 else 32]
theorem zzj (c:Nat) (h:c < 63) (hp:Hp):ze7 [.int ((c + 1:Nat):Int)] hp = some (.str (zms 6 (c + 1)),hp):=by
  have k:(List.range 63).map (fun c=>ze7 [.int ((c + 1:Nat):Int)] hp) = (List.range 63).map fun c=>some (.str (zms 6 (c + 1)),hp):=rfl
  exact List.map_inj_left.mp k c (List.mem_range.mpr h)
theorem add_str {a b:List Nat} (h:a.length + b.length≤10000) (hp:Hp):addA (.str a) (.str b) hp = some (.str (a++b),hp):=(zx3 a b hp).trans (if_pos (zd8 h))
theorem iadd_str {a b:List Nat} (h:a.length + b.length≤10000) (hp:Hp):zjp (.str a) (.str b) hp = some (.str (a++b),hp):=(zx3 a b hp).trans (if_pos (zd8 h))
theorem zxv {a:Int} {b:Int} (h:b≠0) (hp:Hp):modA (.int a) (.int b) hp = some (.int (a.fmod b),hp):=by
  exact congrArg (Option.map (·,hp)) (if_neg h)
theorem zkp {a b:Nat} (h:b≠0) (hp:Hp):modA (.int a) (.int b) hp = some (.int (a % b:Nat),hp):=by
  rw [zxv (by lia),Int.ofNat_fmod]
theorem zdz {hp:Hp} {L:Nat} {xs:List AV} (v:AV) (h:hp.H L = some (.list xs)) (hl:xs.length≤10000):zca [.loc L,v] hp = some (.none,hp.put L (.list (xs++[v]))):=by
  exact lE h (if_pos (zd8 hl))
theorem zd0 {hp:Hp} {L:Nat} {xs:List AV} (h:hp.H L = some (.list xs)):zo2 hp "list" (.loc L) = true:=congrArg (fun z=>(true && (zfv some z).isSome)) h
theorem compM2 {α:Type} (g1 g2:α→AV) (tst:α→Bool) (e:α→AV) {tests:MB} {elt:ME} {fr:Loc} {hp:Hp}:∀ (l:List α) (o1 o2:Option AV)
    (h:∀ x∈l,tests (some (g1 x) ::some (g2 x) ::fr) hp = some (tst x,hp)∧(tst x = true→elt (some (g1 x) ::some (g2 x) ::fr) hp = some (e x,hp))),
    zhy (tupT 2 (zd4 (stE 0) (zd4 (stE 1) nilT))) tests elt fr (l.map fun x=>.tup [g1 x,g2 x]) [o1,o2] hp = some ((l.filter tst).map e,hp):=by
  intro l
  induction l with
  | nil =>
    intro o1 o2 h
    exact rfl
  | cons x r ih =>
    intro o1 o2 h
    have h1:=h x (by simp)
    have ih:=ih (some (g1 x)) (some (g2 x)) fun y hy=>h y (by simp [hy])
    have e1:tupT 2 (zd4 (stE 0) (zd4 (stE 1) nilT)) (.tup [g1 x,g2 x]) [o1,o2] hp = some ([some (g1 x),some (g2 x)],hp):=rfl
    cases ht:tst x with
    | false =>
      rw [List.filter_cons_of_neg (by rw [ht]; decide)]
      exact cm_f e1 (h1.1.trans (by rw [ht])) ih
    | true =>
      rw [List.filter_cons_of_pos ht]
      exact cm_t e1 (h1.1.trans (by rw [ht])) (h1.2 ht) ih
theorem zuz {α:Type} (g1 g2:α→AV) (tst:α→Bool) (e:α→AV) {tests:MB} {elt:ME} {frees:List Nat} {loc:Loc} {ite:Loc→Hp→Option (List AV × Hp)} {hp:Hp} (l:List α)
    (hi:ite loc hp = some (l.map (fun x=>.tup [g1 x,g2 x]),hp)) (hl:l.length≤10000)
    (h:∀ x∈l,tests (some (g1 x) ::some (g2 x) ::pick frees loc) hp = some (tst x,hp)∧(tst x = true→elt (some (g1 x) ::some (g2 x) ::pick frees loc) hp = some (e x,hp))) :
    zbo 2 frees ite (tupT 2 (zd4 (stE 0) (zd4 (stE 1) nilT))) tests elt loc hp = some ((l.filter tst).map e,hp):=by
  exact bE hi ((if_pos (by rw [List.length_map]; exact zd8 hl)).trans (compM2 g1 g2 tst e l none none h))
theorem zd2 {α:Type} (g:α→AV) (tst:α→Bool) (e:α→AV) {tests:MB} {elt:ME} {frees:List Nat} {loc:Loc} {ite:Loc→Hp→Option (List AV × Hp)} {hp:Hp} (l:List α)
    (hi:ite loc hp = some (l.map g,hp)) (hl:l.length≤10000)
    (h:∀ x∈l,tests (some (g x) ::pick frees loc) hp = some (tst x,hp)∧(tst x = true→elt (some (g x) ::pick frees loc) hp = some (e x,hp))) :
    zbo 1 frees ite (stE 0) tests elt loc hp = some ((l.filter tst).map e,hp):=compL1 g tst e l hi (zd8 hl) h
noncomputable def zff (size:Nat):List Nat→Nat→Nat
  | [],c=>c
  | s ::r,c=>zff size r (if s = 9 then c + size - c % size else c + 1)
theorem colOne_e1 (size:Nat):∀ c,zff size [] c =
   (c):=fun _=>rfl
theorem zu3 (size:Nat):∀ s r c,zff size (s ::r) c =
   (zff size r (if s = 9 then c + size - c % size else c + 1)):=fun _ _ _=>rfl
noncomputable def colP (lead:List Nat):List Nat:=(List.range 6).map fun i=>zff (1 + i) lead 0
noncomputable def zw1:MS:=(seqS (iteS (tru (bin eqA (lcl 5) (cst (.str [9])))) (seqS (asgS (bin subA (bin addA (lcl 4) (lcl 3)) (bin modA (lcl 4) (lcl 3))) (stE 4)) nilS) (seqS (asgS (bin addA (lcl 4) (cst (.int 1))) (stE 4)) nilS)) nilS)
theorem col_in (a0 a1 a2:AV) (size:Nat) (hs:1≤size) (hp:Hp):∀ (l:List Nat) (c:Nat) (x:Option AV),Ok l→
    ∃ x',forM (stE 5) zw1 (l.map fun c=>.str [c]) [some a0,some a1,some a2,some (.int size),some (.int c),x] hp = some (.nx,[some a0,some a1,some a2,some (.int size),some (.int (zff size l c)),x'],hp):=by
  intro l
  induction l with
  | nil =>
    intro c x _
    exact ⟨x,rfl⟩
  | cons s r ih =>
    intro c x hok
    have hs1:s < 1114112:=hok s (by simp)
    obtain ⟨x',e1⟩:=ih (if s = 9 then c + size - c % size else c + 1) (some (.str [s])) fun y hy=>hok y (by simp [hy])
    have es:stE 5 (.str [s]) [some a0,some a1,some a2,some (.int size),some (.int c),x] hp = some ([some a0,some a1,some a2,some (.int size),some (.int c),some (.str [s])],hp):=rfl
    have et:tru (bin eqA (lcl 5) (cst (.str [9]))) [some a0,some a1,some a2,some (.int size),some (.int c),some (.str [s])] hp = some (decide ([s] = [9]),hp):=zb2 (zam rfl rfl (zhw (ok1 hs1) (ok1 (by decide)) hp))
    have em:=zkp (a:=c) (b:=size) (by lia) hp
    refine ⟨x',?_⟩
    by_cases h9:s = 9
    · subst h9
      rw [decide_eq_true rfl] at et
      have hm:c % size≤c:=Nat.mod_le _ _
      have e2:bin subA (bin addA (lcl 4) (lcl 3)) (bin modA (lcl 4) (lcl 3)) [some a0,some a1,some a2,some (.int size),some (.int c),some (.str [9])] hp = some (.int ((c + size - c % size:Nat):Int),hp):=by
        refine zam (x:=.int ((c:Int) + size)) (zam rfl rfl rfl) (zam rfl rfl em) ?_
        exact congrArg (fun z=>some (AV.int z,hp)) (show (c:Int) + size - (c % size:Nat) = ((c + size - c % size:Nat):Int) by lia)
      have eb:zw1 [some a0,some a1,some a2,some (.int size),some (.int c),some (.str [9])] hp = _:=za2 (zfi et (za2 (zaz e2 rfl)))
      rw [if_pos rfl] at e1
      exact zeh es eb e1
    · rw [decide_eq_false (by simpa using h9)] at et
      have eb:zw1 [some a0,some a1,some a2,some (.int size),some (.int c),some (.str [s])] hp = _:=za2 (zdb et (za2 (zaz (zam rfl rfl rfl) rfl)))
      rw [if_neg h9] at e1
      rw [zu3,if_neg h9]
      exact zeh es eb e1
noncomputable def zx1:MS:=(seqS (asgS (cst (.int 0)) (stE 4)) (seqS (forS (valI (lcl 0)) (stE 5) zw1) (seqS (zcl (zcc "list" zca (lcl 2) (zac (lcl 4) zaf))) nilS)))
theorem zz0 (lead:List Nat) (hok:Ok lead) (a1:AV) (L:Nat):∀ (l:List Nat) (rows:List Nat) (x3 x4 x5:Option AV) (hp:Hp),hp.H L = some (.list (rows.map fun n:Nat=>AV.int n))→rows.length + l.length≤100→
    ∃ x3' x4' x5',forM (stE 3) zx1 (l.map fun i:Nat=>AV.int (((1:Nat):Int) + (i:Int))) [some (.str lead),some a1,some (.loc L),x3,x4,x5] hp = some (.nx,[some (.str lead),some a1,some (.loc L),x3',x4',x5'],hp.put L (.list ((rows++l.map fun i=>zff (1 + i) lead 0).map fun n:Nat=>AV.int n))):=by
  intro l
  induction l with
  | nil =>
    intro rows x3 x4 x5 hp hL _
    exact ⟨x3,x4,x5,by simp only [List.map_nil,List.append_nil,zgu hL]; rfl⟩
  | cons i r ih =>
    intro rows x3 x4 x5 hp hL hl
    simp only [List.length_cons] at hl
    have ec:((1 + i:Nat):Int) = ((1:Nat):Int) + (i:Int):=by lia
    obtain ⟨x',e1⟩:=col_in (.str lead) a1 (.loc L) (1 + i) (by lia) hp lead 0 x5 hok
    obtain ⟨y3,y4,y5,e2⟩:=ih (rows++[zff (1 + i) lead 0]) (some (.int (1 + i:Nat))) (some (.int (zff (1 + i) lead 0))) x' (hp.put L (.list ((rows++[zff (1 + i) lead 0]).map fun n:Nat=>AV.int n))) (zcb _ _ _) (by simp; lia)
    refine ⟨y3,y4,y5,?_⟩
    have es:stE 3 (.int (((1:Nat):Int) + (i:Int))) [some (.str lead),some a1,some (.loc L),x3,x4,x5] hp = some ([some (.str lead),some a1,some (.loc L),some (.int (1 + i:Nat)),x4,x5],hp):=by rw [← ec]; rfl
    have ea:=zdz (.int (zff (1 + i) lead 0)) hL (by simp; lia)
    have eb:zx1 [some (.str lead),some a1,some (.loc L),some (.int (1 + i:Nat)),x4,x5] hp = _ :=
      zao (zaz rfl rfl) (zao (zfn (zb5 rfl rfl) e1) (za2 (zcu (zc8 rfl (zd0 hL) (zai rfl rfl) ea))))
    rw [List.map_append] at e2
    refine zeh es eb ?_
    simp only [List.map_cons,List.map_nil,zfh,List.append_assoc,List.cons_append,List.nil_append,List.map_append] at e2 ⊢
    exact e2
theorem zro (lead:List Nat) (hok:Ok lead) (hp:Hp):∃ hp',zed [.str lead,.int 6] hp = some (.fl ((colP lead).map fun n:Nat=>AV.int n),hp')∧Upp hp hp':=by
  have ei:=zgk (a:=1) (b:=7) (by lia) (by lia)
  obtain ⟨x3,x4,x5,e1⟩:=zz0 lead hok (.int 6) hp.N (List.range 6) [] none none none (hp.new (.list [])) (zfr _ _) (by simp)
  have ef:=zhb (i:=2) (loc:=[some (.str lead),some (.int 6),some (.loc hp.N),x3,x4,x5]) rfl (zcb (hp.new (.list [])) hp.N (.list (([]++(List.range 6).map fun i=>zff (1 + i) lead 0).map fun n:Nat=>AV.int n)))
  refine ⟨_,zdv rfl (zao (zaz (zfl (zc9 rfl (by decide))) rfl) (zao (zfn (zb5 (zav (zai rfl (zai (zam rfl rfl rfl) rfl)) rfl) ei) e1) (zao ef (zb6 (zdp rfl))))),?_,fun j hj=>?_⟩
  · simp only [Hp.free,zf3,zi7]; lia
  · rw [zb8 _ (by lia),za1 _ _ (by lia),zct _ _ (by lia)]
noncomputable def zja (a b:List Nat):Bool:=(List.zip a b).all fun p=>decide (p.1 < p.2)
theorem zrd (a b:List Nat) (hl:a.length≤1000) (hp:Hp):ze6 [.fl (a.map fun n:Nat=>AV.int n),.fl (b.map fun n:Nat=>AV.int n)] hp = some (.bool (zja a b),hp):=by
  have ez:zipI (lcl 0) (lcl 1) [some (.fl (a.map fun n:Nat=>AV.int n)),some (.fl (b.map fun n:Nat=>AV.int n))] hp = some ((List.zip a b).map (fun p=>.tup [.int p.1,.int p.2]),hp):=by
    simp [zipI,lcl,List.zip,List.zipWith_map,List.map_zipWith]
  have ec:=zuz (fun p:Nat × Nat=>.int p.1) (fun p=>.int p.2) (fun p=>decide ((p.2:Int)≤(p.1:Int))) (fun p=>.int p.1) (tests:=tru (bin geA (lcl 0) (lcl 1))) (elt:=lcl 0) (frees:=[]) _ ez (by simp [List.length_zip]; lia) fun p _=>⟨zb2 (zam rfl rfl rfl),fun _=>rfl⟩
  have ed:=zm5 (zd5 (fun p:Nat × Nat=>AV.int p.1) (fun p:Nat × Nat=>PyData.int p.1) (fun _=>rfl) ((List.zip a b).filter fun p=>decide ((p.2:Int)≤(p.1:Int)))) (by intro d hd; obtain ⟨p,_,rfl⟩:=List.mem_map.1 hd; simp [PyData.depth])
  have e1:eqA (.fl (((List.zip a b).filter fun p=>decide ((p.2:Int)≤(p.1:Int))).map fun p:Nat × Nat=>AV.int p.1)) (.fl []) hp = some (.bool (zja a b),hp):=by
    simp only [eqA,ed,Option.map_some,Option.some.injEq,Prod.mk.injEq,AV.bool.injEq,and_true,zja]
    rw [Bool.eq_iff_iff]
    simp only [decide_eq_true_eq,List.map_eq_nil_iff,List.filter_eq_nil_iff,List.all_eq_true]
    refine forall_congr' fun p=>forall_congr' fun _=>?_
    lia
  exact zdv rfl (zb6 (zdp (zam (zbw ec) (zbw (zc9 rfl (by decide))) e1)))
noncomputable def escP:List Nat→List Nat
  | []=>[]
  | c ::r=>92 ::c ::escP r
theorem zm4:escP [] =
   ([]):=rfl
theorem zm3:∀ c r,escP (c ::r) =
   (92 ::c ::escP r):=fun _ _=>rfl
noncomputable def zd1 (w:List Nat):Nat→List Nat
  | 0=>[34]++w++[34]
  | 1=>escP w
  | _=>[34]++escP w++[34]
theorem zjz:∀ w:List Nat,(escP w).length = 2 * w.length:=by
  intro w
  induction w with
  | nil =>
    exact rfl
  | cons c r ih =>
    simp only [zm4,zm3,List.length_cons,ih]; lia
theorem zkt:∀ l:List (List Nat),zhv [] l = l.flatten
  | []=>rfl
  | [x]=>by simp [zin,zim,zil]
  | x ::y ::r=>by simp only [zin,zim,zil,zkt (y ::r),List.append_nil,List.flatten_cons]
theorem zl7 {α:Type} (g:α→List Nat):∀ l:List α,zl8 (l.map fun x=>AV.str (g x)) = some (l.map g):=by
  intro l
  induction l with
  | nil =>
    exact rfl
  | cons x r ih =>
    exact congrArg (Option.map _) ih
theorem zod:∀ w:List Nat,(w.map fun c=>[92,c]).flatten = escP w:=by
  intro w
  induction w with
  | nil =>
    exact rfl
  | cons c r ih =>
    simp [zm4,zm3,ih]
theorem zp6 {hp:Hp} (sep:List Nat) (ss:List (List Nat)) (h1:ss.length≤1000) (h2:sep.length≤10) (h3:∀ z∈ss,z.length≤1000) (h4:(zhv sep ss).length≤10000):zt7 [.str sep,.fl (ss.map .str)] hp = some (.str (zhv sep ss),hp):=by
  have:=zl7 (fun x:List Nat=>x) ss
  rw [List.map_id'] at this
  exact bE this (if_pos ⟨h1,h2,h3,zd8 h4⟩)
theorem lt3 {P:Nat→Prop} (h0:P 0) (h1:P 1) (h2:P 2) (k:Nat) (h:k < 3):P k:=by
  rcases k with _ | _ | _ | k
  · exact h0
  · exact h1
  · exact h2
  · exact absurd h (by lia)
theorem zqr (w:List Nat) (hl:w.length≤100) (way:Nat) (hw:way < 3) (hp:Hp):zfa [.str w,.int way] hp = some (.str (zd1 w way),hp):=by
  have ec:=zd2 (fun c:Nat=>AV.str [c]) (fun _=>true) (fun c=>AV.str [92,c]) (tests:=cstB true) (elt:=bin addA (cst (.str [92])) (lcl 0)) (frees:=[]) (ite:=valI (lcl 0)) (loc:=[some (.str w),some (.int way),none]) (hp:=hp) w rfl (by lia)
    fun c _=>⟨rfl,fun _=>zam rfl rfl (add_str (a:=[92]) (b:=[c]) (by simp) hp)⟩
  rw [zcr,show (w.map fun c=>AV.str [92,c]) = (w.map fun c=>[92,c]).map AV.str by simp] at ec
  have ej:=zp6 (hp:=hp) [] (w.map fun c=>[92,c]) (by simp; lia) (by simp) (by intro z hz; obtain ⟨c,_,rfl⟩:=List.mem_map.1 hz; simp) (by rw [zkt,zod,zjz]; lia)
  rw [zkt,zod] at ej
  have hl2:=zjz w
  have a1:bin addA (bin addA (cst (.str [34])) (lcl 0)) (cst (.str [34])) [some (.str w),some (.int way),some (.str (escP w))] hp = some (.str ([34]++w++[34]),hp) :=
    zam (zam rfl rfl (add_str (a:=[34]) (b:=w) (by simp; lia) hp)) rfl (add_str (by simp; lia) hp)
  have a2:bin addA (bin addA (cst (.str [34])) (lcl 2)) (cst (.str [34])) [some (.str w),some (.int way),some (.str (escP w))] hp = some (.str ([34]++escP w++[34]),hp) :=
    zam (zam rfl rfl (add_str (a:=[34]) (b:=escP w) (by simp; lia) hp)) rfl (add_str (by simp; lia) hp)
  refine zdv rfl (zao (zaz (zc8 rfl rfl (zai (zbw ec) rfl) ej) rfl) (zb6 (zdp (zam (zbw (zc9 (zai a1 (zai rfl (zai a2 rfl))) (by simp))) rfl (zc3 (by lia) ?_)))))
  clear ec ej a1 a2
  rcases way with _ | _ | _ | way
  · rfl
  · rfl
  · rfl
  · exact absurd hw (by lia)
theorem zwi {m:MEs} {loc:Loc} {hp hp1:Hp} {xs:List AV} (h:m loc hp = some ([.fl xs],hp1)) (hl:xs.length≤10000):zzg m loc hp = some (xs,hp1):=by
  exact bE h (if_pos (zd8 hl))
theorem zvb {loc:Loc} {hp:Hp} {mo mi mv:ME} {op:AV→AV→Hp→Option (AV × Hp)} {o i old v nw:AV} {hp':Hp} (h1:mo loc hp = some (o,hp)) (h2:mi loc hp = some (i,hp)) (h3:zaq o i hp = some (old,hp)) (h4:mv loc hp = some (v,hp)) (h5:op old v hp = some (nw,hp)) (h6:setA o i nw hp = some hp') :
    zm9 mo mi mv op loc hp = some (.nx,loc,hp'):=by
  exact bE h1 (bE h2 (bE h3 (bE h4 (bE h5 (bE h6 rfl)))))
theorem zyy (hp:Hp):powA (.int 10) (.int 6) hp = some (.int 1000000,hp):=by
  have h:(0:Int)≤6∧(6:Int)≤1000∧(10:Int).natAbs < 2 ^ 60:=by decide
  exact (zmt _ 10 6 hp).trans (congrArg (Option.map (·,hp)) (if_pos h))
noncomputable def zr0:MS:=(seqS (zm9 (lcl 2) (bin modA (lcl 3) (zas lenF (zac (lcl 2) zaf))) (bin modA (bin zaq (lcl 0) (lcl 3)) (bin powA (cst (.int 10)) (cst (.int 6)))) zjp) nilS)
theorem zvk (ns:List Int) (a1:AV) (L:Nat) (hl:ns.length≤63):∀ (l:List Nat) (us:List Nat) (x:Option AV) (hp:Hp),(∀ k∈l,k < ns.length)→us.length = 6→hp.H L = some (.list (us.map fun u:Nat=>AV.int u))→
    ∃ (x':Option AV) (vs:List Nat),forM (stE 3) zr0 (l.map fun i:Nat=>AV.int (i:Int)) [some (.fl (ns.map .int)),some a1,some (.loc L),x] hp = some (.nx,[some (.fl (ns.map .int)),some a1,some (.loc L),x'],hp.put L (.list (vs.map fun u:Nat=>AV.int u)))∧vs.length = 6:=by
  intro l
  induction l with
  | nil =>
    intro us x hp _ hu hL
    exact ⟨x,us,by rw [zgu hL]; rfl,hu⟩
  | cons k r ih =>
    intro us x hp hk hu hL
    have hk1:=hk k (by simp)
    have hm:0≤(ns.getD k 0).fmod 1000000:=Int.fmod_nonneg_of_pos _ (by decide)
    obtain ⟨d,hd⟩:∃ d:Nat,(ns.getD k 0).fmod 1000000 = (d:Int):=⟨_,(Int.toNat_of_nonneg hm).symm⟩
    have hk6:k % 6 < 6:=Nat.mod_lt _ (by decide)
    obtain ⟨x',vs,e1,e2⟩:=ih (us.set (k % 6) (us.getD (k % 6) 0 + d)) (some (.int k)) (hp.put L (.list ((us.set (k % 6) (us.getD (k % 6) 0 + d)).map fun u:Nat=>AV.int u))) (fun j hj=>hk j (by simp [hj])) (by simpa using hu) (zcb _ _ _)
    refine ⟨x',vs,?_,e2⟩
    have es:stE 3 (.int (k:Int)) [some (.fl (ns.map .int)),some a1,some (.loc L),x] hp = some ([some (.fl (ns.map .int)),some a1,some (.loc L),some (.int k)],hp):=rfl
    have e3:lenF [.loc L] hp = some (.int (6:Nat),hp):=by rw [zeq hL (by simp; lia),List.length_map,hu]
    have e4:bin modA (lcl 3) (zas lenF (zac (lcl 2) zaf)) [some (.fl (ns.map .int)),some a1,some (.loc L),some (.int k)] hp = some (.int (k % 6:Nat),hp):=zam rfl (zav (zai rfl rfl) e3) (zkp (by decide) hp)
    have e5:(us.map fun u:Nat=>AV.int u)[k % 6]? = some (.int (us.getD (k % 6) 0)):=by simp [List.getD_eq_getElem?_getD,hu,hk6]
    have e6:(ns.map AV.int)[k]? = some (.int (ns.getD k 0)):=getElem?_map_int' ns k hk1
    have e7:bin modA (bin zaq (lcl 0) (lcl 3)) (bin powA (cst (.int 10)) (cst (.int 6))) [some (.fl (ns.map .int)),some a1,some (.loc L),some (.int k)] hp = some (.int d,hp):=by
      rw [← hd]
      exact zam (zam rfl rfl (zc3 (by lia) e6)) (zam rfl rfl (zyy hp)) (zxv (by decide) hp)
    have e8:=zgd (v:=.int ((us.getD (k % 6) 0 + d:Nat):Int)) hL (by lia:k % 6 < 100000) (by simp; lia)
    have eb:zr0 [some (.fl (ns.map .int)),some a1,some (.loc L),some (.int k)] hp = _:=za2 (zvb (nw:=.int ((us.getD (k % 6) 0 + d:Nat):Int)) rfl e4 (zcn hL (by lia) e5) e7 rfl e8)
    rw [List.map_set] at e1
    rw [zfh] at e1
    exact zeh es eb e1
theorem zrz (ns:List Int) (hl:ns.length≤63) (fs:List Nat) (hf:fs.length = 6) (hp:Hp):∃ (us:List Nat) (hp':Hp),zft [.fl (ns.map .int),.fl (fs.map fun u:Nat=>AV.int u)] hp = some (.fl (us.map fun u:Nat=>AV.int u),hp')∧us.length = 6∧Upp hp hp':=by
  obtain ⟨x',vs,e1,e2⟩:=zvk ns (.fl (fs.map fun u:Nat=>AV.int u)) hp.N hl (List.range ns.length) fs none (hp.new (.list (fs.map fun u:Nat=>AV.int u))) (fun k hk=>List.mem_range.1 hk) hf (zfr _ _)
  have ei:=zbs (b:=ns.length) (by lia)
  have el:lenF [.fl (ns.map .int)] (hp.new (.list (fs.map fun u:Nat=>AV.int u))) = some (.int ns.length,hp.new (.list (fs.map fun u:Nat=>AV.int u))):=by rw [zho (by simp; lia),List.length_map]
  have ef:=zhb (i:=2) (loc:=[some (.fl (ns.map .int)),some (.fl (fs.map fun u:Nat=>AV.int u)),some (.loc hp.N),x']) rfl (zcb (hp.new (.list (fs.map fun u:Nat=>AV.int u))) hp.N (.list (vs.map fun u:Nat=>AV.int u)))
  refine ⟨vs,_,zdv rfl (zao (zaz (zfl (zwi (zai rfl rfl) (by simp; lia))) rfl) (zao (zfn (zb5 (zav (zai (zav (zai rfl rfl) el) rfl) rfl) ei) e1) (zao ef (zb6 (zdp rfl))))),e2,?_,fun j hj=>?_⟩
  · simp only [Hp.free,zf3,zi7]; lia
  · rw [zb8 _ (by lia),za1 _ _ (by lia),zct _ _ (by lia)]
theorem zy6 (x:Str) (c:Nat):∀ (n s:Nat) (arr:Array Nat) (free:Nat),free≤s→arr.size≤s→s + n = x.length + 1→
    (forIn (List.range' s n) (arr,free) (StrLaws.occBody x ⟨#[c]⟩ x.length (x.length + 1))).run.fst.size = arr.size + (x.cps.toList.drop s).count c:=by
  intro n
  induction n with
  | zero =>
    intro s arr free hf ha hs
    have:x.cps.toList.drop s = []:=List.drop_eq_nil_of_le (by simp [Str.length] at hs ⊢; lia)
    rw [this]; rfl
  | succ n ih =>
    intro s arr free hf ha hs
    have hone:=StrLaws.subAt_one x c s
    rw [List.range'_succ,List.forIn_cons]
    by_cases h:x.cps.toList[s]? = some c
    · have h1:=hone.2 h
      have hlt:s < x.cps.toList.length:=(List.getElem?_eq_some_iff.1 h).1
      have hd:x.cps.toList.drop s = c ::x.cps.toList.drop (s + 1):=by
        rw [List.drop_eq_getElem_cons hlt]
        congr 1
        rw [List.getElem?_eq_getElem hlt] at h
        exact Option.some.inj h
      have hb:StrLaws.occBody x ⟨#[c]⟩ x.length (x.length + 1) s (arr,free) = pure (ForInStep.yield (arr.push s,s + 1)):=by
        unfold StrLaws.occBody
        exact if_pos ⟨⟨⟨by show arr.size < x.length + 1; lia,hf⟩,h1.1⟩,h1.2⟩
      rw [hb]
      have:=ih (s + 1) (arr.push s) (s + 1) (Nat.le_refl _) (by simp; lia) (by lia)
      rw [hd,List.count_cons_self]
      simp only [pure_bind]
      rw [this,Array.size_push]
      lia
    · have h1:¬ (s + (⟨#[c]⟩:Str).length≤x.length∧Builtin.Str.subAt x ⟨#[c]⟩ s = true):=fun e=>h (hone.1 e)
      have hb:StrLaws.occBody x ⟨#[c]⟩ x.length (x.length + 1) s (arr,free) = pure (ForInStep.yield (arr,free)):=by
        unfold StrLaws.occBody
        exact if_neg fun e=>h1 ⟨e.1.2,e.2⟩
      rw [hb]
      have:=ih (s + 1) arr free (by lia) (by lia) (by lia)
      simp only [pure_bind]
      rw [this]
      congr 1
      by_cases hlt:s < x.cps.toList.length
      · rw [List.drop_eq_getElem_cons hlt,List.count_cons]
        have:x.cps.toList[s]≠c:=fun e=>h (by rw [List.getElem?_eq_getElem hlt,e])
        rw [if_neg (by simpa using this)]; rfl
      · rw [List.drop_eq_nil_of_le (by lia),List.drop_eq_nil_of_le (by lia)]
theorem count_eq (txt:List Nat) (c:Nat) (hp:Hp):zl3 [.str txt,.str [c]] hp = some (.int (txt.count c:Nat),hp):=by
  have h:=zy6 (⟨txt.toArray⟩:Str) c ((⟨txt.toArray⟩:Str).length + 1) 0 #[] 0 (Nat.le_refl _) (by simp) (by lia)
  have e:(Builtin.Str.occurrences ⟨txt.toArray⟩ ⟨[c].toArray⟩ 0 txt.length (txt.length + 1)).length = txt.count c:=by
    rw [StrLaws.occ_eq,Array.length_toList]
    have h1:(⟨txt.toArray⟩:Str).length = txt.length:=by show txt.toArray.size = _; simp
    rw [h1] at h
    simp only [List.drop_zero,List.size_toArray,List.length_nil,Nat.zero_add] at h
    exact h
  exact congrArg (fun l:Nat=>some (AV.int l,hp)) e
theorem zux {txt r:List Nat} {k c:Nat} (h:txt.drop k = c ::r):k < txt.length:=by
  have:=congrArg List.length h
  simp only [List.length_drop,List.length_cons] at this; lia
theorem zfz {txt r:List Nat} {k c:Nat} (h:txt.drop k = c ::r):txt.drop (k + 1) = r:=by
  rw [← List.drop_drop,h]; rfl
theorem zor {txt r:List Nat} {k c:Nat} (h:txt.drop k = c ::r):zh8 txt (k:Int) ((k:Int) + 1) = [c]:=by
  have hk:=zux h
  have e:=StrLaws.sliced_plain (⟨txt.toArray⟩:Str) (a:=k) (b:=k + 1) (by lia) (by show k + 1≤txt.toArray.size; simp only [List.size_toArray]; lia)
  rw [show ((k + 1:Nat):Int) = (k:Int) + 1 by lia] at e
  simp only [h,show k + 1 - k = 1 by lia,List.take_succ_cons,List.take_zero] at e
  have e2:=StrLaws.strSliceIndices_plain (a:=k) (b:=k + 1) (len:=txt.length) (by lia) hk
  rw [show ((k + 1:Nat):Int) = (k:Int) + 1 by lia] at e2
  unfold zh8 Txt.slice
  split
  · rename_i hc
    simp only [Str.length,List.size_toArray,e2,List.length_map,List.length_range,Bool.and_eq_true,beq_iff_eq] at hc
    have h0:k = 0:=by lia
    subst h0
    simp only [List.drop_zero] at h
    have:txt.length = 1:=by lia
    rw [h] at this
    simp only [List.length_cons] at this
    have:r = []:=List.length_eq_zero_iff.1 (by lia)
    simp [h,this]
  · exact e
theorem zqs {txt:List Nat} {k:Nat} (h:k = txt.length):zh8 txt (k:Int) ((k:Int) + 1) = []:=by
  have e:Builtin.Str.strSliceIndices (some (k:Int)) (some ((k:Int) + 1)) 1 txt.length = []:=by
    have e1:max (0:Int) (min (k:Int) (txt.length:Int)) = k:=by lia
    have e2:max (0:Int) (min ((k:Int) + 1) (txt.length:Int)) = k:=by lia
    simp only [Builtin.Str.strSliceIndices,sliceRange,if_neg (show ¬ ((k:Int) < 0) by lia),if_neg (show ¬ ((k:Int) + 1 < 0) by lia),e1,e2,show ((1:Int) > 0) = True from by simp,if_true]
    rw [if_neg (by lia)]; rfl
  unfold zh8 Txt.slice
  split
  · rename_i hc
    simp only [Str.length,List.size_toArray,e,Bool.and_eq_true,beq_iff_eq,List.length_nil] at hc
    have:txt = []:=List.length_eq_zero_iff.1 hc.2.symm
    simp [this]
  · simp only [Str.length,List.size_toArray,e]; rfl
structure Lex (hp:Hp) (a m p:Nat) (txt:List Nat) (k line:Nat) (pb:List AV):Prop where
  ha:hp.H a = some (.list [.int k])
  hm:hp.H m = some (.inst 0 [some (.int line),some (.strm a txt),some (.str [10,9,13,32]),some (.loc p)])
  hpb:hp.H p = some (.list pb)
  am:a < m
  mp:m < p
  pn:p < hp.N
  kl:k≤txt.length
  tl:txt.length≤5000
section
variable {hp:Hp} {a m p:Nat} {txt:List Nat} {k line:Nat} {pb:List AV}
theorem Lex.inst (h:Lex hp a m p txt k line pb):zn4 0 (.loc m) hp = true:=congrArg Option.isSome (iE h.hm rfl)
theorem zvy {m1 m2 m3:ME} {loc:Loc} {cs:List Nat} {x y:Int} (h1:m1 loc hp = some (.str cs,hp)) (h2:m2 loc hp = some (.int x,hp)) (h3:m3 loc hp = some (.int y,hp)) (hl:cs.length≤10000):zpi m1 m2 m3 loc hp = some (.str (zh8 cs x y),hp):=by
  exact bE h1 (bE h2 (bE h3 (if_pos (zd8 hl))))
theorem Lex.rd (h:Lex hp a m p txt k line pb) {s:List Nat} (hs:zh8 txt (k:Int) ((k:Int) + 1) = s) (hl:s.length≤1):rdF a txt (.int 1) hp = some (.str s,hp.put a (.list [.int ((k + s.length:Nat):Int)])):=by
  have e1:zaq (.loc a) (.int 0) hp = some (.int k,hp):=zcn (i:=0) h.ha (by lia) rfl
  have hkl:=h.kl
  have htl:=h.tl
  have e2:zpi (lcl 2) (bin zaq (lcl 3) (cst (.int 0))) (bin addA (bin zaq (lcl 3) (cst (.int 0))) (lcl 0)) [some (.int 1),none,some (.str txt),some (.loc a)] hp = some (.str s,hp):=by
    rw [← hs]
    exact zvy rfl (zam rfl rfl e1) (zam (zam rfl rfl e1) rfl rfl) (by lia)
  have e3:=zgd (v:=.int ((k:Int) + (s.length:Int))) h.ha (show 0 < 100000 by lia) (by simp)
  have e4:rdM [some (.int 1),none,some (.str txt),some (.loc a)] hp = some (.rt (.str s),[some (.int 1),some (.str s),some (.str txt),some (.loc a)],hp.put a (.list [.int ((k:Int) + (s.length:Int))])) :=
    zao (zaz e2 rfl) (zao (zh7 (zam (zam rfl rfl e1) (zav (zai rfl rfl) (len_str (by lia))) rfl) rfl rfl e3) (zb6 (zdp rfl)))
  exact bE e4 rfl
theorem zta {mm:ME} {ms:MEs} {loc:Loc} {size:AV} {R:Option (AV × Hp)} (h1:mm loc hp = some (.strm a txt,hp)) (h2:ms loc hp = some ([size],hp)) (h3:rdF a txt size hp = R):ztb mm ms loc hp = R:=by
  exact bE h1 (bE h2 h3)
theorem zw3 {fs:List (Option AV)} {x:Option AV} (hm:hp.H m = some (.inst 0 (some (.int line) ::fs))):zpb 0 0 (lcl 0) (cst (.int 1)) zjp [some (.loc m),x] hp = some (.nx,[some (.loc m),x],hp.put m (.inst 0 (some (.int ((line + 1:Nat):Int)) ::fs))):=by
  exact bE (zg0 hm rfl) (bE rfl (bE rfl (bE (zhn hm (Nat.zero_lt_succ _)) rfl)))
structure Tw (a m:Nat) (hp hp':Hp):Prop where
  n:hp'.N = hp.N
  h:∀ j,j≠a→j≠m→hp'.H j = hp.H j
theorem Tw.trans {a m:Nat} {x y z:Hp} (h:Tw a m x y) (g:Tw a m y z):Tw a m x z:=⟨g.n.trans h.n,fun j h1 h2=>(g.h j h1 h2).trans (h.h j h1 h2)⟩
theorem Lex.rc (h:Lex hp a m p txt k line pb) {c:Nat} {r:List Nat} (hd:txt.drop k = c ::r) (hc:c < 1114112) :
    ∃ hp',za8 [.loc m] hp = some (.str [c],hp')∧Lex hp' a m p txt (k + 1) (line + if c = 10 then 1 else 0) pb∧Tw a m hp hp':=by
  have hlt:=zux hd
  have h1:=h.am
  have h2:=h.mp
  have e1:=h.rd (zor hd) (by simp)
  simp only [List.length_cons,List.length_nil,Nat.zero_add] at e1
  have L1:Lex (hp.put a (.list [.int ((k + 1:Nat):Int)])) a m p txt (k + 1) line pb:=⟨zcb _ _ _,by rw [za1 _ _ (by lia),h.hm],by rw [za1 _ _ (by lia),h.hpb],h1,h2,h.pn,hlt,h.tl⟩
  have e2:ztb (attE 0 1 (lcl 0)) (zac (cst (.int 1)) zaf) [some (.loc m),none] hp = _:=zta (zei rfl (zg0 h.hm rfl) rfl) rfl e1
  have et:tru (bin eqA (lcl 1) (cst (.str [10]))) [some (.loc m),some (.str [c])] (hp.put a (.list [.int ((k + 1:Nat):Int)])) = some (decide ([c] = [10]),(hp.put a (.list [.int ((k + 1:Nat):Int)]))):=zb2 (zam rfl rfl (zhw (ok1 hc) (ok1 (by decide)) _))
  by_cases h10:c = 10
  · subst h10
    rw [decide_eq_true rfl] at et
    rw [if_pos rfl]
    have e3:=zw3 (x:=some (.str [10])) L1.hm
    refine ⟨_,zdv rfl (zao (zaz e2 rfl) (zao (zfi et (za2 e3)) (zb6 (zdp rfl)))),⟨?_,zcb _ _ _,?_,h1,h2,h.pn,hlt,h.tl⟩,rfl,fun j j1 j2=>?_⟩
    · rw [za1 _ _ (by lia),zcb]
    · rw [za1 _ _ (by lia),za1 _ _ (by lia),h.hpb]
    · rw [za1 _ _ j2,za1 _ _ j1]
  · rw [decide_eq_false (by simpa using h10)] at et
    rw [if_neg h10]
    exact ⟨_,zdv rfl (zao (zaz e2 rfl) (zao (zdb et rfl) (zb6 (zdp rfl)))),L1,rfl,fun j j1 j2=>za1 _ _ j1⟩
theorem Lex.rc0 (h:Lex hp a m p txt k line pb) (hd:k = txt.length) :
    ∃ hp',za8 [.loc m] hp = some (.str [],hp')∧Lex hp' a m p txt k line pb∧Tw a m hp hp':=by
  have h1:=h.am
  have h2:=h.mp
  have e1:=h.rd (zqs hd) (by simp)
  simp only [List.length_nil,Nat.add_zero] at e1
  have L1:Lex (hp.put a (.list [.int (k:Int)])) a m p txt k line pb:=⟨zcb _ _ _,by rw [za1 _ _ (by lia),h.hm],by rw [za1 _ _ (by lia),h.hpb],h1,h2,h.pn,h.kl,h.tl⟩
  have e2:ztb (attE 0 1 (lcl 0)) (zac (cst (.int 1)) zaf) [some (.loc m),none] hp = _:=zta (zei rfl (zg0 h.hm rfl) rfl) rfl e1
  have et:tru (bin eqA (lcl 1) (cst (.str [10]))) [some (.loc m),some (.str [])] (hp.put a (.list [.int (k:Int)])) = some (decide ([] = [10]),(hp.put a (.list [.int (k:Int)]))):=zb2 (zam rfl rfl (zhw (by intro c hc; simp at hc) (ok1 (by decide)) _))
  rw [decide_eq_false (by simp)] at et
  exact ⟨_,zdv rfl (zao (zaz e2 rfl) (zao (zdb et rfl) (zb6 (zdp rfl)))),L1,rfl,fun j j1 j2=>za1 _ _ j1⟩
theorem Lex.next (h:Lex hp a m p txt k line pb) {i:Nat} (hi:hp.H i = some (.citer m true)) (hia:p < i) {c:Nat} {r:List Nat} (hd:txt.drop k = c ::r) (hc:c < 1114112) :
    ∃ hp',zdy za8 i hp = some (some (.str [c]),hp')∧Lex hp' a m p txt (k + 1) (line + if c = 10 then 1 else 0) pb∧Tw a m hp hp'∧hp'.H i = some (.citer m true):=by
  have h1:=h.am
  have h2:=h.mp
  obtain ⟨hp',e1,e2,e3⟩:=h.rc hd hc
  have e4:hp'.H i = some (.citer m true):=by rw [e3.h i (by lia) (by lia),hi]
  exact ⟨hp',zjl hi e1 e4,e2,e3,e4⟩
theorem Lex.next0 (h:Lex hp a m p txt k line pb) {i:Nat} (hi:hp.H i = some (.citer m true)) (hia:p < i) (hd:k = txt.length) :
    ∃ hp',zdy za8 i hp = some (none,hp')∧Lex hp' a m p txt k line pb∧hp'.N = hp.N∧(∀ j,j≠a→j≠m→j≠i→hp'.H j = hp.H j):=by
  have h1:=h.am
  have h2:=h.mp
  obtain ⟨hp',e1,e2,e3⟩:=h.rc0 hd
  have e4:hp'.H i = some (.citer m true):=by rw [e3.h i (by lia) (by lia),hi]
  refine ⟨hp'.put i (.citer m false),zjl hi e1 e4,⟨?_,?_,?_,h1,h2,e2.pn,e2.kl,e2.tl⟩,e3.n,fun j j1 j2 j3=>?_⟩
  · rw [za1 _ _ (by lia),e2.ha]
  · rw [za1 _ _ (by lia),e2.hm]
  · rw [za1 _ _ (by lia),e2.hpb]
  · rw [za1 _ _ j3,e3.h j j1 j2]
end
noncomputable def tQ:MB:=tru (bin eqA (lcl 3) (cst (.str [34])))
noncomputable def tU:MB:=tru (bin inA (lcl 3) (attE 0 2 (lcl 0)))
noncomputable def tE:MB:=tru (bin eqA (lcl 3) (cst (.str [92])))
noncomputable def rdS:MS:=seqS (asgS (zcj 0 za8 (lcl 0) zaf) (stE 3)) nilS
noncomputable def zll (tst:MB):MS:=seqS (iteS tst (seqS (retS (lcl 1)) nilS) (seqS (iteS tE rdS nilS) nilS)) (seqS (augS 1 (lcl 3) zjp) nilS)
noncomputable def oB:MS:=seqS (iteS tU (seqS ctS nilS) nilS) (seqS (iteS tQ (seqS (zm1 1000 (lcl 2) za8 (stE 3) (zll tQ)) nilS) (seqS (iteS tE rdS nilS) (seqS (augS 1 (lcl 3) zjp) (seqS (zm1 1000 (lcl 2) za8 (stE 3) (zll tU)) nilS)))) nilS)
theorem zmz:zau = runF 1 4 (seqS (iteS (tru (attE 0 3 (lcl 0))) (seqS (retS (zcc "list" popF (attE 0 3 (lcl 0)) (zac (cst (.int 0)) zaf))) nilS) nilS) (seqS (asgS (cst (.str [])) (stE 1)) (seqS (asgS (zqf 0 (lcl 0)) (stE 2)) (seqS (zm1 1000 (lcl 2) za8 (stE 3) oB) (seqS (retS (lcl 1)) nilS))))):=rfl
inductive Enc (stop:Nat→Bool):List Nat→List Nat→Prop
  | nil:Enc stop [] []
  | plain {c:Nat} {w e:List Nat}:stop c = false→c≠92→Enc stop w e→Enc stop (c ::w) (c ::e)
  | esc {c:Nat} {w e:List Nat}:Enc stop w e→Enc stop (c ::w) (92 ::c ::e)
section
variable {a m p i:Nat} {txt:List Nat} {pb:List AV}
noncomputable abbrev zdq (m i:Nat) (tok:List Nat) (x:Option AV):Loc:=[some (.loc m),some (.str tok),some (.loc i),x]
theorem zya {c:Nat} (hc:c < 1114112) (tok:List Nat) (hp:Hp):tE (zdq m i tok (some (.str [c]))) hp = some (decide (c = 92),hp):=by
  have:tE (zdq m i tok (some (.str [c]))) hp = some (decide ([c] = [92]),hp):=zb2 (zam rfl rfl (zhw (ok1 hc) (ok1 (by decide)) hp))
  simpa using this
theorem zx9 {c:Nat} (hc:c < 1114112) (tok:List Nat) (hp:Hp):tQ (zdq m i tok (some (.str [c]))) hp = some (decide (c = 34),hp):=by
  have:tQ (zdq m i tok (some (.str [c]))) hp = some (decide ([c] = [34]),hp):=zb2 (zam rfl rfl (zhw (ok1 hc) (ok1 (by decide)) hp))
  simpa using this
theorem zvl {hp:Hp} {k line:Nat} (L:Lex hp a m p txt k line pb) {c:Nat} (tok:List Nat):tU (zdq m i tok (some (.str [c]))) hp = some (decide (c∈[10,9,13,32]),hp):=by
  have h:attE 0 2 (lcl 0) (zdq m i tok (some (.str [c]))) hp = some (.str [10,9,13,32],hp):=zei rfl (zg0 L.hm rfl) rfl
  exact zb2 (zam rfl h rfl)
theorem zva {hp:Hp} {tok:List Nat} {c:Nat} (hl:tok.length≤2000):augS 1 (lcl 3) zjp (zdq m i tok (some (.str [c]))) hp = some (.nx,zdq m i (tok++[c]) (some (.str [c])),hp):=by
  have h:=iadd_str (a:=tok) (b:=[c]) (by simp; lia) hp
  simp only [augS,lcl,zdq,List.getElem?_cons_succ,List.getElem?_cons_zero,Option.bind_eq_bind,Option.bind_some,h]
  rfl
theorem zxp {hp:Hp} {k line:Nat} (L:Lex hp a m p txt k line pb) {c:Nat} {r:List Nat} (hd:txt.drop k = c ::r) (hc:c < 1114112) (tok:List Nat) (x:AV) :
    ∃ hp',rdS (zdq m i tok (some x)) hp = some (.nx,zdq m i tok (some (.str [c])),hp')∧Lex hp' a m p txt (k + 1) (line + if c = 10 then 1 else 0) pb∧Tw a m hp hp':=by
  obtain ⟨hp',e1,e2,e3⟩:=L.rc hd hc
  exact ⟨hp',za2 (zaz (zdf rfl L.inst rfl e1) rfl),e2,e3⟩
theorem zxi (tst:MB) (stop:Nat→Bool) (hst:∀ hp k line c tok,Lex hp a m p txt k line pb→c < 1114112→tst (zdq m i tok (some (.str [c]))) hp = some (stop c,hp)) (h92:stop 92 = false) (hpi:p < i) :
    ∀ (w e:List Nat),Enc stop w e→∀ (fuel:Nat) (tok:List Nat) (x:Option AV) (hp:Hp) (k line t:Nat) (r:List Nat),Lex hp a m p txt k line pb→hp.H i = some (.citer m true)→txt.drop k = e++t ::r→stop t = true→t < 1114112→(∀ c∈w,c < 1114112∧c≠10)→w.length < fuel→tok.length + w.length≤1000→
    ∃ loc' hp',zgv za8 (stE 3) (zll tst) i fuel (zdq m i tok x) hp = some (.rt (.str (tok++w)),loc',hp')∧Lex hp' a m p txt (k + e.length + 1) (line + if t = 10 then 1 else 0) pb∧Tw a m hp hp':=by
  intro w e he
  induction he with
  | nil =>
    intro fuel tok x hp k line t r L hi hd ht ht2 hw hf hl
    obtain ⟨f,rfl⟩:∃ f,fuel = f + 1:=⟨fuel - 1,by lia⟩
    obtain ⟨hp1,e1,e2,e3,e4⟩:=L.next hi hpi hd ht2
    have es:stE 3 (.str [t]) (zdq m i tok x) hp1 = some (zdq m i tok (some (.str [t])),hp1):=rfl
    have et:=hst hp1 _ _ t tok e2 ht2
    rw [ht] at et
    have eb:zll tst (zdq m i tok (some (.str [t]))) hp1 = _:=zb6 (zfi et (zb6 (zdp rfl)))
    exact ⟨_,hp1,by rw [List.append_nil]; exact zzx e1 es eb,by simpa using e2,e3⟩
  | @plain c w e hs h9 he ih =>
    intro fuel tok x hp k line t r L hi hd ht ht2 hw hf hl
    have hc:=hw c (by simp)
    simp only [List.length_cons] at hf hl
    obtain ⟨f,rfl⟩:∃ f,fuel = f + 1:=⟨fuel - 1,by lia⟩
    obtain ⟨hp1,e1,e2,e3,e4⟩:=L.next hi hpi hd hc.1
    rw [if_neg hc.2,Nat.add_zero] at e2
    have es:stE 3 (.str [c]) (zdq m i tok x) hp1 = some (zdq m i tok (some (.str [c])),hp1):=rfl
    have et:=hst hp1 _ _ c tok e2 hc.1
    rw [hs] at et
    have e9:=zya (m:=m) (i:=i) hc.1 tok hp1
    rw [decide_eq_false h9] at e9
    have eb:zll tst (zdq m i tok (some (.str [c]))) hp1 = _:=zao (zdb et (za2 (zdb e9 rfl))) (za2 (zva (by lia)))
    obtain ⟨loc',hp',f1,f2,f3⟩:=ih f (tok++[c]) (some (.str [c])) hp1 (k + 1) line t r e2 e4 (zfz hd) ht ht2 (fun y hy=>hw y (by simp [hy])) (by lia) (by simp; lia)
    refine ⟨loc',hp',?_,?_,e3.trans f3⟩
    · rw [List.append_assoc] at f1; exact fc_nx e1 es eb f1
    · rw [List.length_cons,show k + (e.length + 1) + 1 = k + 1 + e.length + 1 by lia]; exact f2
  | @esc c w e he ih =>
    intro fuel tok x hp k line t r L hi hd ht ht2 hw hf hl
    have hc:=hw c (by simp)
    simp only [List.length_cons] at hf hl
    obtain ⟨f,rfl⟩:∃ f,fuel = f + 1:=⟨fuel - 1,by lia⟩
    obtain ⟨hp1,e1,e2,e3,e4⟩:=L.next hi hpi hd (by decide)
    rw [if_neg (by decide),Nat.add_zero] at e2
    have hd1:=zfz hd
    have es:stE 3 (.str [92]) (zdq m i tok x) hp1 = some (zdq m i tok (some (.str [92])),hp1):=rfl
    have et:=hst hp1 _ _ 92 tok e2 (by decide)
    rw [h92] at et
    have e9:=zya (m:=m) (i:=i) (c:=92) (by decide) tok hp1
    rw [decide_eq_true rfl] at e9
    obtain ⟨hp2,g1,g2,g3⟩:=zxp (i:=i) e2 hd1 hc.1 tok (.str [92])
    rw [if_neg hc.2,Nat.add_zero] at g2
    have g4:hp2.H i = some (.citer m true):=by
      have:=L.am; have:=L.mp
      rw [g3.h i (by lia) (by lia),e4]
    have eb:zll tst (zdq m i tok (some (.str [92]))) hp1 = _:=zao (zdb et (za2 (zfi e9 g1))) (za2 (zva (by lia)))
    obtain ⟨loc',hp',f1,f2,f3⟩:=ih f (tok++[c]) (some (.str [c])) hp2 (k + 1 + 1) line t r g2 g4 (zfz hd1) ht ht2 (fun y hy=>hw y (by simp [hy])) (by lia) (by simp; lia)
    refine ⟨loc',hp',?_,?_,(e3.trans g3).trans f3⟩
    · rw [List.append_assoc] at f1; exact fc_nx e1 es eb f1
    · rw [List.length_cons,List.length_cons,show k + (e.length + 1 + 1) + 1 = k + 1 + 1 + e.length + 1 by lia]; exact f2
end
noncomputable def Ws (l:List Nat):Prop:=∀ c∈l,c∈[10,9,13,32]
section
variable {a m p i:Nat} {txt:List Nat} {pb:List AV}
theorem zto (hpi:p < i) (f:Nat):∀ (ws:List Nat),Ws ws→∀ (rest:List Nat) (x:Option AV) (hp:Hp) (k line:Nat),Lex hp a m p txt k line pb→hp.H i = some (.citer m true)→txt.drop k = ws++rest→
    ∃ x' hp',zgv za8 (stE 3) oB i (f + ws.length) (zdq m i [] x) hp = zgv za8 (stE 3) oB i f (zdq m i [] x') hp'∧Lex hp' a m p txt (k + ws.length) (line + ws.count 10) pb∧Tw a m hp hp'∧hp'.H i = some (.citer m true):=by
  intro ws
  induction ws with
  | nil =>
    intro _ rest x hp k line L hi hd
    exact ⟨x,hp,rfl,L,⟨rfl,fun _ _ _=>rfl⟩,hi⟩
  | cons c ws ih =>
    intro hw rest x hp k line L hi hd
    have hc:c∈[10,9,13,32]:=hw c (by simp)
    have hc2:c < 1114112:=by simp at hc; lia
    obtain ⟨hp1,e1,e2,e3,e4⟩:=L.next hi hpi hd hc2
    have es:stE 3 (.str [c]) (zdq m i [] x) hp1 = some (zdq m i [] (some (.str [c])),hp1):=rfl
    have et:=zvl (i:=i) e2 (c:=c) []
    rw [decide_eq_true hc] at et
    have eb:oB (zdq m i [] (some (.str [c]))) hp1 = _:=zpp (zfi et (zpp rfl))
    obtain ⟨x',hp',f1,f2,f3,f4⟩:=ih (fun y hy=>hw y (by simp [hy])) rest (some (.str [c])) hp1 (k + 1) _ e2 e4 (zfz hd)
    refine ⟨x',hp',?_,?_,e3.trans f3,f4⟩
    · rw [List.length_cons,← Nat.add_assoc]
      exact fc_ct e1 es eb f1
    · rw [List.length_cons,List.count_cons,show k + (ws.length + 1) = k + 1 + ws.length by lia]
      have:(line + if c = 10 then 1 else 0) + ws.count 10 = line + (ws.count 10 + if (c == 10) = true then 1 else 0):=by
        by_cases h:c = 10 <;> simp [h] <;> lia
      rw [← this]; exact f2
theorem zm0 {F:Nat} {t:MT} {body:MS} {rd:Fn} {loc:Loc} {hp:Hp} {mi:ME} {R:Option (Fl × Loc × Hp)} {n:Nat} {b:Bool} (h1:mi loc hp = some (.loc i,hp)) (h2:hp.H i = some (.citer n b)) (h3:zgv rd t body i F loc hp = R):zm1 F mi rd t body loc hp = R:=by
  exact bE h1 ((congrArg (onCi _) h2).trans h3)
structure Fr (a m:Nat) (hp hp':Hp):Prop where
  n:hp.N≤hp'.N
  h:∀ j,j < hp.N→j≠a→j≠m→hp'.H j = hp.H j
theorem Lex.new {hp:Hp} {k line:Nat} (L:Lex hp a m p txt k line pb) (o:AO):Lex (hp.new o) a m p txt k line pb:=by
  have:=L.am; have:=L.mp; have:=L.pn
  exact ⟨by rw [zct _ _ (by lia),L.ha],by rw [zct _ _ (by lia),L.hm],by rw [zct _ _ (by lia),L.hpb],L.am,L.mp,by simp only [zi7]; lia,L.kl,L.tl⟩
theorem zqe {hp:Hp} {k line:Nat} (L:Lex hp a m p txt k line pb) (tok:AV) (x y:Option AV):zqf 0 (lcl 0) [some (.loc m),some tok,x,y] hp = some (.loc hp.N,hp.new (.citer m true)):=by
  exact bE rfl (iE L.hm rfl)
theorem Fr.ofNew {hp hp':Hp} {o:AO} (e4:Fr a m (hp.new o) hp'):Fr a m hp hp' :=
  ⟨Nat.le_trans (Nat.le_succ _) e4.n,fun j h0 h1 h2=>by rw [e4.h j (Nat.lt_succ_of_lt h0) h1 h2,zct _ _ (by lia)]⟩
theorem Tw.fr {hp hp':Hp} (h:Tw a m hp hp'):Fr a m hp hp':=⟨Nat.le_of_eq h.n.symm,fun j _ h1 h2=>h.h j h1 h2⟩
theorem zmy {hp:Hp} {k line:Nat} (L:Lex hp a m p txt k line []) {w:List Nat} {k' line':Nat}
    (h:∃ fl loc' hp',zgv za8 (stE 3) oB hp.N 1000 (zdq m hp.N [] none) (hp.new (.citer m true)) = some (fl,loc',hp')∧(fl = .rt (.str w)∨(fl = .nx∧loc'[1]? = some (some (.str w))))∧Lex hp' a m p txt k' line' []∧Fr a m hp hp') :
    ∃ hp',zau [.loc m] hp = some (.str w,hp')∧Lex hp' a m p txt k' line' []∧Fr a m hp hp':=by
  obtain ⟨fl,loc',hp',e1,e2,e3,e4⟩:=h
  refine ⟨hp',?_,e3,e4⟩
  have t0:tru (attE 0 3 (lcl 0)) [some (.loc m),none,none,none] hp = some (false,hp):=by
    refine zh4 (x:=.loc p) (zei rfl (zg0 L.hm rfl) rfl) ?_
    exact bE (lE L.hpb rfl) rfl
  have ef:zm1 1000 (lcl 2) za8 (stE 3) oB (zdq m hp.N [] none) (hp.new (.citer m true)) = some (fl,loc',hp'):=zm0 rfl (zfr _ _) e1
  rw [zmz]
  rcases e2 with rfl | ⟨rfl,e2⟩
  · exact zdv rfl (zao (zdb t0 rfl) (zao (zaz rfl rfl) (zao (zaz (zqe L _ _ _) rfl) (zb6 ef))))
  · have hr:retS (lcl 1) loc' hp' = some (.rt (.str w),loc',hp'):=zdp (bE e2 rfl)
    exact zdv rfl (zao (zdb t0 rfl) (zao (zaz rfl rfl) (zao (zaz (zqe L _ _ _) rfl) (zao ef (zb6 hr)))))
theorem gt_q {hp:Hp} {k line:Nat} (L:Lex hp a m p txt k line []) {ws w e r:List Nat} (hw:Ws ws) (he:Enc (· == 34) w e) (hd:txt.drop k = ws++34 ::(e++34 ::r)) (hww:∀ c∈w,c < 1114112∧c≠10) (hl:ws.length≤100) (hl2:w.length≤100) :
    ∃ hp',zau [.loc m] hp = some (.str w,hp')∧Lex hp' a m p txt (k + ws.length + (e.length + 2)) (line + ws.count 10) []∧Fr a m hp hp':=by
  refine zmy L ?_
  have:=L.am; have:=L.mp; have hpn:=L.pn
  obtain ⟨x',hp1,e1,e2,e3,e4⟩:=zto (i:=hp.N) hpn (1000 - ws.length) ws hw _ none _ k line (L.new (.citer m true)) (zfr _ _) hd
  rw [show 1000 - ws.length + ws.length = 1000 by lia] at e1
  have hd1:txt.drop (k + ws.length) = 34 ::(e++34 ::r):=by rw [← List.drop_drop,hd]; simp
  obtain ⟨hp2,f1,f2,f3,f4⟩:=e2.next e4 hpn hd1 (by decide)
  rw [if_neg (by decide),Nat.add_zero] at f2
  have es:stE 3 (.str [34]) (zdq m hp.N [] x') hp2 = some (zdq m hp.N [] (some (.str [34])),hp2):=rfl
  have et:=zvl (i:=hp.N) f2 (c:=34) []
  rw [decide_eq_false (by decide)] at et
  have eq:=zx9 (m:=m) (i:=hp.N) (c:=34) (by decide) [] hp2
  rw [decide_eq_true rfl] at eq
  obtain ⟨loc',hp',g1,g2,g3⟩:=zxi (a:=a) (m:=m) (p:=p) (i:=hp.N) (txt:=txt) (pb:=[]) tQ (· == 34) (fun hp k line c tok L hc=>by rw [zx9 hc]; simp [Bool.beq_eq_decide_eq]) rfl hpn w e he 1000 [] (some (.str [34])) hp2 _ _ 34 r f2 f4 (zfz hd1) rfl (by decide) hww (by lia) (by simp; lia)
  have eb:oB (zdq m hp.N [] (some (.str [34]))) hp2 = _:=zao (zdb et rfl) (zb6 (zfi eq (zb6 (zm0 rfl f4 g1))))
  refine ⟨_,loc',hp',?_,.inl rfl,?_,(e3.trans (f3.trans g3)).fr.ofNew⟩
  · rw [e1]
    obtain ⟨ff,hff⟩:∃ ff,1000 - ws.length = ff + 1:=⟨999 - ws.length,by lia⟩
    rw [hff]
    exact zzx f1 es eb
  · rw [if_neg (by decide)] at g2
    rw [show k + ws.length + (e.length + 2) = k + ws.length + 1 + e.length + 1 by lia]; exact g2
theorem gt_e {hp:Hp} {k line:Nat} (L:Lex hp a m p txt k line []) {ws w e r:List Nat} {c t:Nat} (hw:Ws ws) (he:Enc (fun c=>decide (c∈[10,9,13,32])) w e) (hd:txt.drop k = ws++92 ::c ::(e++t ::r)) (ht:t∈[10,9,13,32]) (hc:c < 1114112∧c≠10) (hww:∀ c∈w,c < 1114112∧c≠10) (hl:ws.length≤100) (hl2:w.length≤100) :
    ∃ hp',zau [.loc m] hp = some (.str (c ::w),hp')∧Lex hp' a m p txt (k + ws.length + (e.length + 3)) (line + ws.count 10 + if t = 10 then 1 else 0) []∧Fr a m hp hp':=by
  refine zmy L ?_
  have:=L.am; have:=L.mp; have hpn:=L.pn
  obtain ⟨x',hp1,e1,e2,e3,e4⟩:=zto (i:=hp.N) hpn (1000 - ws.length) ws hw _ none _ k line (L.new (.citer m true)) (zfr _ _) hd
  rw [show 1000 - ws.length + ws.length = 1000 by lia] at e1
  have hd1:txt.drop (k + ws.length) = 92 ::c ::(e++t ::r):=by rw [← List.drop_drop,hd]; simp
  have hd2:=zfz hd1
  obtain ⟨hp2,f1,f2,f3,f4⟩:=e2.next e4 hpn hd1 (by decide)
  rw [if_neg (by decide),Nat.add_zero] at f2
  have es:stE 3 (.str [92]) (zdq m hp.N [] x') hp2 = some (zdq m hp.N [] (some (.str [92])),hp2):=rfl
  have et:=zvl (i:=hp.N) f2 (c:=92) []
  rw [decide_eq_false (by decide)] at et
  have eq:=zx9 (m:=m) (i:=hp.N) (c:=92) (by decide) [] hp2
  rw [decide_eq_false (by decide)] at eq
  have ee:=zya (m:=m) (i:=hp.N) (c:=92) (by decide) [] hp2
  rw [decide_eq_true rfl] at ee
  obtain ⟨hp3,d1,d2,d3⟩:=zxp (i:=hp.N) f2 hd2 hc.1 [] (.str [92])
  rw [if_neg hc.2,Nat.add_zero] at d2
  have d4:hp3.H hp.N = some (.citer m true):=by rw [d3.h _ (by lia) (by lia),f4]
  obtain ⟨loc',hp',g1,g2,g3⟩:=zxi (a:=a) (m:=m) (p:=p) (i:=hp.N) (txt:=txt) (pb:=[]) tU (fun c=>decide (c∈[10,9,13,32])) (fun hp k line c tok L hc=>zvl L tok) rfl hpn w e he 1000 [c] (some (.str [c])) hp3 _ _ t r d2 d4 (zfz hd2) (decide_eq_true ht) (by simp at ht; lia) hww (by lia) (by simp; lia)
  have eb:oB (zdq m hp.N [] (some (.str [92]))) hp2 = _:=zao (zdb et rfl) (zb6 (zdb eq (zao (zfi ee d1) (zao (zva (tok:=[]) (by simp)) (zb6 (zm0 rfl d4 g1))))))
  refine ⟨_,loc',hp',?_,.inl rfl,?_,(e3.trans (f3.trans (d3.trans g3))).fr.ofNew⟩
  · rw [e1]
    obtain ⟨ff,hff⟩:∃ ff,1000 - ws.length = ff + 1:=⟨999 - ws.length,by lia⟩
    rw [hff]
    exact zzx f1 es eb
  · rw [show k + ws.length + (e.length + 3) = k + ws.length + 1 + 1 + e.length + 1 by lia]; exact g2
theorem gt_0 {hp:Hp} {k line:Nat} (L:Lex hp a m p txt k line []) {ws:List Nat} (hw:Ws ws) (hd:txt.drop k = ws) (hl:ws.length≤100) :
    ∃ hp',zau [.loc m] hp = some (.str [],hp')∧Lex hp' a m p txt txt.length (line + ws.count 10) []∧Fr a m hp hp':=by
  refine zmy L ?_
  have:=L.am; have:=L.mp; have hpn:=L.pn; have hkl:=L.kl
  obtain ⟨x',hp1,e1,e2,e3,e4⟩:=zto (i:=hp.N) hpn (1000 - ws.length) ws hw [] none _ k line (L.new (.citer m true)) (zfr _ _) (by rw [hd,List.append_nil])
  rw [show 1000 - ws.length + ws.length = 1000 by lia] at e1
  have hk:k + ws.length = txt.length:=by rw [← hd,List.length_drop]; lia
  obtain ⟨hp2,f1,f2,f3,f4⟩:=e2.next0 e4 hpn hk
  refine ⟨.nx,zdq m hp.N [] x',hp2,?_,.inr ⟨rfl,rfl⟩,hk ▸ f2,⟨?_,fun j h0 h1 h2=>?_⟩⟩
  · rw [e1]
    obtain ⟨ff,hff⟩:∃ ff,1000 - ws.length = ff + 1:=⟨999 - ws.length,by lia⟩
    rw [hff]
    exact zzy f1
  · rw [f3,e3.n]; exact Nat.le_succ _
  · rw [f4 j h1 h2 (by lia),e3.h j h1 h2,zct _ _ (by lia)]
end
theorem zp3 (txt:List Nat) (hl:txt.length≤5000) (hp:Hp):∃ hp',zeg [.str txt] hp = some (.loc (hp.N + 1),hp')∧Lex hp' hp.N (hp.N + 1) (hp.N + 2) txt 0 1 []∧Upp hp hp':=by
  let h1:=hp.new (.list [.int 0])
  let h2:=h1.new (.inst 0 [none,none,none,none])
  let h3:=h2.put (hp.N + 1) (.inst 0 [some (.int 1),none,none,none])
  let h4:=h3.put (hp.N + 1) (.inst 0 [some (.int 1),some (.strm hp.N txt),none,none])
  let h5:=h4.put (hp.N + 1) (.inst 0 [some (.int 1),some (.strm hp.N txt),some (.str [10,9,13,32]),none])
  let h6:=h5.new (.list [])
  let h7:=h6.put (hp.N + 1) (.inst 0 [some (.int 1),some (.strm hp.N txt),some (.str [10,9,13,32]),some (.loc (hp.N + 2))])
  have s1:zee 0 0 (cst (.int 1)) (lcl 0) [some (.loc (hp.N + 1)),some (.strm hp.N txt)] h2 = some (.nx,[some (.loc (hp.N + 1)),some (.strm hp.N txt)],h3):=by
    have:h2.H (hp.N + 1) = some (.inst 0 [none,none,none,none]):=zfr h1 _
    exact zfp rfl rfl (zhn this (by simp))
  have s2:zee 0 1 (lcl 1) (lcl 0) [some (.loc (hp.N + 1)),some (.strm hp.N txt)] h3 = some (.nx,[some (.loc (hp.N + 1)),some (.strm hp.N txt)],h4):=by
    have:h3.H (hp.N + 1) = some (.inst 0 [some (.int 1),none,none,none]):=zcb _ _ _
    exact zfp rfl rfl (zhn this (by simp))
  have s3:zee 0 2 (cst (.str [10,9,13,32])) (lcl 0) [some (.loc (hp.N + 1)),some (.strm hp.N txt)] h4 = some (.nx,[some (.loc (hp.N + 1)),some (.strm hp.N txt)],h5):=by
    have:h4.H (hp.N + 1) = some (.inst 0 [some (.int 1),some (.strm hp.N txt),none,none]):=zcb _ _ _
    exact zfp rfl rfl (zhn this (by simp))
  have e5:h5.N = hp.N + 2:=rfl
  have s4:zee 0 3 (lcz (lstE zaf)) (lcl 0) [some (.loc (hp.N + 1)),some (.strm hp.N txt)] h5 = some (.nx,[some (.loc (hp.N + 1)),some (.strm hp.N txt)],h7):=by
    have e6:h6.H (hp.N + 1) = some (.inst 0 [some (.int 1),some (.strm hp.N txt),some (.str [10,9,13,32]),none]):=by
      show (h5.new _).H _ = _
      rw [zct _ _ (by lia)]; exact zcb _ _ _
    have e7:lcz (lstE zaf) [some (.loc (hp.N + 1)),some (.strm hp.N txt)] h5 = some (.loc (hp.N + 2),h6):=zfl (hp1:=h5) (xs:=[]) (zc9 (hp1:=h5) (xs:=[]) rfl (by simp))
    exact zfp e7 rfl (zhn e6 (by simp))
  have e8:zj0 [.loc (hp.N + 1),.strm hp.N txt] h2 = some (.none,h7):=zkf rfl (zao s1 (zao s2 (zao s3 (za2 s4))))
  have e9:zeg [.str txt] hp = some (.loc (hp.N + 1),h7):=by
    show z0a [.strm hp.N txt] h1 = _
    have:zj0 [.loc h1.N,.strm hp.N txt] (h1.new (.inst 0 (List.replicate 4 none))) = some (.none,h7):=e8
    exact zwf this
  have low:∀ j,j < hp.N + 1→h7.H j = h1.H j:=fun j hj=>by
    show ((((((h1.new _).put _ _).put _ _).put _ _).new _).put _ _).H j = _
    rw [za1 _ _ (by lia),zct _ _ (by show j≠hp.N + 2; lia),za1 _ _ (by lia),za1 _ _ (by lia),za1 _ _ (by lia),zct _ _ (by show j≠hp.N + 1; lia)]
  refine ⟨h7,e9,⟨?_,zcb _ _ _,?_,by lia,by lia,?_,by lia,hl⟩,⟨?_,fun j hj=>?_⟩⟩
  · rw [low _ (by lia)]; exact zfr hp _
  · show (h6.put _ _).H _ = _
    rw [za1 _ _ (by lia)]; exact zfr h5 _
  · show hp.N + 2 < hp.N + 3; lia
  · show hp.N≤hp.N + 3; lia
  · rw [low _ (by lia)]; exact zct _ _ (by lia)
section
variable {a m p:Nat} {txt:List Nat}
theorem zox {hp:Hp} {k line:Nat} {pb:List AV} (L:Lex hp a m p txt k line pb) (hl:pb.length≤100) (x:AV):zb7 [.loc m,x] hp = some (.none,hp.put p (.list (pb++[x])))∧Lex (hp.put p (.list (pb++[x]))) a m p txt k line (pb++[x]):=by
  have:=L.am; have:=L.mp
  refine ⟨?_,⟨by rw [za1 _ _ (by lia),L.ha],by rw [za1 _ _ (by lia),L.hm],zcb _ _ _,L.am,L.mp,L.pn,L.kl,L.tl⟩⟩
  exact zkf rfl (za2 (zcu (zc8 (zei rfl (zg0 L.hm rfl) rfl) (zd0 L.hpb) (zai rfl rfl) (zdz x L.hpb (by lia)))))
theorem pop_eq {hp:Hp} {k line:Nat} {pb:List AV} {x:AV} (L:Lex hp a m p txt k line (x ::pb)) (hl:pb.length≤100):zau [.loc m] hp = some (x,hp.put p (.list pb))∧Lex (hp.put p (.list pb)) a m p txt k line pb:=by
  have:=L.am; have:=L.mp
  refine ⟨?_,⟨by rw [za1 _ _ (by lia),L.ha],by rw [za1 _ _ (by lia),L.hm],zcb _ _ _,L.am,L.mp,L.pn,L.kl,L.tl⟩⟩
  have t0:tru (attE 0 3 (lcl 0)) [some (.loc m),none,none,none] hp = some (true,hp):=by
    refine zh4 (x:=.loc p) (zei rfl (zg0 L.hm rfl) rfl) ?_
    have h:(x ::pb).length≤1000000:=zd8 (by simp; lia)
    exact bE (lE L.hpb rfl) (if_pos h)
  have hpop:popF [.loc p,.int 0] hp = some (x,hp.put p (.list pb)):=by
    have h:pb.length + 1≤1000000:=zd8 (by lia)
    exact (popF_2 p 0 hp).trans (lE L.hpb (if_pos ⟨rfl,h⟩))
  exact zdv rfl (zb6 (zfi t0 (zb6 (zdp (zc8 (zei rfl (zg0 L.hm rfl) rfl) (zd0 L.hpb) (zai rfl rfl) hpop)))))
structure WordOk (w:List Nat):Prop where
  ne:w≠[]
  c:∀ c∈w,c < 1114112∧c≠10∧c≠34∧c≠92
  l:w.length≤100
theorem zuv:∀ (w:List Nat),(∀ c∈w,c≠34∧c≠92)→Enc (· == 34) w w:=by
  intro w
  induction w with
  | nil =>
    intro _
    exact .nil
  | cons c r ih =>
    intro h
    exact .plain (by simpa using (h c (by simp)).1) (h c (by simp)).2 (ih fun y hy=>h y (by simp [hy]))
theorem zuw (stop:Nat→Bool):∀ (w:List Nat),Enc stop w (escP w):=by
  intro w
  induction w with
  | nil =>
    exact .nil
  | cons c r ih =>
    exact .esc (ih)
theorem zky:∀ (w:List Nat),(∀ c∈w,c≠10)→(escP w).count 10 = 0:=by
  intro w
  induction w with
  | nil =>
    intro _
    exact rfl
  | cons c r ih =>
    intro h
    simp only [zm4,zm3,List.count_cons]
    rw [ih fun y hy=>h y (by simp [hy])]
    have:=h c (by simp)
    simp [this]
theorem zf8 {w:List Nat} (h:∀ c∈w,c≠10):w.count 10 = 0:=List.count_eq_zero.2 fun hm=>h 10 hm rfl
inductive tok_quotedR (a:Nat) (m:Nat) (p:Nat) (txt:List Nat) (hp:Hp) (k:Nat) (line:Nat) (w:List Nat) (r:List Nat) (sep:Nat):Prop
  | mk (hp':_) (k':_) (line':_) (q1:zau [.loc m] hp = some (.str w,hp')) (q2:Lex hp' a m p txt k' line' []) (q3:txt.drop k' = [sep]++r) (q4:line' + (txt.drop k').count 10 = line + (txt.drop k).count 10) (q5:Fr a m hp hp'):tok_quotedR a m p txt hp k line w r sep
theorem zlk {hp:Hp} {k line:Nat} (L:Lex hp a m p txt k line []) {ld w r e:List Nat} {sep:Nat} (hw:Ws ld) (hld:ld.length≤1) (ok:WordOk w) (hd:txt.drop k = ld++(34 ::(e++[34])++sep ::r)) (he:Enc (· == 34) w e) (h10:e.count 10 = 0):tok_quotedR a m p txt hp k line w r sep:=by
  have c1:∀ c∈w,c < 1114112∧c≠10:=fun c hc=>⟨(ok.c c hc).1,(ok.c c hc).2.1⟩
  have hd':txt.drop k = ld++34 ::(e++34 ::(sep ::r)):=by rw [hd]; simp
  obtain ⟨hp',e1,e2,e3⟩:=gt_q L hw he hd' c1 (by lia) ok.l
  have hk:txt.drop (k + ld.length + (e.length + 2)) = sep ::r:=by
    rw [show k + ld.length + (e.length + 2) = k + (ld++34 ::(e++[34])).length by simp; lia,← List.drop_drop,hd',show ld++34 ::(e++34 ::(sep ::r)) = (ld++34 ::(e++[34]))++sep ::r by simp,List.drop_left]
  refine ⟨hp',_,_,e1,e2,?_,?_,e3⟩
  · rw [hk]; rfl
  · rw [hk,hd']
    simp only [List.count_append,List.count_cons,h10]
    simp
    lia
theorem zpg {hp:Hp} {k line:Nat} (L:Lex hp a m p txt k line []) {ld w r:List Nat} {way sep:Nat} (hw:Ws ld) (hld:ld.length≤1) (ok:WordOk w) (hs:sep = 10∨sep = 32) (hd:txt.drop k = ld++(zd1 w way++sep ::r)) :
    ∃ hp' k' line',zau [.loc m] hp = some (.str w,hp')∧Lex hp' a m p txt k' line' []∧txt.drop k' = (if way = 1 then [] else [sep])++r∧line' + (txt.drop k').count 10 = line + (txt.drop k).count 10∧Fr a m hp hp':=by
  have c1:∀ c∈w,c < 1114112∧c≠10:=fun c hc=>⟨(ok.c c hc).1,(ok.c c hc).2.1⟩
  match way with
  | 0 =>
    obtain ⟨a1,a2,a3,a4,a5,a6,a7,a8⟩:=zlk (sep:=sep) (r:=r) L hw hld ok (by rw [hd]; simp [zd1]) (zuv w fun c hc=>⟨(ok.c c hc).2.2.1,(ok.c c hc).2.2.2⟩) (zf8 fun c hc=>(ok.c c hc).2.1)
    exact ⟨a1,a2,a3,a4,a5,a6,a7,a8⟩
  | n + 2 =>
    rw [if_neg (by lia)]
    obtain ⟨a1,a2,a3,a4,a5,a6,a7,a8⟩:=zlk (sep:=sep) (r:=r) L hw hld ok (by rw [hd]; simp [zd1]) (zuw _ w) (zky w fun c hc=>(ok.c c hc).2.1)
    exact ⟨a1,a2,a3,a4,a5,a6,a7,a8⟩
  | 1 =>
    obtain ⟨c,w',rfl⟩:∃ c w',w = c ::w':=by
      cases w with
      | nil=>exact absurd rfl ok.ne
      | cons c w'=>exact ⟨c,w',rfl⟩
    have hd':txt.drop k = ld++92 ::c ::(escP w'++sep ::r):=by rw [hd]; simp [zd1,zm4,zm3]
    have ht:sep∈[10,9,13,32]:=by rcases hs with rfl | rfl <;> decide
    have hl:=ok.l
    simp only [List.length_cons] at hl
    obtain ⟨hp',e1,e2,e3⟩:=gt_e L hw (zuw _ w') hd' ht (c1 c (by simp)) (fun y hy=>c1 y (by simp [hy])) (by lia) (by lia)
    have hk:txt.drop (k + ld.length + ((escP w').length + 3)) = r:=by
      rw [show k + ld.length + ((escP w').length + 3) = k + (ld++92 ::c ::(escP w'++[sep])).length by simp; lia,← List.drop_drop,hd',show ld++92 ::c ::(escP w'++sep ::r) = (ld++92 ::c ::(escP w'++[sep]))++r by simp,List.drop_left]
    refine ⟨hp',_,_,e1,e2,?_,?_,e3⟩
    · rw [hk,if_pos rfl]; rfl
    · have h10:=zky w' fun y hy=>(c1 y (by simp [hy])).2
      have hc10:=(c1 c (by simp)).2
      rw [hk,hd']
      simp only [List.count_append,List.count_cons,h10]
      simp [hc10]
      rcases hs with rfl | rfl <;> simp <;> lia
end
end Mine
end
section
namespace Mine
noncomputable def sdP:Nat→List Nat→Nat→Nat→Nat→List Nat
  | 0,xs,s,p,x=>xs.set p x
  | f + 1,xs,s,p,x=>if s < p then (if x < xs.getD ((p - 1) / 2) 0 then sdP f (xs.set p (xs.getD ((p - 1) / 2) 0)) s ((p - 1) / 2) x else xs.set p x) else xs.set p x
theorem znx:∀ xs s p x,sdP 0 xs s p x =
   (xs.set p x):=fun _ _ _ _=>rfl
theorem znw:∀ f xs s p x,sdP (f + 1) xs s p x =
   (if s < p then (if x < xs.getD ((p - 1) / 2) 0 then sdP f (xs.set p (xs.getD ((p - 1) / 2) 0)) s ((p - 1) / 2) x else xs.set p x) else xs.set p x):=fun _ _ _ _ _=>rfl
noncomputable def zcy (xs:List Nat) (s p:Nat):List Nat:=sdP (p + 1) xs s p (xs.getD p 0)
noncomputable def suP:Nat→List Nat→Nat→Nat→Nat→List Nat
  | 0,xs,s,p,x=>zcy (xs.set p x) s p
  | f + 1,xs,s,p,x=>if 2 * p + 1 < xs.length then (if 2 * p + 2 < xs.length∧¬ (xs.getD (2 * p + 1) 0 < xs.getD (2 * p + 2) 0) then suP f (xs.set p (xs.getD (2 * p + 2) 0)) s (2 * p + 2) x else suP f (xs.set p (xs.getD (2 * p + 1) 0)) s (2 * p + 1) x) else zcy (xs.set p x) s p
theorem zln:∀ xs s p x,suP 0 xs s p x =
   (zcy (xs.set p x) s p):=fun _ _ _ _=>rfl
theorem zlm:∀ f xs s p x,suP (f + 1) xs s p x =
   (if 2 * p + 1 < xs.length then (if 2 * p + 2 < xs.length∧¬ (xs.getD (2 * p + 1) 0 < xs.getD (2 * p + 2) 0) then suP f (xs.set p (xs.getD (2 * p + 2) 0)) s (2 * p + 2) x else suP f (xs.set p (xs.getD (2 * p + 1) 0)) s (2 * p + 1) x) else zcy (xs.set p x) s p):=fun _ _ _ _ _=>rfl
noncomputable def zdn (xs:List Nat) (p:Nat):List Nat:=suP xs.length xs p p (xs.getD p 0)
noncomputable def zyv (xs:List Nat) (x:Nat):List Nat:=zcy (xs++[x]) 0 xs.length
noncomputable def popR (xs:List Nat):List Nat:=if xs.length = 1 then [] else zdn (xs.dropLast.set 0 (xs.getLastD 0)) 0
noncomputable def zmx (xs:List Nat):List Nat:=(List.range (xs.length / 2)).reverse.foldl zdn xs
noncomputable def zlj (i:Nat) (xs:List Nat):Prop:=∀ c,0 < c→c < xs.length→i≤(c - 1) / 2→xs.getD ((c - 1) / 2) 0≤xs.getD c 0
noncomputable abbrev zec (xs:List Nat):Prop:=zlj 0 xs
theorem g_eq {xs:List Nat} {p x:Nat} (hp:p < xs.length):(xs.set p x).getD p 0 = x:=by
  rw [List.getD_eq_getElem?_getD,List.getElem?_set_self hp]; rfl
theorem g_ne {xs:List Nat} {p c x:Nat} (h:p≠c):(xs.set p x).getD c 0 = xs.getD c 0:=by
  rw [List.getD_eq_getElem?_getD,List.getElem?_set_ne h,List.getD_eq_getElem?_getD]
theorem zpo {xs:List Nat} {p:Nat} (hp:p < xs.length):xs.set p (xs.getD p 0) = xs:=by
  rw [List.getD_eq_getElem?_getD,List.getElem?_eq_getElem hp]; exact List.set_getElem_self hp
theorem zmm {xs:List Nat} {p q x:Nat} (hp:p < xs.length) (hq:q < xs.length):((xs.set p (xs.getD q 0)).set q x).Perm (xs.set p x):=by
  by_cases e:p = q
  · subst e; rw [List.set_set]
  · have h:=List.set_set_perm (as:=xs.set p x) (i:=p) (j:=q) (by rw [List.length_set]; exact hp) (by rw [List.length_set]; exact hq)
    rw [List.getElem_set_self,List.getElem_set_ne e,List.set_set] at h
    rw [List.getD_eq_getElem?_getD,List.getElem?_eq_getElem hq]
    exact h
theorem zv3 (s x:Nat):∀ (f:Nat) (xs:List Nat) (p:Nat),p < xs.length→(sdP f xs s p x).Perm (xs.set p x):=by
  intro f
  induction f with
  | zero =>
    intro xs p _
    exact .refl _
  | succ f ih =>
    intro xs p hp
    have hq:(p - 1) / 2 < xs.length:=Nat.lt_of_le_of_lt (Nat.le_trans (Nat.div_le_self _ _) (Nat.sub_le _ _)) hp
    (first | rw [znw] | rw [znx])
    by_cases h1:s < p
    · rw [if_pos h1]
      by_cases h2:x < xs.getD ((p - 1) / 2) 0
      · rw [if_pos h2]
        exact (ih _ _ (by rw [List.length_set]; exact hq)).trans (zmm hp hq)
      · rw [if_neg h2]
    · rw [if_neg h1]
theorem zgc {xs:List Nat} {s p:Nat} (hp:p < xs.length):(zcy xs s p).Perm xs:=by
  have h:=zv3 s (xs.getD p 0) (p + 1) xs p hp
  rw [zpo hp] at h
  exact h
theorem zvn (s x:Nat):∀ (f:Nat) (xs:List Nat) (p:Nat),p < xs.length→(suP f xs s p x).Perm (xs.set p x):=by
  intro f
  induction f with
  | zero =>
    intro xs p hp
    exact zgc (by rw [List.length_set]; exact hp)
  | succ f ih =>
    intro xs p hp
    (first | rw [zlm] | rw [zln])
    by_cases h1:2 * p + 1 < xs.length
    · rw [if_pos h1]
      by_cases h2:2 * p + 2 < xs.length∧¬ (xs.getD (2 * p + 1) 0 < xs.getD (2 * p + 2) 0)
      · rw [if_pos h2]
        exact (ih _ _ (by rw [List.length_set]; exact h2.1)).trans (zmm hp h2.1)
      · rw [if_neg h2]
        exact (ih _ _ (by rw [List.length_set]; exact h1)).trans (zmm hp h1)
    · rw [if_neg h1]
      exact zgc (by rw [List.length_set]; exact hp)
inductive De (i:Nat):Nat→Prop
  | refl:De i i
  | up {p:Nat}:i < p→De i ((p - 1) / 2)→De i p
theorem De.le {i p:Nat} (h:De i p):i≤p:=by
  cases h with
  | refl=>exact Nat.le_refl _
  | up a _=>exact Nat.le_of_lt a
theorem De.par {i p:Nat} (h:De i p) (n:i < p):De i ((p - 1) / 2):=by
  cases h with
  | refl=>exact absurd n (Nat.lt_irrefl _)
  | up _ b=>exact b
theorem zug {s p x:Nat} {xs:List Nat} (hp:p < xs.length) (D:De s p)
    (h1:∀ c,0 < c→c < xs.length→s≤(c - 1) / 2→c≠p→(c - 1) / 2≠p→xs.getD ((c - 1) / 2) 0≤xs.getD c 0)
    (h2:∀ c,0 < c→c < xs.length→(c - 1) / 2 = p→x≤xs.getD c 0) (h4:s < p→xs.getD ((p - 1) / 2) 0≤x):zlj s (xs.set p x):=by
  intro c c0 c1 c2
  rw [List.length_set] at c1
  have hc:(c - 1) / 2≠c:=by lia
  by_cases e:p = c
  · subst e
    rw [g_eq hp,g_ne (Ne.symm hc)]
    exact h4 (by lia)
  · rw [g_ne e]
    by_cases e2:p = (c - 1) / 2
    · rw [← e2,g_eq hp]; exact h2 c c0 c1 e2.symm
    · rw [g_ne e2]; exact h1 c c0 c1 c2 (Ne.symm e) (Ne.symm e2)
theorem zs3 (s x:Nat):∀ (f:Nat) (xs:List Nat) (p:Nat),De s p→p < xs.length→p≤f→
    (∀ c,0 < c→c < xs.length→s≤(c - 1) / 2→c≠p→(c - 1) / 2≠p→xs.getD ((c - 1) / 2) 0≤xs.getD c 0)→
    (∀ c,0 < c→c < xs.length→(c - 1) / 2 = p→x≤xs.getD c 0)→
    (∀ c,0 < c→c < xs.length→(c - 1) / 2 = p→s < p→xs.getD ((p - 1) / 2) 0≤xs.getD c 0)→zlj s (sdP f xs s p x):=by
  intro f
  induction f with
  | zero =>
    intro xs p D hp hf h1 h2 _
    exact zug hp D h1 h2 fun q=>absurd q (by lia)
  | succ f ih =>
    intro xs p D hp hf h1 h2 h3
    (first | rw [znw] | rw [znx])
    by_cases q:s < p
    · rw [if_pos q]
      by_cases q2:x < xs.getD ((p - 1) / 2) 0
      · rw [if_pos q2]
        have hq:(p - 1) / 2 < xs.length:=by lia
        have hn:p≠(p - 1) / 2:=by lia
        have Dp:=D.par q
        have hs:=Dp.le
        refine ih _ _ Dp (by rw [List.length_set]; exact hq) (by lia) (fun c c0 c1 c2 c3 c4=>?_) (fun c c0 c1 c2=>?_) (fun c c0 c1 c2 c3=>?_)
        · rw [List.length_set] at c1
          have e:p≠c:=fun e=>c4 (by rw [e])
          rw [g_ne e]
          by_cases e2:p = (c - 1) / 2
          · rw [← e2,g_eq hp]; exact h3 c c0 c1 e2.symm q
          · rw [g_ne e2]; exact h1 c c0 c1 c2 (Ne.symm e) (Ne.symm e2)
        · rw [List.length_set] at c1
          by_cases e:p = c
          · subst e; rw [g_eq hp]; exact Nat.le_of_lt q2
          · rw [g_ne e]
            have:=h1 c c0 c1 (by rw [c2]; exact hs) (Ne.symm e) (by rw [c2]; exact Ne.symm hn)
            rw [c2] at this
            exact Nat.le_trans (Nat.le_of_lt q2) this
        · rw [List.length_set] at c1
          have hs2:=(Dp.par c3).le
          have hu:=h1 ((p - 1) / 2) (by lia) hq hs2 (Ne.symm hn) (by lia)
          rw [g_ne (show p≠((p - 1) / 2 - 1) / 2 by lia)]
          by_cases e:p = c
          · subst e; rw [g_eq hp]; exact hu
          · rw [g_ne e]
            have:=h1 c c0 c1 (by rw [c2]; exact hs) (Ne.symm e) (by rw [c2]; exact Ne.symm hn)
            rw [c2] at this
            exact Nat.le_trans hu this
      · rw [if_neg q2]
        exact zug hp D h1 h2 fun _=>Nat.le_of_not_lt q2
    · rw [if_neg q]
      exact zug hp D h1 h2 fun z=>absurd z q
theorem zxj {s x:Nat} {xs:List Nat} {p:Nat} (D:De s p) (hp:p < xs.length) (hn:xs.length≤2 * p + 1)
    (h1:∀ c,0 < c→c < xs.length→s≤(c - 1) / 2→c≠p→(c - 1) / 2≠p→xs.getD ((c - 1) / 2) 0≤xs.getD c 0):zlj s (zcy (xs.set p x) s p):=by
  refine zs3 s _ _ _ _ D (by rw [List.length_set]; exact hp) (Nat.le_succ _) (fun c c0 c1 c2 c3 c4=>?_) (fun c c0 c1 c2=>?_) fun c c0 c1 c2 _=>?_
  · rw [List.length_set] at c1
    rw [g_ne (Ne.symm c3),g_ne (Ne.symm c4)]; exact h1 c c0 c1 c2 c3 c4
  · rw [List.length_set] at c1; lia
  · rw [List.length_set] at c1; lia
theorem zr5 {s m:Nat} {xs:List Nat} {p:Nat} (D:De s p) (hp:p < xs.length) (hm:m < xs.length) (m1:(m - 1) / 2 = p) (m0:0 < m) (hc:∀ c,0 < c→c < xs.length→(c - 1) / 2 = p→xs.getD m 0≤xs.getD c 0)
    (h1:∀ c,0 < c→c < xs.length→s≤(c - 1) / 2→c≠p→(c - 1) / 2≠p→xs.getD ((c - 1) / 2) 0≤xs.getD c 0)
    (h3:∀ c,0 < c→c < xs.length→(c - 1) / 2 = p→s < p→xs.getD ((p - 1) / 2) 0≤xs.getD c 0) :
    De s m∧(∀ c,0 < c→c < (xs.set p (xs.getD m 0)).length→s≤(c - 1) / 2→c≠m→(c - 1) / 2≠m→(xs.set p (xs.getD m 0)).getD ((c - 1) / 2) 0≤(xs.set p (xs.getD m 0)).getD c 0)∧
    (∀ c,0 < c→c < (xs.set p (xs.getD m 0)).length→(c - 1) / 2 = m→s < m→(xs.set p (xs.getD m 0)).getD ((m - 1) / 2) 0≤(xs.set p (xs.getD m 0)).getD c 0):=by
  have hs:=D.le
  have hpm:p≠m:=by lia
  refine ⟨.up (by lia) (by rw [m1]; exact D),fun c c0 c1 c2 c3 c4=>?_,fun c c0 c1 c2 c3=>?_⟩
  · rw [List.length_set] at c1
    by_cases e:p = c
    · subst e
      rw [g_eq hp,g_ne (show p≠(p - 1) / 2 by lia)]
      exact h3 m m0 hm m1 (by lia)
    · rw [g_ne e]
      by_cases e2:p = (c - 1) / 2
      · rw [← e2,g_eq hp]; exact hc c c0 c1 e2.symm
      · rw [g_ne e2]; exact h1 c c0 c1 c2 (Ne.symm e) (Ne.symm e2)
  · rw [List.length_set] at c1
    rw [m1,g_eq hp,g_ne (show p≠c by lia)]
    have:=h1 c c0 c1 (by lia) (by lia) (by lia)
    rw [c2] at this; exact this
theorem zyg (s x:Nat):∀ (f:Nat) (xs:List Nat) (p:Nat),De s p→p < xs.length→xs.length≤f + p→
    (∀ c,0 < c→c < xs.length→s≤(c - 1) / 2→c≠p→(c - 1) / 2≠p→xs.getD ((c - 1) / 2) 0≤xs.getD c 0)→
    (∀ c,0 < c→c < xs.length→(c - 1) / 2 = p→s < p→xs.getD ((p - 1) / 2) 0≤xs.getD c 0)→zlj s (suP f xs s p x):=by
  intro f
  induction f with
  | zero =>
    intro xs p D hp hf h1 _
    exact zxj D hp (by lia) h1
  | succ f ih =>
    intro xs p D hp hf h1 h3
    (first | rw [zlm] | rw [zln])
    by_cases q1:2 * p + 1 < xs.length
    · rw [if_pos q1]
      by_cases q2:2 * p + 2 < xs.length∧¬ (xs.getD (2 * p + 1) 0 < xs.getD (2 * p + 2) 0)
      · rw [if_pos q2]
        obtain ⟨a,b,c⟩:=zr5 (m:=2 * p + 2) D hp q2.1 (by lia) (by lia) (fun c c0 c1 c2=>by
          rcases (show c = 2 * p + 1∨c = 2 * p + 2 by lia) with rfl | rfl
          · exact Nat.le_of_not_lt q2.2
          · exact Nat.le_refl _) h1 h3
        exact ih _ _ a (by rw [List.length_set]; exact q2.1) (by rw [List.length_set]; lia) b c
      · rw [if_neg q2]
        obtain ⟨a,b,c⟩:=zr5 (m:=2 * p + 1) D hp q1 (by lia) (by lia) (fun c c0 c1 c2=>by
          rcases (show c = 2 * p + 1∨c = 2 * p + 2 by lia) with rfl | rfl
          · exact Nat.le_refl _
          · exact Classical.byContradiction fun z=>q2 ⟨c1,fun y=>z (Nat.le_of_lt y)⟩) h1 h3
        exact ih _ _ a (by rw [List.length_set]; exact q1) (by rw [List.length_set]; lia) b c
    · rw [if_neg q1]
      exact zxj D hp (Nat.le_of_not_lt q1) h1
theorem zwv {xs:List Nat} {x c:Nat} (h:c < xs.length):(xs++[x]).getD c 0 = xs.getD c 0:=by
  rw [List.getD_eq_getElem?_getD,List.getElem?_append_left h,List.getD_eq_getElem?_getD]
theorem de0:∀ p,De 0 p:=fun p=>by
  induction p using Nat.strongRecOn with
  | _ p ih =>
    by_cases h:p = 0
    · subst h; exact .refl
    · exact .up (Nat.pos_of_ne_zero h) (ih _ (by lia))
theorem zyu {xs:List Nat} (x:Nat) (hl:xs.length≤5) (h:zec xs):zec (zyv xs x)∧(zyv xs x).Perm (x ::xs):=by
  have hp:xs.length < (xs++[x]).length:=by rw [List.length_append]; exact Nat.lt_succ_self _
  refine ⟨zs3 0 _ _ _ _ (de0 _) hp (Nat.le_succ _) (fun c c0 c1 _ c3 c4=>?_) (fun c c0 c1 c2=>?_) (fun c c0 c1 c2 _=>?_),(zgc hp).trans List.perm_append_comm⟩
  · rw [List.length_append,List.length_singleton] at c1
    rw [zwv (by lia),zwv (by lia)]
    exact h c c0 (by lia) (Nat.zero_le _)
  · rw [List.length_append,List.length_singleton] at c1; lia
  · rw [List.length_append,List.length_singleton] at c1; lia
theorem su_ok {xs:List Nat} (i:Nat) (hi:i < xs.length / 2) (hl:xs.length≤6) (h:zlj (i + 1) xs):zlj i (zdn xs i)∧(zdn xs i).Perm xs:=by
  have hp:i < xs.length:=by lia
  refine ⟨zyg i _ _ _ _ .refl hp (Nat.le_add_right _ _) (fun c c0 c1 c2 c3 c4=>h c c0 c1 (by lia)) (fun c c0 c1 c2 c3=>absurd c3 (Nat.lt_irrefl _)),?_⟩
  have:=zvn i (xs.getD i 0) xs.length xs i hp
  rw [zpo hp] at this
  exact this
theorem zvc {xs:List Nat} (hl:xs.length≤6):zlj (xs.length / 2) xs:=fun c c0 c1 c2=>by lia
theorem zzu:∀ (i:Nat) (xs:List Nat),i≤xs.length / 2→xs.length≤6→zlj i xs→zec ((List.range i).reverse.foldl zdn xs)∧((List.range i).reverse.foldl zdn xs).Perm xs:=by
  intro i
  induction i with
  | zero =>
    intro xs _ _ h
    exact ⟨h,.refl _⟩
  | succ i ih =>
    intro xs hi hl h
    have h1:=su_ok i hi hl h
    have e:=h1.2.length_eq
    have h2:=ih (zdn xs i) (by rw [e]; exact Nat.le_of_lt hi) (by rw [e]; exact hl) h1.1
    rw [List.range_succ,List.reverse_append]
    exact ⟨h2.1,h2.2.trans h1.2⟩
theorem zri {xs:List Nat} (hl:xs.length≤6):zec (zmx xs)∧(zmx xs).Perm xs:=zzu _ xs (Nat.le_refl _) hl (zvc hl)
theorem zuh {xs:List Nat} (h:zec xs):∀ c,c < xs.length→xs.getD 0 0≤xs.getD c 0:=fun c=>by
  induction c using Nat.strongRecOn with
  | _ c ih =>
    intro hc
    by_cases e:c = 0
    · subst e; exact Nat.le_refl _
    · exact Nat.le_trans (ih _ (by lia) (by lia)) (h c (Nat.pos_of_ne_zero e) hc (Nat.zero_le _))
theorem pop_ok {y:Nat} {xs:List Nat} (hl:(y ::xs).length≤6) (h:zec (y ::xs)):zec (popR (y ::xs))∧(popR (y ::xs)).Perm xs∧∀ z∈xs,y≤z:=by
  have hm:∀ z∈xs,y≤z:=fun z hz=>by
    obtain ⟨i,hi,e⟩:=List.getElem_of_mem hz
    have:=zuh h (i + 1) (Nat.succ_lt_succ hi)
    rw [List.getD_eq_getElem?_getD,List.getD_eq_getElem?_getD,List.getElem?_cons_succ,List.getElem?_eq_getElem hi,e] at this
    exact this
  suffices H:zec (popR (y ::xs))∧(popR (y ::xs)).Perm xs from ⟨H.1,H.2,hm⟩
  rcases List.eq_nil_or_concat xs with rfl | ⟨ys,z,rfl⟩
  · exact ⟨fun c c0 c1=>absurd c1 (Nat.not_lt_zero _),.refl _⟩
  · rw [List.concat_eq_append] at hl h hm ⊢
    have e1:(y ::(ys++[z])).dropLast = y ::ys:=List.dropLast_concat (l₁:=y ::ys)
    have e2:(y ::(ys++[z])).getLastD 0 = z:=by
      rw [List.getLastD_eq_getLast?]
      rw [show y ::(ys++[z]) = (y ::ys)++[z] from rfl,List.getLast?_concat]; rfl
    have hn:¬ (y ::(ys++[z])).length = 1:=by rw [List.length_cons,List.length_append]; exact fun q=>Nat.succ_ne_zero _ (Nat.succ.inj q)
    have hl':ys.length + 1 + 1≤6:=by rw [List.length_cons,List.length_append] at hl; exact hl
    unfold popR
    rw [if_neg hn,e1,e2]
    show zec (zdn (z ::ys) 0)∧(zdn (z ::ys) 0).Perm (ys++[z])
    have hF:zlj 1 (z ::ys):=fun c c0 c1 c2=>by
      have:=h c c0 (by rw [List.length_cons,List.length_append]; exact Nat.lt_succ_of_lt c1) (Nat.zero_le _)
      have c1':c < (y ::ys).length:=c1
      rw [show y ::(ys++[z]) = (y ::ys)++[z] from rfl,zwv (Nat.lt_of_le_of_lt (Nat.le_trans (Nat.div_le_self _ _) (Nat.sub_le _ _)) c1'),zwv c1'] at this
      obtain ⟨d,rfl⟩:∃ d,c = d + 1:=⟨c - 1,by lia⟩
      obtain ⟨k,hk⟩:∃ k,(d + 1 - 1) / 2 = k + 1:=⟨(d + 1 - 1) / 2 - 1,by lia⟩
      rw [hk] at this ⊢
      exact this
    have hc:(z ::ys).Perm (ys++[z]):=(List.perm_append_comm (l₁:=[z]))
    by_cases q:ys = []
    · subst q
      refine ⟨fun c c0 c1=>?_,?_⟩
      · exact absurd c1 (Nat.not_lt.mpr c0)
      · exact .refl _
    · have:=su_ok (xs:=z ::ys) 0 (by have:=List.length_pos_iff.2 q; rw [List.length_cons]; lia) (Nat.le_of_lt hl') hF
      exact ⟨this.1,this.2.trans hc⟩
end Mine
end
section
open PySem
namespace Mine
structure KeyOk (key:Nat→AV) (P:Nat→Prop):Prop where
  lt:∀ x y hp,P x→P y→ltT (key x) (key y) hp = some (.bool (decide (x < y)),hp)
noncomputable def AllP (P:Nat→Prop) (xs:List Nat):Prop:=∀ x∈xs,P x
section
variable {key:Nat→AV} {P:Nat→Prop}
theorem AllP.set {xs:List Nat} (h:AllP P xs) {x:Nat} (hx:P x) (i:Nat):AllP P (xs.set i x):=fun y hy=>by
  rcases List.mem_or_eq_of_mem_set hy with h1 | h1
  · exact h y h1
  · exact h1 ▸ hx
theorem zwu {xs:List Nat} {i:Nat} (h:i < xs.length):xs.getD i 0∈xs:=by rw [List.getD_eq_getElem?_getD]; simp [h]
theorem AllP.get {xs:List Nat} (h:AllP P xs) {i:Nat} (hi:i < xs.length):P (xs.getD i 0):=h _ (zwu hi)
theorem getElem?_map_key {xs:List Nat} {i:Nat} (h:i < xs.length):(xs.map key)[i]? = some (key (xs.getD i 0)):=by simp [List.getD_eq_getElem?_getD,h]
theorem shr1 {p:Nat} (h:1≤p) (hp:Hp):shrA (.int ((p:Int) - 1)) (.int 1) hp = some (.int (((p - 1) / 2:Nat):Int),hp):=by
  have e:((p:Int) - 1).fdiv (2 ^ (1:Int).toNat) = (((p - 1) / 2:Nat):Int):=by
    rw [show (p:Int) - 1 = ((p - 1:Nat):Int) by lia,show (2:Int) ^ (1:Int).toNat = ((2:Nat):Int) by rfl,← Int.ofNat_fdiv]
  exact congrArg (fun z=>some (AV.int z,hp)) e
noncomputable def zs4:MS:=(seqS (asgS (bin shrA (bin subA (lcl 2) (cst (.int 1))) (cst (.int 1))) (stE 4)) (seqS (asgS (bin zaq (lcl 0) (lcl 4)) (stE 5)) (seqS (iteS (tru (bin ltT (lcl 3) (lcl 5))) (seqS (subS (lcl 5) (lcl 0) (lcl 2)) (seqS (asgS (lcl 4) (stE 2)) (seqS ctS nilS))) nilS) (seqS brS nilS))))
noncomputable def zxn:MB:=tru (bin gtA (lcl 2) (lcl 1))
theorem zs2 (K:KeyOk key P) (L s x:Nat) (hx:P x):∀ (f fuel p:Nat) (xs:List Nat) (o4 o5:Option AV) (hp:Hp),p < f→p < fuel→AllP P xs→p < xs.length→xs.length≤50→hp.H L = some (.list (xs.map key))→
    ∃ (o4' o5':Option AV) (p':Nat) (ys:List Nat),zcd zxn zs4 fuel [some (.loc L),some (.int s),some (.int p),some (key x),o4,o5] hp = some (.nx,[some (.loc L),some (.int s),some (.int p'),some (key x),o4',o5'],hp.put L (.list (ys.map key)))∧
      ys.set p' x = sdP f xs s p x∧p' < xs.length∧ys.length = xs.length∧AllP P ys
  | 0,_,p,_,_,_,_,h,_,_,_,_,_=>by lia
  | f + 1,0,p,_,_,_,_,_,h,_,_,_,_=>by lia
  | f + 1,fuel + 1,p,xs,o4,o5,hp,hpf,hpu,hP,hpl,hl,hL=>by
    have t0:zxn [some (.loc L),some (.int s),some (.int p),some (key x),o4,o5] hp = some (decide ((s:Int) < (p:Int)),hp):=zb2 (zam rfl rfl rfl)
    by_cases hs:s < p
    · rw [decide_eq_true (by lia)] at t0
      have hpp:(p - 1) / 2 < xs.length:=by lia
      have s1:asgS (bin shrA (bin subA (lcl 2) (cst (.int 1))) (cst (.int 1))) (stE 4) [some (.loc L),some (.int s),some (.int p),some (key x),o4,o5] hp = some (.nx,[some (.loc L),some (.int s),some (.int p),some (key x),some (.int ((p - 1) / 2:Nat)),o5],hp) :=
        zaz (zam (zam rfl rfl rfl) rfl (shr1 (by lia) hp)) rfl
      have s2:asgS (bin zaq (lcl 0) (lcl 4)) (stE 5) [some (.loc L),some (.int s),some (.int p),some (key x),some (.int ((p - 1) / 2:Nat)),o5] hp = some (.nx,[some (.loc L),some (.int s),some (.int p),some (key x),some (.int ((p - 1) / 2:Nat)),some (key (xs.getD ((p - 1) / 2) 0))],hp) :=
        zaz (zam rfl rfl (zcn hL (by lia) (getElem?_map_key hpp))) rfl
      have t1:tru (bin ltT (lcl 3) (lcl 5)) [some (.loc L),some (.int s),some (.int p),some (key x),some (.int ((p - 1) / 2:Nat)),some (key (xs.getD ((p - 1) / 2) 0))] hp = some (decide (x < xs.getD ((p - 1) / 2) 0),hp) :=
        zb2 (zam rfl rfl (K.lt _ _ hp hx (hP.get hpp)))
      by_cases hc:x < xs.getD ((p - 1) / 2) 0
      · rw [decide_eq_true hc] at t1
        have e4:=zgd (v:=key (xs.getD ((p - 1) / 2) 0)) hL (show p < 100000 by lia) (by simpa using hpl)
        rw [← List.map_set] at e4
        have eb:zs4 [some (.loc L),some (.int s),some (.int p),some (key x),o4,o5] hp = _:=zao s1 (zao s2 (zpp (zfi t1 (zao (zh7 rfl rfl rfl e4) (zao (zaz rfl rfl) (zpp rfl))))))
        obtain ⟨o4',o5',p',ys,g1,g2,g3,g4,g5⟩:=zs2 K L s x hx f fuel ((p - 1) / 2) (xs.set p (xs.getD ((p - 1) / 2) 0)) (some (.int ((p - 1) / 2:Nat))) (some (key (xs.getD ((p - 1) / 2) 0))) (hp.put L (.list ((xs.set p (xs.getD ((p - 1) / 2) 0)).map key))) (by lia) (by lia) (hP.set (hP.get hpp) p) (by simpa using hpp) (by simpa using hl) (zcb _ _ _)
        refine ⟨o4',o5',p',ys,?_,?_,by simpa using g3,by simpa using g4,g5⟩
        · rw [zfh] at g1
          exact zpe t0 eb g1
        · (first | rw [znw,if_pos hs,if_pos hc] | rw [znx,if_pos hs,if_pos hc]); exact g2
      · rw [decide_eq_false hc] at t1
        have eb:zs4 [some (.loc L),some (.int s),some (.int p),some (key x),o4,o5] hp = _:=zao s1 (zao s2 (zao (zdb t1 rfl) (zpq rfl)))
        refine ⟨some (.int ((p - 1) / 2:Nat)),some (key (xs.getD ((p - 1) / 2) 0)),p,xs,?_,?_,hpl,rfl,hP⟩
        · rw [zgu hL]; exact zpf t0 eb
        · (first | rw [znw,if_pos hs,if_neg hc] | rw [znx,if_pos hs,if_neg hc])
    · rw [decide_eq_false (by lia)] at t0
      refine ⟨o4,o5,p,xs,?_,?_,hpl,rfl,hP⟩
      · rw [zgu hL]; exact zgh t0
      · (first | rw [znw,if_neg hs] | rw [znx,if_neg hs])
theorem zkc (K:KeyOk key P) (L s p:Nat) (xs:List Nat) (hP:AllP P xs) (hpl:p < xs.length) (hl:xs.length≤50) (hp:Hp) (hL:hp.H L = some (.list (xs.map key))) :
    zgx [.loc L,.int s,.int p] hp = some (.none,hp.put L (.list ((zcy xs s p).map key)))∧(zcy xs s p).length = xs.length∧AllP P (zcy xs s p):=by
  obtain ⟨o4',o5',p',ys,g1,g2,g3,g4,g5⟩:=zs2 K L s (xs.getD p 0) (hP.get hpl) (p + 1) 1000 p xs none none hp (by lia) (by lia) hP hpl hl hL
  have e:zcy xs s p = ys.set p' (xs.getD p 0):=g2.symm
  have e4:=zgd (v:=key (xs.getD p 0)) (zcb hp L (.list (ys.map key))) (show p' < 100000 by lia) (by simp; lia)
  rw [← List.map_set,zfh] at e4
  rw [e]
  exact ⟨zkf rfl (zao (zaz (zam rfl rfl (zcn hL (by lia) (getElem?_map_key hpl))) rfl) (zao g1 (za2 (zh7 rfl rfl rfl e4)))),by simpa using g4,g5.set (hP.get hpl) p'⟩
noncomputable def zr8:MS:=(seqS (asgS (bin addA (lcl 5) (cst (.int 1))) (stE 6)) (seqS (iteS (andB (tru (bin ltA (lcl 6) (lcl 2))) (andB (notB (tru (bin ltT (bin zaq (lcl 0) (lcl 5)) (bin zaq (lcl 0) (lcl 6))))) (cstB true))) (seqS (asgS (lcl 6) (stE 5)) nilS) nilS) (seqS (subS (bin zaq (lcl 0) (lcl 5)) (lcl 0) (lcl 1)) (seqS (asgS (lcl 5) (stE 1)) (seqS (asgS (bin addA (bin mulA (cst (.int 2)) (lcl 1)) (cst (.int 1))) (stE 5)) nilS)))))
noncomputable def zr7:MB:=tru (bin ltA (lcl 5) (lcl 2))
theorem twice {c:Nat} (h:c≤10000) {loc:Loc} {hp:Hp} (h1:lcl 1 loc hp = some (.int c,hp)):bin addA (bin mulA (cst (.int 2)) (lcl 1)) (cst (.int 1)) loc hp = some (.int ((2 * c + 1:Nat):Int),hp):=by
  refine zam (x:=.int (2 * (c:Int))) (zam rfl h1 (zoz (a:=2) (b:=c) (by decide) (by lia) hp)) rfl ?_
  rw [addA_i,show (2:Int) * (c:Int) + 1 = ((2 * c + 1:Nat):Int) by lia]
theorem zyf (K:KeyOk key P) (L n p c:Nat) (v5 v6 w4 s3:AV) (xs:List Nat) (hp:Hp) (hP:AllP P xs) (hc:c < xs.length) (hpl:p < xs.length) (hl:xs.length≤50) (hL:hp.H L = some (.list (xs.map key)))
    (hi:iteS (andB (tru (bin ltA (lcl 6) (lcl 2))) (andB (notB (tru (bin ltT (bin zaq (lcl 0) (lcl 5)) (bin zaq (lcl 0) (lcl 6))))) (cstB true))) (seqS (asgS (lcl 6) (stE 5)) nilS) nilS [some (.loc L),some (.int p),some (.int n),some s3,some w4,some (.int (2 * p + 1:Nat)),some (.int (2 * p + 2:Nat))] hp = some (.nx,[some (.loc L),some (.int p),some (.int n),some s3,some w4,some (.int c),some (.int (2 * p + 2:Nat))],hp)) (o6:Option AV) :
    zr8 [some (.loc L),some (.int p),some (.int n),some s3,some w4,some (.int (2 * p + 1:Nat)),o6] hp = some (.nx,[some (.loc L),some (.int c),some (.int n),some s3,some w4,some (.int (2 * c + 1:Nat)),some (.int (2 * p + 2:Nat))],hp.put L (.list ((xs.set p (xs.getD c 0)).map key))):=by
  have e4:=zgd (v:=key (xs.getD c 0)) hL (show p < 100000 by lia) (by simpa using hpl)
  rw [← List.map_set] at e4
  exact zao (zaz (zam rfl rfl rfl) rfl) (zao hi (zao (zh7 (zam rfl rfl (zcn hL (by lia) (getElem?_map_key hc))) rfl rfl e4) (zao (zaz rfl rfl) (za2 (zaz (twice (by lia) rfl) rfl)))))
theorem zr6 (K:KeyOk key P) (L s x n:Nat) (hx:P x):∀ (f fuel p:Nat) (xs:List Nat) (o6:Option AV) (hp:Hp),n≤p + f→f < fuel→AllP P xs→p < n→xs.length = n→n≤50→hp.H L = some (.list (xs.map key))→
    ∃ (o6':Option AV) (p':Nat) (ys:List Nat),zcd zr7 zr8 fuel [some (.loc L),some (.int p),some (.int n),some (.int s),some (key x),some (.int (2 * p + 1:Nat)),o6] hp = some (.nx,[some (.loc L),some (.int p'),some (.int n),some (.int s),some (key x),some (.int (2 * p' + 1:Nat)),o6'],hp.put L (.list (ys.map key)))∧
      zcy (ys.set p' x) s p' = suP f xs s p x∧p' < n∧ys.length = n∧AllP P ys
  | f,0,p,_,_,_,_,h,_,_,_,_,_=>by lia
  | 0,_ + 1,p,_,_,_,h,_,_,h2,_,_,_=>by lia
  | f + 1,fuel + 1,p,xs,o6,hp,hpf,hfu,hP,hpl,hxl,hl,hL=>by
    have t0:zr7 [some (.loc L),some (.int p),some (.int n),some (.int s),some (key x),some (.int (2 * p + 1:Nat)),o6] hp = some (decide (((2 * p + 1:Nat):Int) < (n:Int)),hp):=zb2 (zam rfl rfl rfl)
    by_cases h1:2 * p + 1 < n
    · rw [decide_eq_true (by lia)] at t0
      have t1:tru (bin ltA (lcl 6) (lcl 2)) [some (.loc L),some (.int p),some (.int n),some (.int s),some (key x),some (.int (2 * p + 1:Nat)),some (.int (2 * p + 2:Nat))] hp = some (decide (((2 * p + 2:Nat):Int) < (n:Int)),hp):=zb2 (zam rfl rfl rfl)
      have go:∀ c,c < n→p < c→(iteS (andB (tru (bin ltA (lcl 6) (lcl 2))) (andB (notB (tru (bin ltT (bin zaq (lcl 0) (lcl 5)) (bin zaq (lcl 0) (lcl 6))))) (cstB true))) (seqS (asgS (lcl 6) (stE 5)) nilS) nilS [some (.loc L),some (.int p),some (.int n),some (.int s),some (key x),some (.int (2 * p + 1:Nat)),some (.int (2 * p + 2:Nat))] hp = some (.nx,[some (.loc L),some (.int p),some (.int n),some (.int s),some (key x),some (.int c),some (.int (2 * p + 2:Nat))],hp))→
          suP (f + 1) xs s p x = suP f (xs.set p (xs.getD c 0)) s c x→∃ (o6':Option AV) (p':Nat) (ys:List Nat),zcd zr7 zr8 (fuel + 1) [some (.loc L),some (.int p),some (.int n),some (.int s),some (key x),some (.int (2 * p + 1:Nat)),o6] hp = some (.nx,[some (.loc L),some (.int p'),some (.int n),some (.int s),some (key x),some (.int (2 * p' + 1:Nat)),o6'],hp.put L (.list (ys.map key)))∧
      zcy (ys.set p' x) s p' = suP (f + 1) xs s p x∧p' < n∧ys.length = n∧AllP P ys:=fun c hc hpc hi hs=>by
        have eb:=zyf K L n p c (.none) (.none) (key x) (.int s) xs hp hP (by lia) (by lia) (by lia) hL hi o6
        obtain ⟨o6',p',ys,g1,g2,g3,g4,g5⟩:=zr6 K L s x n hx f fuel c (xs.set p (xs.getD c 0)) (some (.int (2 * p + 2:Nat))) (hp.put L (.list ((xs.set p (xs.getD c 0)).map key))) (by lia) (by lia) (hP.set (hP.get (by lia)) p) hc (by simpa using hxl) hl (zcb _ _ _)
        refine ⟨o6',p',ys,?_,g2.trans hs.symm,g3,g4,g5⟩
        rw [zfh] at g1
        exact zhf t0 eb g1
      by_cases h2:2 * p + 2 < n
      · rw [decide_eq_true (by lia)] at t1
        have t2:tru (bin ltT (bin zaq (lcl 0) (lcl 5)) (bin zaq (lcl 0) (lcl 6))) [some (.loc L),some (.int p),some (.int n),some (.int s),some (key x),some (.int (2 * p + 1:Nat)),some (.int (2 * p + 2:Nat))] hp = some (decide (xs.getD (2 * p + 1) 0 < xs.getD (2 * p + 2) 0),hp) :=
          zb2 (zam (zam rfl rfl (zcn hL (by lia) (getElem?_map_key (by lia)))) (zam rfl rfl (zcn hL (by lia) (getElem?_map_key (by lia)))) (K.lt _ _ hp (hP.get (by lia)) (hP.get (by lia))))
        by_cases h3:xs.getD (2 * p + 1) 0 < xs.getD (2 * p + 2) 0
        · rw [decide_eq_true h3] at t2
          exact go (2 * p + 1) h1 (by lia) (zdb (zxa t1 (zxb (zpy t2))) rfl) (by (first | rw [zlm,if_pos (by lia),if_neg (fun h=>h.2 h3)] | rw [zln,if_pos (by omega),if_neg (fun h=>h.2 h3)]))
        · rw [decide_eq_false h3] at t2
          exact go (2 * p + 2) h2 (by lia) (zfi (zxa t1 (zxa (zpy t2) rfl)) (za2 (zaz rfl rfl))) (by (first | rw [zlm,if_pos (by lia),if_pos ⟨by lia,h3⟩] | rw [zln,if_pos (by omega),if_pos ⟨by omega,h3⟩]))
      · rw [decide_eq_false (by lia)] at t1
        exact go (2 * p + 1) h1 (by lia) (zdb (zxb t1) rfl) (by (first | rw [zlm,if_pos (by lia),if_neg (fun h=>by lia)] | rw [zln,if_pos (by omega),if_neg (fun h=>by omega)]))
    · rw [decide_eq_false (by lia)] at t0
      refine ⟨o6,p,xs,?_,?_,hpl,hxl,hP⟩
      · rw [zgu hL]; exact zgh t0
      · (first | rw [zlm,if_neg (by lia)] | rw [zln,if_neg (by omega)])
theorem znu (K:KeyOk key P) (L p:Nat) (xs:List Nat) (hP:AllP P xs) (hpl:p < xs.length) (hl:xs.length≤50) (hp:Hp) (hL:hp.H L = some (.list (xs.map key))) :
    zgq [.loc L,.int p] hp = some (.none,hp.put L (.list ((zdn xs p).map key)))∧(zdn xs p).length = xs.length∧AllP P (zdn xs p):=by
  have el:lenF [.loc L] hp = some (.int xs.length,hp):=by rw [zeq hL (by simp; lia),List.length_map]
  obtain ⟨o6',p',ys,g1,g2,g3,g4,g5⟩:=zr6 K L p (xs.getD p 0) xs.length (hP.get hpl) xs.length 1000 p xs none hp (by lia) (by lia) hP hpl rfl hl hL
  have e4:=zgd (v:=key (xs.getD p 0)) (zcb hp L (.list (ys.map key))) (show p' < 100000 by lia) (by simp; lia)
  rw [← List.map_set,zfh] at e4
  obtain ⟨d1,d2,d3⟩:=zkc K L p p' (ys.set p' (xs.getD p 0)) (g5.set (hP.get hpl) p') (by simp; lia) (by simp; lia) _ (zcb hp L (.list ((ys.set p' (xs.getD p 0)).map key)))
  rw [zfh] at d1
  have e:zdn xs p = zcy (ys.set p' (xs.getD p 0)) p p':=g2.symm
  rw [← e] at d1 d2 d3
  exact ⟨zkf rfl (zao (zaz (zav (zai rfl rfl) el) rfl) (zao (zaz rfl rfl) (zao (zaz (zam rfl rfl (zcn hL (by lia) (getElem?_map_key hpl))) rfl) (zao (zaz (twice (by lia) rfl) rfl) (zao g1 (zao (zh7 rfl rfl rfl e4) (za2 (zcu (zav (zai rfl (zai rfl (zai rfl rfl))) d1))))))))),by simpa [g4] using d2,d3⟩
end
section
variable {key:Nat→AV} {P:Nat→Prop}
theorem AllP.perm {xs ys:List Nat} (h:AllP P xs) (p:ys.Perm xs):AllP P ys:=fun z hz=>h z (p.mem_iff.1 hz)
theorem zh5 {hp:Hp} {L:Nat} {xs:List AV} (h:hp.H L = some (.list xs)) (hl:xs.length≤10000):truA hp (.loc L) = some (!xs.isEmpty):=by
  exact bE (lE h rfl) (if_pos (zd8 hl))
theorem ztf (K:KeyOk key P) {L:Nat} {xs:List Nat} {x:Nat} {hp:Hp} (hL:hp.H L = some (.list (xs.map key))) (hP:AllP P xs) (hx:P x) (hH:zec xs) (hl:xs.length≤5) :
    ∃ ys:List Nat,ze5 [.loc L,key x] hp = some (.none,hp.put L (.list (ys.map key)))∧zec ys∧ys.Perm (x ::xs)∧AllP P ys:=by
  have ea:=zdz (key x) hL (by simp; lia)
  rw [show xs.map key++[key x] = (xs++[x]).map key by simp] at ea
  have hP2:AllP P (xs++[x]):=fun y hy=>by
    rcases List.mem_append.1 hy with h | h
    · exact hP y h
    · simp at h; exact h ▸ hx
  obtain ⟨d1,d2,d3⟩:=zkc K L 0 xs.length (xs++[x]) hP2 (by simp) (by simp; lia) _ (zcb hp L (.list ((xs++[x]).map key)))
  rw [zfh] at d1
  have el:lenF [.loc L] (hp.put L (.list ((xs++[x]).map key))) = some (.int ((xs++[x]).map key).length,_):=zeq (zcb hp L (.list ((xs++[x]).map key))) (by simp; lia)
  have es:bin subA (zas lenF (zac (lcl 0) zaf)) (cst (.int 1)) [some (.loc L),some (key x)] (hp.put L (.list ((xs++[x]).map key))) = some (.int xs.length,(hp.put L (.list ((xs++[x]).map key)))):=by
    refine zam (zav (zai rfl rfl) el) rfl ?_
    rw [List.length_map,List.length_append]
    exact congrArg (fun z=>some (AV.int z,_)) (show ((xs.length + (0 + 1):Nat):Int) - 1 = (xs.length:Int) by lia)
  obtain ⟨g1,g2⟩:=zyu x hl hH
  exact ⟨zyv xs x,zkf rfl (zao (zcu (zc8 rfl (zd0 hL) (zai rfl rfl) ea)) (za2 (zcu (zav (zai rfl (zai rfl (zai es rfl))) d1)))),g1,g2,d3⟩
inductive pop_twR (key:Nat→AV) (P:Nat→Prop) (L:Nat) (y:Nat) (r:List Nat) (hp:Hp):Prop
  | mk (ys:List Nat) (q1:zfg [.loc L] hp = some (key y,hp.put L (.list (ys.map key)))) (q2:zec ys) (q3:ys.Perm r) (q4:AllP P ys) (q5:∀ z∈r,y≤z):pop_twR key P L y r hp
theorem zxq (K:KeyOk key P) {L y:Nat} {r:List Nat} {hp:Hp} (hL:hp.H L = some (.list ((y ::r).map key))) (hP:AllP P (y ::r)) (hH:zec (y ::r)) (hl:(y ::r).length≤6):pop_twR key P L y r hp:=by
  obtain ⟨g1,g2,g3⟩:=pop_ok hl hH
  have hPr:AllP P r:=fun z hz=>hP z (by simp [hz])
  have epop:popF [.loc L] hp = some (key ((y ::r).getLastD 0),hp.put L (.list ((y ::r).dropLast.map key))):=by
    have h1:((y ::r).map key).getLast? = some (key ((y ::r).getLastD 0)):=by
      rw [List.getLast?_map,List.getLastD_eq_getLast?]
      cases h:(y ::r).getLast? with
      | none=>simp at h
      | some v=>rfl
    have h2:((y ::r).map key).length≤1000000:=zd8 (by rw [List.length_map]; lia)
    rw [List.map_dropLast]
    exact (popF_1 L hp).trans (lE hL (bE h1 (if_pos h2)))
  have s1:asgS (zcc "list" popF (lcl 0) zaf) (stE 1) [some (.loc L),none,none] hp = some (.nx,[some (.loc L),some (key ((y ::r).getLastD 0)),none],hp.put L (.list ((y ::r).dropLast.map key))) :=
    zaz (zc8 rfl (zd0 hL) rfl epop) rfl
  refine ⟨popR (y ::r),?_,g1,g2,hPr.perm g2,g3⟩
  by_cases hr:r = []
  · subst hr
    have t0:tru (lcl 0) [some (.loc L),some (key ([y].getLastD 0)),none] (hp.put L (.list ([y].dropLast.map key))) = some (false,hp.put L (.list ([y].dropLast.map key))):=zh4 rfl (zh5 (zcb _ _ _) (by simp))
    exact zdv rfl (zao s1 (zao (zdb t0 rfl) (zb6 (zdp rfl))))
  · obtain ⟨r',hr'⟩:∃ r',(y ::r).dropLast = y ::r':=by
      cases r with
      | nil=>exact absurd rfl hr
      | cons a b=>exact ⟨(a ::b).dropLast,by simp [List.dropLast]⟩
    have hlast:P ((y ::r).getLastD 0):=by
      rw [List.getLastD_eq_getLast?]
      cases h:(y ::r).getLast? with
      | none=>simp at h
      | some v=>exact hP v (List.mem_of_getLast? h)
    have hP2:AllP P (y ::r'):=fun z hz=>hP z (by rw [← hr'] at hz; exact (List.dropLast_sublist _).mem hz)
    have hlen:(y ::r').length + 1 = (y ::r).length:=by rw [← hr',List.length_dropLast]; simp
    rw [hr'] at s1
    have t0:tru (lcl 0) [some (.loc L),some (key ((y ::r).getLastD 0)),none] (hp.put L (.list ((y ::r').map key))) = some (true,hp.put L (.list ((y ::r').map key))):=zh4 rfl (zh5 (zcb _ _ _) (by rw [List.length_map]; lia))
    have e0:=zcn (i:=0) (zcb hp L (.list ((y ::r').map key))) (by lia) rfl
    have e4:=zgd (v:=key ((y ::r).getLastD 0)) (zcb hp L (.list ((y ::r').map key))) (show 0 < 100000 by lia) (by simp)
    rw [← List.map_set,zfh] at e4
    obtain ⟨d1,d2,d3⟩:=znu K L 0 ((y ::r').set 0 ((y ::r).getLastD 0)) (hP2.set hlast 0) (by simp) (by rw [List.length_set]; lia) _ (zcb hp L (.list (((y ::r').set 0 ((y ::r).getLastD 0)).map key)))
    rw [zfh] at d1
    have e:popR (y ::r) = zdn ((y ::r').set 0 ((y ::r).getLastD 0)) 0:=by
      rw [popR,if_neg (by simp only [List.length_cons] at hlen ⊢; lia),hr']
    rw [← e] at d1
    exact zdv rfl (zao s1 (zb6 (zfi t0 (zao (zaz (zam rfl rfl e0) rfl) (zao (zh7 rfl rfl rfl e4) (zao (zcu (zav (zai rfl (zai rfl rfl)) d1)) (zb6 (zdp rfl))))))))
theorem zzt (K:KeyOk key P) (L:Nat) (a1:AV):∀ (l:List Nat) (xs:List Nat) (o:Option AV) (hp:Hp),AllP P xs→(∀ i∈l,i < xs.length)→xs.length≤50→hp.H L = some (.list (xs.map key))→
    ∃ o',forM (stE 2) (seqS (zcl (zas zgq (zac (lcl 0) (zac (lcl 2) zaf)))) nilS) (l.map fun i:Nat=>AV.int (i:Int)) [some (.loc L),some a1,o] hp = some (.nx,[some (.loc L),some a1,o'],hp.put L (.list ((l.foldl zdn xs).map key)))∧AllP P (l.foldl zdn xs):=by
  intro l
  induction l with
  | nil =>
    intro xs o hp hP hi hl hL
    exact ⟨o,by rw [List.foldl_nil,zgu hL]; rfl,hP⟩
  | cons i l ih =>
    intro xs o hp hP hi hl hL
    obtain ⟨d1,d2,d3⟩:=znu K L i xs hP (hi i (by simp)) hl hp hL
    obtain ⟨o',g1,g2⟩:=ih (zdn xs i) (some (.int i)) (hp.put L (.list ((zdn xs i).map key))) d3 (fun j hj=>by rw [d2]; exact hi j (by simp [hj])) (by lia) (zcb _ _ _)
    have es:stE 2 (.int (i:Int)) [some (.loc L),some a1,o] hp = some ([some (.loc L),some a1,some (.int i)],hp):=rfl
    have eb:(seqS (zcl (zas zgq (zac (lcl 0) (zac (lcl 2) zaf)))) nilS) [some (.loc L),some a1,some (.int i)] hp = _:=za2 (zcu (zav (zai rfl (zai rfl rfl)) d1))
    refine ⟨o',?_,g2⟩
    rw [zfh] at g1
    exact zeh es eb g1
theorem fdv2 (n:Nat) (hp:Hp):fdvA (.int n) (.int 2) hp = some (.int (n / 2:Nat),hp):=zm2 (a:=n) (b:=2) (by lia) (by lia) hp
theorem zyr {m:ME} {loc:Loc} {hp hp1:Hp} {b:Nat} (h:m loc hp = some (.rng 0 (b:Int),hp1)) (h2:b≤100000):revI m loc hp = some ((List.range b).reverse.map fun i:Nat=>AV.int (i:Int),hp1):=by
  have:-1000000≤(0:Int)∧(0:Int)≤1000000∧-1000000≤(b:Int)∧(b:Int)≤1000000:=by lia
  have e:=zbs h2
  simp only [zji,if_pos this,Option.some.injEq] at e
  simp only [revI,h,Option.bind_eq_bind,Option.bind_some,if_pos this,e,List.map_reverse]
theorem zl0 (K:KeyOk key P) {L:Nat} {xs:List Nat} {hp:Hp} (hL:hp.H L = some (.list (xs.map key))) (hP:AllP P xs) (hl:xs.length≤6) :
    ∃ ys:List Nat,zf1 [.loc L] hp = some (.none,hp.put L (.list (ys.map key)))∧zec ys∧ys.Perm xs∧AllP P ys:=by
  have el:lenF [.loc L] hp = some (.int xs.length,hp):=by rw [zeq hL (by simp; lia),List.length_map]
  obtain ⟨o',g1,g2⟩:=zzt K L (.int xs.length) (List.range (xs.length / 2)).reverse xs none hp hP (fun i hi=>by have:=List.mem_range.1 (List.mem_reverse.1 hi); lia) (by lia) hL
  obtain ⟨h1,h2⟩:=zri hl
  exact ⟨zmx xs,zkf rfl (zao (zaz (zav (zai rfl rfl) el) rfl) (za2 (zfn (zyr (zav (zai (zam rfl rfl (fdv2 _ hp)) rfl) rfl) (by lia)) g1))),h1,h2,g2⟩
end
end Mine
end
section
namespace Mine
noncomputable def nxs (C:Nat→Nat→Bool) (i:Nat):List Nat:=(List.range 6).filter (C i)
noncomputable def msk (C:Nat→Nat→Bool) (ord:List Nat) (i:Nat):Nat:=zd7 (fun q=>decide (q < ord.length) && C i (ord.getD q 0)) 6
noncomputable def full (C:Nat→Nat→Bool) (ord:List Nat) (i:Nat):Prop:=∀ j,j < 6→C i j = true→j∈ord
noncomputable def ze4 (m:Nat):List Nat:=[5,4,3,2,1,0].filter fun b=>m.testBit b
structure Lab (C:Nat→Nat→Bool) (ord hs:List Nat):Prop where
  nd:ord.Nodup
  lt:∀ x∈ord,x < 6
  hnd:hs.Nodup
  mem:∀ c,c∈hs↔∃ i,i < 6∧i ∉ ord∧full C ord i∧c = msk C ord i * 8 + i
  dn:∀ p,p < ord.length→∀ j,j < 6→C (ord.getD p 0) j = true→∃ q,q < p∧ord.getD q 0 = j
  mo:∀ p,p + 1 < ord.length→msk C ord (ord.getD p 0)≤msk C ord (ord.getD (p + 1) 0)
  top:∀ p,p + 1 = ord.length→∀ c∈hs,msk C ord (ord.getD p 0)≤c / 8
structure LabI (C:Nat→Nat→Bool) (ord:List Nat) (k s:Nat) (hs:List Nat):Prop where
  nd:(ord++[k]).Nodup
  lt:∀ x∈ord++[k],x < 6
  hnd:hs.Nodup
  mem:∀ c,c∈hs↔∃ i,i < 6∧i ∉ ord++[k]∧(full C ord i∨(i < s∧full C (ord++[k]) i))∧c = msk C (ord++[k]) i * 8 + i
  dn:∀ p,p < (ord++[k]).length→∀ j,j < 6→C ((ord++[k]).getD p 0) j = true→∃ q,q < p∧(ord++[k]).getD q 0 = j
  mo:∀ p,p + 1 < (ord++[k]).length→msk C (ord++[k]) ((ord++[k]).getD p 0)≤msk C (ord++[k]) ((ord++[k]).getD (p + 1) 0)
  top:∀ c∈hs,msk C (ord++[k]) k≤c / 8
theorem zeo:∀ (n:Nat) (l:List Nat),l.Nodup→(∀ x∈l,x < n)→l.length≤n:=by
  intro n
  induction n with
  | zero =>
    intro l _ h
    cases l with
    | nil=>simp
    | cons a l=>have:=h a (by simp); lia
  | succ n ih =>
    intro l hn h
    have h1:=ih (l.erase n) (hn.erase n) fun x hx=>by
      have a:=h x (List.mem_of_mem_erase hx)
      have b:x≠n:=fun e=>(hn.mem_erase_iff.1 hx).1 e
      lia
    have:=List.length_erase (a:=n) (l:=l)
    split at this <;> lia
theorem zn1:∀ (l l':List Nat),l.Nodup→(∀ x∈l,x∈l')→l.length≤l'.length:=by
  intro l
  induction l with
  | nil =>
    intro l' _ _
    exact Nat.zero_le _
  | cons a l ih =>
    intro l' hn hs
    rw [List.nodup_cons] at hn
    have h0:=hs a (by simp)
    have h1:=ih (l'.erase a) hn.2 fun x hx=>(List.mem_erase_of_ne (fun e:x = a=>hn.1 (by rw [← e]; exact hx))).2 (hs x (by simp [hx]))
    have h2:=List.length_erase_of_mem h0
    have h3:=List.length_pos_of_mem h0
    simp only [List.length_cons]
    lia
section
variable {C:Nat→Nat→Bool} {ord hs:List Nat} {k s i:Nat}
theorem zcq {l:List Nat} {x q:Nat} (h:q < l.length):(l++[x]).getD q 0 = l.getD q 0:=by
  rw [List.getD_eq_getElem?_getD,List.getD_eq_getElem?_getD,List.getElem?_append_left h]
theorem ze3 {l:List Nat} {x:Nat}:(l++[x]).getD l.length 0 = x:=by
  rw [List.getD_eq_getElem?_getD,List.getElem?_append_right (Nat.le_refl _)]; simp
theorem zge (q:Nat):(msk C ord i).testBit q = (decide (q < 6) && (decide (q < ord.length) && C i (ord.getD q 0))):=zdm _ _ _
theorem zn3:msk C ord i < 2 ^ ord.length:=by
  refine Nat.lt_pow_two_of_testBit _ fun q hq=>?_
  rw [zge]
  have:decide (q < ord.length) = false:=decide_eq_false (by lia)
  simp [this]
theorem ztu:msk C ord i < 64:=by
  refine Nat.lt_pow_two_of_testBit (n:=6) _ fun q hq=>?_
  rw [zge]
  have:decide (q < 6) = false:=decide_eq_false (by lia)
  simp [this]
theorem zfs (h:C i k = false):msk C (ord++[k]) i = msk C ord i:=by
  refine Nat.eq_of_testBit_eq fun q=>?_
  rw [zge,zge]
  by_cases h1:q < ord.length
  · rw [zcq h1,decide_eq_true h1,decide_eq_true (show q < (ord++[k]).length by simp; lia)]
  · rw [decide_eq_false h1]
    by_cases h2:q = ord.length
    · subst h2; rw [ze3,h]; simp
    · rw [decide_eq_false (show ¬ q < (ord++[k]).length by simp; lia)]; simp
theorem zp0 (h:C i k = true) (hl:ord.length < 6):msk C (ord++[k]) i = 2 ^ ord.length + msk C ord i:=by
  refine Nat.eq_of_testBit_eq fun q=>?_
  have hlt:=zn3 (C:=C) (ord:=ord) (i:=i)
  by_cases h1:q < ord.length
  · rw [Nat.testBit_two_pow_add_gt h1,zge,zge,zcq h1,decide_eq_true h1,decide_eq_true (show q < (ord++[k]).length by simp; lia)]
  · by_cases h2:q = ord.length
    · subst h2
      rw [Nat.testBit_two_pow_add_eq,zge,zge,ze3,h,decide_eq_true hl,decide_eq_false (Nat.lt_irrefl _),decide_eq_true (by simp)]
      rfl
    · rw [zge,decide_eq_false (show ¬ q < (ord++[k]).length by simp; lia)]
      have:(2 ^ ord.length + msk C ord i).testBit q = false:=by
        refine Nat.testBit_lt_two_pow ?_
        have:2 ^ (ord.length + 1)≤2 ^ q:=Nat.pow_le_pow_right (by lia) (by lia)
        rw [Nat.pow_succ] at this
        lia
      rw [this]; simp
theorem zww (h:full C ord i):full C (ord++[k]) i:=fun j hj hc=>List.mem_append.2 (.inl (h j hj hc))
theorem zmr {l:List Nat} {x:Nat} (h:x∈l):∃ q,q < l.length∧l.getD q 0 = x:=by
  obtain ⟨q,hq,e⟩:=List.mem_iff_getElem.1 h
  exact ⟨q,hq,by rw [List.getD_eq_getElem?_getD]; simp [hq,e]⟩
theorem ziv {l:List Nat} {q:Nat} (h:q < l.length):l.getD q 0∈l:=by rw [List.getD_eq_getElem?_getD]; simp [h]
theorem Lab.len (L:Lab C ord hs):hs.length + ord.length≤6:=by
  have h:(hs.map (· % 8)++ord).Nodup:=by
    rw [List.nodup_append]
    refine ⟨zfe L.hnd fun a ha b hb e=>?_,L.nd,fun a ha b hb e=>?_⟩
    · obtain ⟨i,h1,h2,h3,rfl⟩:=(L.mem a).1 ha
      obtain ⟨j,g1,g2,g3,rfl⟩:=(L.mem b).1 hb
      have:i = j:=by lia
      rw [this]
    · subst e
      obtain ⟨c,hc,rfl⟩:=List.mem_map.1 ha
      obtain ⟨i,h1,h2,h3,rfl⟩:=(L.mem c).1 hc
      rw [show (msk C ord i * 8 + i) % 8 = i by lia] at hb
      exact h2 hb
  have:=zeo 6 _ h fun x hx=>by
    rcases List.mem_append.1 hx with h1 | h1
    · obtain ⟨c,hc,rfl⟩:=List.mem_map.1 h1
      obtain ⟨i,h1,h2,h3,rfl⟩:=(L.mem c).1 hc
      lia
    · exact L.lt x h1
  simpa using this
theorem LabI.len (L:LabI C ord k s hs):hs.length + (ord.length + 1)≤6:=by
  have h:(hs.map (· % 8)++(ord++[k])).Nodup:=by
    rw [List.nodup_append]
    refine ⟨zfe L.hnd fun a ha b hb e=>?_,L.nd,fun a ha b hb e=>?_⟩
    · obtain ⟨i,h1,h2,h3,rfl⟩:=(L.mem a).1 ha
      obtain ⟨j,g1,g2,g3,rfl⟩:=(L.mem b).1 hb
      have:i = j:=by lia
      rw [this]
    · subst e
      obtain ⟨c,hc,rfl⟩:=List.mem_map.1 ha
      obtain ⟨i,h1,h2,h3,rfl⟩:=(L.mem c).1 hc
      rw [show (msk C (ord++[k]) i * 8 + i) % 8 = i by lia] at hb
      exact h2 hb
  have:=zeo 6 _ h fun x hx=>by
    rcases List.mem_append.1 hx with h1 | h1
    · obtain ⟨c,hc,rfl⟩:=List.mem_map.1 h1
      obtain ⟨i,h1,h2,h3,rfl⟩:=(L.mem c).1 hc
      lia
    · exact L.lt x h1
  simpa using this
theorem Lab.pop {y:Nat} {r ys:List Nat} (L:Lab C ord (y ::r)) (hmin:∀ z∈r,y≤z) (hp:ys.Perm r) :
    LabI C ord (y % 8) 0 ys∧y % 8 < 6∧y % 8 ∉ ord∧y = msk C ord (y % 8) * 8 + y % 8:=by
  obtain ⟨k,h1,h2,h3,h4⟩:=(L.mem y).1 (by simp)
  have hk:y % 8 = k:=by lia
  rw [hk]
  have hkk:C k k = false:=by
    cases h:C k k
    · rfl
    · exact absurd (h3 k h1 h) h2
  have nk:∀ p,p < ord.length→C (ord.getD p 0) k = false:=fun p hp=>by
    cases h:C (ord.getD p 0) k
    · rfl
    · obtain ⟨q,g1,g2⟩:=L.dn p hp k h1 h
      exact absurd (g2 ▸ ziv (by lia)) h2
  have hnd:=L.hnd
  rw [List.nodup_cons] at hnd
  refine ⟨⟨?_,?_,hp.nodup_iff.2 hnd.2,fun c=>?_,?_,?_,?_⟩,h1,h2,h4⟩
  · rw [List.nodup_append]
    exact ⟨L.nd,by simp,fun a ha b hb e=>by simp at hb; subst e hb; exact h2 ha⟩
  · intro x hx
    rcases List.mem_append.1 hx with h | h
    · exact L.lt x h
    · simp at h; lia
  · rw [hp.mem_iff]
    constructor
    · intro hc
      obtain ⟨i,g1,g2,g3,g4⟩:=(L.mem c).1 (by simp [hc])
      have hik:i≠k:=fun e=>hnd.1 (by rw [h4]; subst e; rw [← g4]; exact hc)
      have hck:C i k = false:=by
        cases h:C i k
        · rfl
        · exact absurd (g3 k h1 h) h2
      exact ⟨i,g1,by simp [g2,hik],.inl g3,by rw [zfs hck]; exact g4⟩
    · rintro ⟨i,g1,g2,g3 | ⟨g3,_⟩,g4⟩
      · have hck:C i k = false:=by
          cases h:C i k
          · rfl
          · exact absurd (g3 k h1 h) h2
        rw [zfs hck] at g4
        have:c∈y ::r:=(L.mem c).2 ⟨i,g1,fun h=>g2 (List.mem_append.2 (.inl h)),g3,g4⟩
        rcases List.mem_cons.1 this with e | e
        · exact absurd (List.mem_append.2 (.inr (by simp; lia))) g2
        · exact e
      · lia
  · intro p hp j hj hc
    by_cases h:p < ord.length
    · rw [zcq h] at hc
      obtain ⟨q,e1,e2⟩:=L.dn p h j hj hc
      exact ⟨q,e1,by rw [zcq (by lia)]; exact e2⟩
    · simp only [List.length_append,List.length_cons,List.length_nil] at hp
      have:p = ord.length:=by lia
      subst this
      rw [ze3] at hc
      obtain ⟨q,e1,e2⟩:=zmr (h3 j hj hc)
      exact ⟨q,e1,by rw [zcq e1]; exact e2⟩
  · intro p hp
    simp only [List.length_append,List.length_cons,List.length_nil] at hp
    by_cases h:p + 1 < ord.length
    · rw [zcq (by lia),zcq h,zfs (nk p (by lia)),zfs (nk _ h)]
      exact L.mo p h
    · have:p + 1 = ord.length:=by lia
      rw [zcq (by lia),this,ze3,zfs (nk p (by lia)),zfs hkk]
      have:=L.top p this y (by simp)
      lia
  · intro c hc
    rw [zfs hkk]
    have:=hmin c (hp.mem_iff.1 hc)
    lia
theorem LabI.skip (L:LabI C ord k s hs) (h:C s k = false∨¬ full C (ord++[k]) s):LabI C ord k (s + 1) hs:=by
  refine ⟨L.nd,L.lt,L.hnd,fun c=>?_,L.dn,L.mo,L.top⟩
  rw [L.mem]
  constructor
  · rintro ⟨i,g1,g2,g3,g4⟩
    exact ⟨i,g1,g2,g3.imp id fun ⟨a,b⟩=>⟨by lia,b⟩,g4⟩
  · rintro ⟨i,g1,g2,g3 | ⟨g3,g5⟩,g4⟩
    · exact ⟨i,g1,g2,.inl g3,g4⟩
    · by_cases his:i < s
      · exact ⟨i,g1,g2,.inr ⟨his,g5⟩,g4⟩
      · have e:i = s:=by lia
        subst e
        rcases h with h | h
        · refine ⟨i,g1,g2,.inl fun j hj hc=>?_,g4⟩
          rcases List.mem_append.1 (g5 j hj hc) with a | a
          · exact a
          · simp at a; subst a; rw [h] at hc; cases hc
        · exact absurd g5 h
theorem LabI.push {ys:List Nat} (L:LabI C ord k s hs) (hs6:s < 6) (h:C s k = true) (hf:full C (ord++[k]) s) (hp:ys.Perm ((msk C (ord++[k]) s * 8 + s) ::hs)):LabI C ord k (s + 1) ys:=by
  have hkk:C k k = false:=by
    cases h:C k k
    · rfl
    · obtain ⟨q,h1,h2⟩:=L.dn ord.length (by simp) k (L.lt k (by simp)) (by rw [ze3]; exact h)
      have:=L.nd
      rw [List.nodup_append] at this
      rw [zcq h1] at h2
      exact (this.2.2 _ (ziv h1) k (by simp) h2).elim
  have hnk:¬ full C ord s:=fun g=>by
    have:=L.nd
    rw [List.nodup_append] at this
    exact this.2.2 k (g k (L.lt k (by simp)) h) k (by simp) rfl
  have hsk:s≠k:=fun e=>by subst e; rw [hkk] at h; cases h
  have hso:s ∉ ord:=fun g=>by
    obtain ⟨p,h1,h2⟩:=zmr g
    obtain ⟨q,g1,g2⟩:=L.dn p (by simp; lia) k (L.lt k (by simp)) (by rw [zcq h1,h2]; exact h)
    rw [zcq (by lia)] at g2
    have:=L.nd
    rw [List.nodup_append] at this
    exact this.2.2 _ (ziv (show q < ord.length by lia)) k (by simp) g2
  have hl:ord.length < 6:=by have:=L.len; lia
  refine ⟨L.nd,L.lt,?_,fun c=>?_,L.dn,L.mo,fun c hc=>?_⟩
  · refine hp.nodup_iff.2 (List.nodup_cons.2 ⟨fun hc=>?_,L.hnd⟩)
    obtain ⟨i,g1,g2,g3,g4⟩:=(L.mem _).1 hc
    have e:i = s:=by lia
    subst e
    rcases g3 with g3 | g3
    · exact hnk g3
    · lia
  · rw [hp.mem_iff,List.mem_cons,L.mem]
    constructor
    · rintro (rfl | ⟨i,g1,g2,g3,g4⟩)
      · exact ⟨s,hs6,by simp [hso,hsk],.inr ⟨by lia,hf⟩,rfl⟩
      · exact ⟨i,g1,g2,g3.imp id fun ⟨a,b⟩=>⟨by lia,b⟩,g4⟩
    · rintro ⟨i,g1,g2,g3 | ⟨g3,g5⟩,g4⟩
      · exact .inr ⟨i,g1,g2,.inl g3,g4⟩
      · by_cases his:i < s
        · exact .inr ⟨i,g1,g2,.inr ⟨his,g5⟩,g4⟩
        · have e:i = s:=by lia
          subst e
          exact .inl g4
  · rcases List.mem_cons.1 (hp.mem_iff.1 hc) with rfl | hc
    · rw [zfs hkk,show (msk C (ord++[k]) s * 8 + s) / 8 = msk C (ord++[k]) s by lia,zp0 h hl]
      have:=zn3 (C:=C) (ord:=ord) (i:=k)
      lia
    · exact L.top c hc
theorem LabI.done (L:LabI C ord k 6 hs):Lab C (ord++[k]) hs:=by
  refine ⟨L.nd,L.lt,L.hnd,fun c=>?_,L.dn,L.mo,fun p hp c hc=>?_⟩
  · rw [L.mem]
    constructor
    · rintro ⟨i,g1,g2,g3 | ⟨_,g3⟩,g4⟩
      · exact ⟨i,g1,g2,zww g3,g4⟩
      · exact ⟨i,g1,g2,g3,g4⟩
    · rintro ⟨i,g1,g2,g3,g4⟩
      exact ⟨i,g1,g2,.inr ⟨g1,g3⟩,g4⟩
  · simp only [List.length_append,List.length_cons,List.length_nil] at hp
    rw [show p = ord.length by lia,ze3]
    exact L.top c hc
theorem Lab.start {ys:List Nat} (hp:ys.Perm ((List.range 6).filter fun i=>decide (nxs C i = []))):Lab C [] ys:=by
  refine ⟨.nil,by simp,hp.nodup_iff.2 (List.nodup_range.filter _),fun c=>?_,by simp,by simp,by simp⟩
  rw [hp.mem_iff,List.mem_filter,List.mem_range,decide_eq_true_eq]
  have h0:∀ i,msk C [] i = 0:=fun i=>by have:=zn3 (C:=C) (ord:=[]) (i:=i); simp at this; exact this
  have hf:∀ i,nxs C i = []↔full C [] i:=fun i=>by
    simp only [nxs,List.filter_eq_nil_iff,List.mem_range,full]
    constructor
    · intro h j hj hc; exact absurd hc (h j hj)
    · intro h j hj hc; simpa using h j hj hc
  constructor
  · rintro ⟨h1,h2⟩
    exact ⟨c,h1,by simp,(hf c).1 h2,by rw [h0]; lia⟩
  · rintro ⟨i,h1,_,h3,h4⟩
    rw [h0] at h4
    have:c = i:=by lia
    subst this
    exact ⟨h1,(hf c).2 h3⟩
theorem Lab.all (L:Lab C ord []) (r:Nat→Int) (hr:∀ i j,C i j = true→r i < r j):∀ i,i < 6→i∈ord:=by
  have key:∀ (n:Nat) (i:Nat),i < 6→i ∉ ord→∀ l:List Nat,l.Nodup→(∀ x∈l,x < 6∧r x < r i)→6≤n + l.length→False:=by
    intro n
    induction n with
    | zero =>
      intro i hi ho l hl h1 h2
      have h3:(i ::l).Nodup:=List.nodup_cons.2 ⟨fun h=>by have:=(h1 i h).2; lia,hl⟩
      have:=zeo 6 _ h3 fun x hx=>by
        rcases List.mem_cons.1 hx with rfl | h
        · exact hi
        · exact (h1 x h).1
      simp only [List.length_cons] at this
      lia
    | succ n ih =>
      intro i hi ho l hl h1 h2
      have nf:¬ full C ord i:=fun hf=>by
        have:=(L.mem (msk C ord i * 8 + i)).2 ⟨i,hi,ho,hf,rfl⟩
        simp at this
      simp only [full] at nf
      have:∃ j,j < 6∧C i j = true∧j ∉ ord:=by
        refine Classical.byContradiction fun hne=>nf fun j hj hc=>Classical.byContradiction fun hno=>hne ⟨j,hj,hc,hno⟩
      obtain ⟨j,g1,g2,g3⟩:=this
      have hij:=hr i j g2
      refine ih j g1 g3 (i ::l) (List.nodup_cons.2 ⟨fun h=>by have:=(h1 i h).2; lia,hl⟩) (fun x hx=>?_) (by simp only [List.length_cons]; lia)
      rcases List.mem_cons.1 hx with rfl | h
      · exact ⟨hi,hij⟩
      · have:=h1 x h; exact ⟨this.1,by lia⟩
  intro i hi
  refine Classical.byContradiction fun ho=>key 6 i hi ho [] .nil (by simp) (by simp)
theorem zw2:∀ (f:Nat→Bool),(ze4 (zd7 f 6)).length = ((List.range 6).filter f).length:=by
  intro f
  have:ze4 (zd7 f 6) = ((List.range 6).filter f).reverse:=by
    rw [← List.filter_reverse]
    simp only [ze4]
    rw [show (List.range 6).reverse = [5,4,3,2,1,0] from rfl]
    refine List.filter_congr fun b hb=>?_
    rw [zdm]
    have:b < 6:=by simp at hb; lia
    simp [this]
  rw [this,List.length_reverse]
theorem zp5 (hnd:ord.Nodup) (hlt:∀ x∈ord,x < 6):(ze4 (msk C ord i)).length = (nxs C i).length↔full C ord i:=by
  have hl:ord.length≤6:=zeo 6 _ hnd hlt
  have e1:(ze4 (msk C ord i)).length = (ord.filter (C i)).length:=by
    rw [msk,zw2]
    have h2:ord = (List.range ord.length).map fun q=>ord.getD q 0:=by
      refine List.ext_getElem (by simp) fun q h1 h2=>?_
      simp [List.getD_eq_getElem?_getD,h1]
    have h3:(ord.filter (C i)).length = ((List.range ord.length).filter fun q=>C i (ord.getD q 0)).length:=by
      conv=>lhs; rw [h2,List.filter_map]
      simp [Function.comp_def]
    rw [h3]
    have h4:List.range 6 = List.range ord.length++(List.range (6 - ord.length)).map (ord.length + ·):=by
      rw [← List.range_add]; congr 1; lia
    rw [h4,List.filter_append,List.length_append]
    have h5:((List.range (6 - ord.length)).map (ord.length + ·)).filter (fun q=>decide (q < ord.length) && C i (ord.getD q 0)) = []:=by
      rw [List.filter_eq_nil_iff]
      intro q hq
      obtain ⟨z,_,rfl⟩:=List.mem_map.1 hq
      rw [decide_eq_false (by lia)]; simp
    rw [h5,List.length_nil,Nat.add_zero]
    congr 1
    refine List.filter_congr fun q hq=>?_
    rw [decide_eq_true (List.mem_range.1 hq)]; simp
  rw [e1]
  have nd1:(ord.filter (C i)).Nodup:=hnd.filter _
  have sub:∀ x∈ord.filter (C i),x∈nxs C i:=fun x hx=>by
    have:=List.mem_filter.1 hx
    exact List.mem_filter.2 ⟨List.mem_range.2 (hlt x this.1),this.2⟩
  have nd2:(nxs C i).Nodup:=List.nodup_range.filter _
  constructor
  · intro h j hj hc
    refine Classical.byContradiction fun ho=>?_
    have h1:(j ::ord.filter (C i)).Nodup:=List.nodup_cons.2 ⟨fun h=>ho (List.mem_filter.1 h).1,nd1⟩
    have:=zn1 _ (nxs C i) h1 fun x hx=>by
      rcases List.mem_cons.1 hx with rfl | hx
      · exact List.mem_filter.2 ⟨List.mem_range.2 hj,hc⟩
      · exact sub x hx
    simp only [List.length_cons] at this
    lia
  · intro h
    have h1:(ord.filter (C i)).Perm (nxs C i):=by
      rw [List.perm_ext_iff_of_nodup nd1 nd2]
      intro x
      refine ⟨sub x,fun hx=>?_⟩
      have:=List.mem_filter.1 hx
      exact List.mem_filter.2 ⟨h x (List.mem_range.1 this.1) this.2,this.2⟩
    exact h1.length_eq
end
end Mine
end
section
open PySem
namespace Mine
noncomputable def zen (m:Nat):List AV:=(ze4 m).map fun b=>AV.int ((b + 1:Nat):Int)
noncomputable def keyL (c:Nat):AV:=.tup [.tup (zen (c / 8)),.int ((c % 8:Nat):Int)]
noncomputable def PL (c:Nat):Prop:=c / 8 < 64
noncomputable def zow (m:Nat):List PyData:=(ze4 m).map fun b=>PyData.int ((b + 1:Nat):Int)
theorem zyq:∀ m,m < 64→∀ m',m' < 64→PyData.eqvAll (zow m) (zow m') = decide (m = m'):=by decide +kernel
theorem row_lt:∀ m,m < 64→∀ m',m' < 64→m≠m'→ltVs (zen m) (zen m') = some (decide (m < m')):=by decide +kernel
theorem zv5:∀ l,l < 6→∀ m,m < 64→m < 2 ^ l→ze4 (2 ^ l + m) = l ::ze4 m:=by decide +kernel
theorem zxo (m:Nat):zg5 (zen m) = some (zow m):=zd5 _ _ (fun _=>rfl) _
theorem zs5 (m:Nat):(PyData.tuple (zow m)).depth≤60:=by
  have:=zdh 0 (zow m) fun x hx=>by
    obtain ⟨b,_,rfl⟩:=List.mem_map.1 hx
    simp [PyData.depth]
  simp only [PyData.depth]; lia
theorem ztz (a b:Int):ltVs [.int a] [.int b] = some (decide (a < b)):=by
  have hd:(PyData.int a).depth≤60:=by simp [PyData.depth]
  simp only [zxw,zt0,zp2,zez,ze1,zey,zex,ze0,Option.bind_eq_bind,Option.bind_some]
  rw [if_pos hd]
  by_cases h:a = b
  · subst h; simp [PyData.eqv]
  · simp [PyData.eqv,h,zt2,zt1]
theorem zwy (m n:Nat):(zen m).all (zlb (n + 1)) = true:=by
  rw [List.all_eq_true]
  intro x hx
  obtain ⟨b,_,rfl⟩:=List.mem_map.1 hx
  rfl
theorem zo3:KeyOk keyL PL where
  lt x y hp hx hy:=by
    have hdeep:zlb 8 (keyL x) = true:=by
      show (List.all [_,_] (zlb 7)) = true
      rw [List.all_cons,List.all_cons,List.all_nil,Bool.and_true,Bool.and_eq_true]
      exact ⟨zwy _ 5,rfl⟩
    have hv:ltV (keyL x) (keyL y) = some (decide (x < y)):=by
      have h1:toPy (.tup (zen (x / 8))) = some (.tuple (zow (x / 8))):=by simp only [zez,ze1,zey,zex,ze0,zxo,Option.map_some]
      have h2:toPy (.tup (zen (y / 8))) = some (.tuple (zow (y / 8))):=by simp only [zez,ze1,zey,zex,ze0,zxo,Option.map_some]
      simp only [keyL,zt2,zt1]
      rw [zp2]
      simp only [h1,h2,Option.bind_eq_bind,Option.bind_some]
      rw [if_pos (zs5 _)]
      simp only [PyData.eqv,zyq _ hx _ hy]
      by_cases h:x / 8 = y / 8
      · rw [decide_eq_true h,if_pos rfl,ztz]
        congr 1
        apply decide_eq_decide.2
        lia
      · rw [decide_eq_false h,if_neg (by simp)]
        simp only [zt2,zt1]
        rw [row_lt _ hx _ hy h]
        congr 1
        apply decide_eq_decide.2
        lia
    simp only [ltT,if_pos hdeep,hv,Option.map_some]
noncomputable def zc7 (C:Nat→Nat→Bool):AV:=.fl ((List.range 6).map fun i=>.fl ((nxs C i).map fun j:Nat=>AV.int j))
theorem zmw (k:Nat) (l:List Nat) (hp:Hp):inA (.int k) (.fl (l.map fun j:Nat=>AV.int j)) hp = some (.bool (decide (k∈l)),hp):=by
  have h1:=zd5 (fun j:Nat=>AV.int j) (fun j:Nat=>PyData.int j) (fun _=>rfl) l
  have hd:(PyData.int (k:Int)).depth≤60:=by simp [PyData.depth]
  have hb:inB (.int k) (.fl (l.map fun j:Nat=>AV.int j)) = _:=bE h1 (if_pos hd)
  rw [inA,hb]
  simp only [Option.map_some,Option.some.injEq,Prod.mk.injEq,AV.bool.injEq,and_true]
  rw [Bool.eq_iff_iff]
  simp only [List.any_eq_true,List.mem_map,decide_eq_true_eq]
  constructor
  · rintro ⟨d,⟨j,hj,rfl⟩,h⟩
    simp only [PyData.eqv,beq_iff_eq] at h
    rw [show k = j by lia]; exact hj
  · intro h
    exact ⟨_,⟨k,h,rfl⟩,by simp [PyData.eqv]⟩
theorem zpz (k:Nat) (l:List Nat) (hp:Hp):niA (.int k) (.fl (l.map fun j:Nat=>AV.int j)) hp = some (.bool (!decide (k∈l)),hp):=by
  have:=zmw k l hp
  simp only [inA,Option.map_eq_some_iff] at this
  obtain ⟨b,h1,h2⟩:=this
  cases (h2)
  simp only [niA,h1,Option.map_some]
theorem zpa (a b:Int) (hp:Hp):eqA (.int a) (.int b) hp = some (.bool (decide (a = b)),hp):=by
  have hd:(PyData.int a).depth≤60:=by simp [PyData.depth]
  simp only [eqA,eqB,zez,ze1,zey,zex,ze0,Option.bind_eq_bind,Option.bind_some]
  rw [if_pos hd]
  simp only [Option.map_some,Option.some.injEq,Prod.mk.injEq,AV.bool.injEq,and_true,PyData.eqv]
  rw [Bool.eq_iff_iff]; simp
theorem zq0 {α:Type} (f:Nat→α) (s:Nat) (v:α):((List.range 6).map f).set s v = (List.range 6).map fun i=>if i = s then v else f i:=by
  refine List.ext_getElem (by simp) fun i h1 h2=>?_
  simp only [List.getElem_set,List.getElem_map,List.getElem_range]
  by_cases h:s = i
  · subst h; simp
  · rw [if_neg h,if_neg (fun e=>h e.symm)]
theorem zck {α:Type} (f:Nat→α) {s:Nat} (h:s < 6):((List.range 6).map f)[s]? = some (f s):=by simp [h]
theorem zz9 {a b:List AV} (h:a.length + b.length≤10000) (hp:Hp):addA (.tup a) (.tup b) hp = some (.tup (a++b),hp):=(addA_t a b hp).trans (if_pos (zd8 h))
theorem zok (m:Nat):(ze4 m).length≤6:=Nat.le_trans (List.length_filter_le _ _) (by simp)
section
variable {C:Nat→Nat→Bool}
noncomputable def zzm:MS:=(seqS (iteS (tru (bin inA (lcl 5) (bin zaq (lcl 0) (lcl 6)))) (seqS (subS (bin addA (tupE (zac (zas lenF (zac (lcl 3) zaf)) zaf)) (bin zaq (lcl 1) (lcl 6))) (lcl 1) (lcl 6)) (seqS (iteS (tru (bin eqA (zas lenF (zac (bin zaq (lcl 1) (lcl 6)) zaf)) (zas lenF (zac (bin zaq (lcl 0) (lcl 6)) zaf)))) (seqS (zcl (zas ze5 (zac (lcl 2) (zac (tupE (zac (bin zaq (lcl 1) (lcl 6)) (zac (lcl 6) zaf))) zaf)))) nilS) nilS) nilS)) nilS) nilS)
structure LHp (hp0 hp:Hp) (R:Nat) (rows:List AV) (hs ord:List Nat):Prop where
  r:hp.H R = some (.list rows)
  q:hp.H (R + 1) = some (.list (hs.map keyL))
  o:hp.H (R + 2) = some (.list (ord.map fun j:Nat=>AV.int j))
  n:R + 2 < hp.N
  up:∀ j,j < R→hp.H j = hp0.H j
noncomputable abbrev zfm (C:Nat→Nat→Bool) (R k:Nat) (o4:AV) (o6:Option AV):Loc:=[some (zc7 C),some (.loc R),some (.loc (R + 1)),some (.loc (R + 2)),some o4,some (.int k),o6]
noncomputable abbrev zdw (C:Nat→Nat→Bool) (ord:List Nat) (k s:Nat):List AV:=(List.range 6).map fun i=>AV.tup (zen (if i < s then msk C (ord++[k]) i else msk C ord i))
theorem zxx {s:Nat} (hs6:s < 6) (R k:Nat) (o4:AV) (hp:Hp):bin zaq (lcl 0) (lcl 6) (zfm C R k o4 (some (.int s))) hp = some (.fl ((nxs C s).map fun j:Nat=>AV.int j),hp) :=
  zam (x:=.fl ((List.range 6).map fun i=>.fl ((nxs C i).map fun j:Nat=>AV.int j))) rfl rfl (zc3 (by lia) (zck _ hs6))
theorem lab_t1 {s k:Nat} (hs6:s < 6) (hk:k < 6) (R:Nat) (o4:AV) (hp:Hp):tru (bin inA (lcl 5) (bin zaq (lcl 0) (lcl 6))) (zfm C R k o4 (some (.int s))) hp = some (C s k,hp):=by
  have t1:tru (bin inA (lcl 5) (bin zaq (lcl 0) (lcl 6))) (zfm C R k o4 (some (.int s))) hp = some (decide (k∈nxs C s),hp):=zb2 (zam rfl (zxx hs6 R k o4 hp) (zmw _ _ hp))
  have hmem:decide (k∈nxs C s) = C s k:=by
    rw [Bool.eq_iff_iff,decide_eq_true_eq,nxs,List.mem_filter,List.mem_range]
    exact ⟨fun h=>h.2,fun h=>⟨hk,h⟩⟩
  rw [hmem] at t1
  exact t1
theorem zzk {s k:Nat} {hp0 hp:Hp} {R:Nat} {hs ord:List Nat} (hs6:s < 6) (hc:C s k = true) (hol:ord.length < 6) (o4:AV) (X:LHp hp0 hp R (zdw C ord k s) hs (ord++[k])) :
    subS (bin addA (tupE (zac (zas lenF (zac (lcl 3) zaf)) zaf)) (bin zaq (lcl 1) (lcl 6))) (lcl 1) (lcl 6) (zfm C R k o4 (some (.int s))) hp = some (.nx,zfm C R k o4 (some (.int s)),hp.put R (.list (zdw C ord k (s + 1)))):=by
  have hlen:((ord++[k]).map fun j:Nat=>AV.int j).length = ord.length + 1:=by simp
  have el:lenF [.loc (R + 2)] hp = some (.int ((ord.length + 1:Nat):Int),hp):=by
    rw [zeq X.o (by rw [hlen]; lia),hlen]
  have hrow:zen (msk C (ord++[k]) s) = [.int ((ord.length + 1:Nat):Int)]++zen (msk C ord s):=by
    rw [zp0 hc hol,zen,zv5 _ hol _ ztu zn3,List.map_cons]
    rfl
  have hg:=zck (fun i=>AV.tup (zen (if i < s then msk C (ord++[k]) i else msk C ord i))) hs6
  rw [if_neg (Nat.lt_irrefl s)] at hg
  have hadd:addA (.tup [.int ((ord.length + 1:Nat):Int)]) (.tup (zen (msk C ord s))) hp = some (.tup (zen (msk C (ord++[k]) s)),hp):=by
    rw [hrow]
    refine zz9 ?_ hp
    have:=zok (msk C ord s)
    simp only [zen,List.length_cons,List.length_nil,List.length_map]; lia
  have e1:bin addA (tupE (zac (zas lenF (zac (lcl 3) zaf)) zaf)) (bin zaq (lcl 1) (lcl 6)) (zfm C R k o4 (some (.int s))) hp = some (.tup (zen (msk C (ord++[k]) s)),hp) :=
    zam (zgr (zai (zav (zai rfl rfl) el) rfl) (by simp)) (zam rfl rfl (zcn X.r (by lia) hg)) hadd
  have e2:=zgd (v:=.tup (zen (msk C (ord++[k]) s))) X.r (show s < 100000 by lia) (by simp; lia)
  have hrows:(zdw C ord k s).set s (AV.tup (zen (msk C (ord++[k]) s))) = zdw C ord k (s + 1):=by
    rw [zq0]
    refine List.map_congr_left fun i _=>?_
    by_cases h:i = s
    · subst h; rw [if_pos rfl,if_pos (by lia)]
    · by_cases h2:i < s
      · rw [if_neg h,if_pos h2,if_pos (by lia)]
      · rw [if_neg h,if_neg h2,if_neg (by lia)]
  rw [hrows] at e2
  exact zh7 e1 rfl rfl e2
theorem zt5 {s k:Nat} {hp0 hp:Hp} {R:Nat} {hs ord:List Nat} (hs6:s < 6) (o4:AV) (X:LHp hp0 hp R (zdw C ord k (s + 1)) hs (ord++[k])) :
    bin zaq (lcl 1) (lcl 6) (zfm C R k o4 (some (.int s))) hp = some (.tup (zen (msk C (ord++[k]) s)),hp):=by
  have hg:=zck (fun i=>AV.tup (zen (if i < s + 1 then msk C (ord++[k]) i else msk C ord i))) hs6
  rw [if_pos (Nat.lt_succ_self s)] at hg
  exact zam rfl rfl (zcn X.r (by lia) hg)
theorem lab_t2 {s k:Nat} {hp0 hp:Hp} {R:Nat} {hs ord:List Nat} (hs6:s < 6) (o4:AV) (X:LHp hp0 hp R (zdw C ord k (s + 1)) hs (ord++[k])) :
    tru (bin eqA (zas lenF (zac (bin zaq (lcl 1) (lcl 6)) zaf)) (zas lenF (zac (bin zaq (lcl 0) (lcl 6)) zaf))) (zfm C R k o4 (some (.int s))) hp = some (decide ((ze4 (msk C (ord++[k]) s)).length = (nxs C s).length),hp):=by
  have hbl:=zok (msk C (ord++[k]) s)
  have hnl:(nxs C s).length≤6:=Nat.le_trans (List.length_filter_le _ _) (by simp)
  have l1:lenF [.tup (zen (msk C (ord++[k]) s))] hp = some (.int ((ze4 (msk C (ord++[k]) s)).length:Int),hp):=by
    rw [zo0 (by simp only [zen,List.length_map]; lia),zen,List.length_map]
  have l2:lenF [.fl ((nxs C s).map fun j:Nat=>AV.int j)] hp = some (.int ((nxs C s).length:Int),hp):=by
    rw [zho (by simp only [List.length_map]; lia),List.length_map]
  have t2:tru (bin eqA (zas lenF (zac (bin zaq (lcl 1) (lcl 6)) zaf)) (zas lenF (zac (bin zaq (lcl 0) (lcl 6)) zaf))) (zfm C R k o4 (some (.int s))) hp = some (decide (((ze4 (msk C (ord++[k]) s)).length:Int) = ((nxs C s).length:Int)),hp) :=
    zb2 (zam (zav (zai (zt5 hs6 o4 X) rfl) l1) (zav (zai (zxx hs6 R k o4 hp) rfl) l2) (zpa _ _ hp))
  rw [t2]
  congr 2
  apply decide_eq_decide.2
  lia
inductive lab_stepR (C:Nat→Nat→Bool) (s:Nat) (k:Nat) (hp0:Hp) (hp:Hp) (R:Nat) (ord:List Nat) (o4:AV):Prop
  | mk (hs':List Nat) (hp':Hp) (q1:zzm (zfm C R k o4 (some (.int s))) hp = some (.nx,zfm C R k o4 (some (.int s)),hp')) (q2:LabI C ord k (s + 1) hs') (q3:zec hs') (q4:AllP PL hs') (q5:LHp hp0 hp' R (zdw C ord k (s + 1)) hs' (ord++[k])):lab_stepR C s k hp0 hp R ord o4
theorem zwn {s k:Nat} {hp0 hp:Hp} {R:Nat} {hs ord:List Nat} (hs6:s < 6) (hk:k < 6) (o4:AV) (L:LabI C ord k s hs) (hH:zec hs) (hP:AllP PL hs) (X:LHp hp0 hp R (zdw C ord k s) hs (ord++[k])):lab_stepR C s k hp0 hp R ord o4:=by
  have hlen:=L.len
  have hol:ord.length < 6:=by lia
  have t1:=lab_t1 (C:=C) hs6 hk R o4 hp
  cases hc:C s k
  · rw [hc] at t1
    have hrows:zdw C ord k s = zdw C ord k (s + 1):=by
      refine List.map_congr_left fun i _=>?_
      by_cases h:i = s
      · subst h; rw [if_neg (by lia),if_pos (by lia),zfs hc]
      · by_cases h2:i < s
        · rw [if_pos h2,if_pos (by lia)]
        · rw [if_neg h2,if_neg (by lia)]
    rw [hrows] at X
    exact ⟨hs,hp,za2 (zdb t1 rfl),L.skip (.inl hc),hH,hP,X⟩
  · rw [hc] at t1
    have e2:=zzk hs6 hc hol o4 X
    have X1:LHp hp0 (hp.put R (.list (zdw C ord k (s + 1)))) R (zdw C ord k (s + 1)) hs (ord++[k]) :=
      ⟨zcb _ _ _,by rw [za1 _ _ (by lia),X.q],by rw [za1 _ _ (by lia),X.o],X.n,fun j hj=>by rw [za1 _ _ (by lia),X.up j hj]⟩
    generalize hp.put R (.list (zdw C ord k (s + 1))) = hp1 at e2 X1
    have t2:=lab_t2 hs6 o4 X1
    by_cases hf:full C (ord++[k]) s
    · rw [decide_eq_true ((zp5 L.nd L.lt).2 hf)] at t2
      have hkey:keyL (msk C (ord++[k]) s * 8 + s) = (AV.tup [.tup (zen (msk C (ord++[k]) s)),.int (s:Int)]):=by
        simp only [keyL,show (msk C (ord++[k]) s * 8 + s) / 8 = msk C (ord++[k]) s by lia,show (msk C (ord++[k]) s * 8 + s) % 8 = s by lia]
      have hPx:PL (msk C (ord++[k]) s * 8 + s):=by
        have:=ztu (C:=C) (ord:=ord++[k]) (i:=s)
        simp only [PL]; lia
      obtain ⟨ys,p1,p2,p3,p4⟩:=ztf zo3 X1.q hP hPx hH (by lia)
      rw [hkey] at p1
      have e5:zcl (zas ze5 (zac (lcl 2) (zac (tupE (zac (bin zaq (lcl 1) (lcl 6)) (zac (lcl 6) zaf))) zaf))) (zfm C R k o4 (some (.int s))) hp1 = _ :=
        zcu (zav (zai rfl (zai (zgr (zai (zt5 hs6 o4 X1) (zai rfl rfl)) (by simp)) rfl)) p1)
      exact ⟨ys,hp1.put (R + 1) (.list (ys.map keyL)),za2 (zfi t1 (zao e2 (za2 (zfi t2 (za2 e5))))),L.push hs6 hc hf p3,p2,p4,
        ⟨by rw [za1 _ _ (by lia),X1.r],zcb _ _ _,by rw [za1 _ _ (by lia),X1.o],X1.n,fun j hj=>by rw [za1 _ _ (by lia),X1.up j hj]⟩⟩
    · rw [decide_eq_false (fun h=>hf ((zp5 L.nd L.lt).1 h))] at t2
      exact ⟨hs,hp1,za2 (zfi t1 (zao e2 (za2 (zdb t2 rfl)))),L.skip (.inr hf),hH,hP,X1⟩
theorem zzo (hp0:Hp) (R k:Nat) (o4:AV) (ord:List Nat) (hk:k < 6):∀ (n s:Nat) (hs:List Nat) (o6:Option AV) (hp:Hp),s + n = 6→LabI C ord k s hs→zec hs→AllP PL hs→LHp hp0 hp R (zdw C ord k s) hs (ord++[k])→
    ∃ (o6':Option AV) (hs':List Nat) (hp':Hp),forM (stE 6) zzm ((List.range' s n).map fun i:Nat=>AV.int (i:Int)) (zfm C R k o4 o6) hp = some (.nx,zfm C R k o4 o6',hp')∧
      LabI C ord k 6 hs'∧zec hs'∧AllP PL hs'∧LHp hp0 hp' R (zdw C ord k 6) hs' (ord++[k]):=by
  intro n
  induction n with
  | zero =>
    intro s hs o6 hp hsn L hH hP X
    have:s = 6:=by lia
    subst this
    exact ⟨o6,hs,hp,rfl,L,hH,hP,X⟩
  | succ n ih =>
    intro s hs o6 hp hsn L hH hP X
    obtain ⟨hs1,hp1,eb,L1,hH1,hP1,X1⟩:=zwn (by lia) hk o4 L hH hP X
    have es:stE 6 (.int (s:Int)) (zfm C R k o4 o6) hp = some (zfm C R k o4 (some (.int s)),hp):=rfl
    obtain ⟨o6',hs',hp',g1,g2⟩:=ih (s + 1) hs1 (some (.int s)) hp1 (by lia) L1 hH1 hP1 X1
    refine ⟨o6',hs',hp',?_,g2⟩
    exact zeh es eb g1
end
section
variable {C:Nat→Nat→Bool}
noncomputable abbrev zfk (C:Nat→Nat→Bool) (ord:List Nat):List AV:=(List.range 6).map fun i=>AV.tup (zen (msk C ord i))
noncomputable abbrev zgy (C:Nat→Nat→Bool) (R:Nat) (o4 o5 o6:Option AV):Loc:=[some (zc7 C),some (.loc R),some (.loc (R + 1)),some (.loc (R + 2)),o4,o5,o6]
noncomputable def zxy:MS:=seqS (asgS (zas zfg (zac (lcl 2) zaf)) (tupT 2 (zd4 (stE 4) (zd4 (stE 5) nilT)))) (seqS (zcl (zcc "list" zca (lcl 3) (zac (lcl 5) zaf))) (seqS (forS (valI (zas zbh (zac (zas lenF (zac (lcl 0) zaf)) zaf))) (stE 6) zzm) nilS))
theorem zkr (hp:Hp):lenF [zc7 C] hp = some (.int ((6:Nat):Int),hp):=zho (xs:=(List.range 6).map fun i=>.fl ((nxs C i).map fun j:Nat=>AV.int j)) (by simp)
theorem zq3 {loc:Loc} (h:lcl 0 loc = fun hp=>some (zc7 C,hp)) (hp:Hp):valI (zas zbh (zac (zas lenF (zac (lcl 0) zaf)) zaf)) loc hp = some ((List.range' 0 6).map fun i:Nat=>AV.int (i:Int),hp):=by
  have ei:=zbs (b:=6) (by lia)
  rw [List.range_eq_range'] at ei
  exact zb5 (zav (zai (zav (zai (by rw [h]) rfl) (zkr hp)) rfl) rfl) ei
inductive lab_outR (C:Nat→Nat→Bool) (hp0:Hp) (hp:Hp) (R:Nat) (y:Nat) (ord:List Nat) (o4:Option AV) (o5:Option AV) (o6:Option AV):Prop
  | mk (o4':Option AV) (o5':Option AV) (o6':Option AV) (hs':List Nat) (hp':Hp) (q1:zxy (zgy C R o4 o5 o6) hp = some (.nx,zgy C R o4' o5' o6',hp')) (q2:Lab C (ord++[y % 8]) hs') (q3:zec hs') (q4:AllP PL hs') (q5:LHp hp0 hp' R (zfk C (ord++[y % 8])) hs' (ord++[y % 8])):lab_outR C hp0 hp R y ord o4 o5 o6
theorem zzl {hp0 hp:Hp} {R:Nat} {y:Nat} {r ord:List Nat} (o4 o5 o6:Option AV) (L:Lab C ord (y ::r)) (hH:zec (y ::r)) (hP:AllP PL (y ::r)) (X:LHp hp0 hp R (zfk C ord) (y ::r) ord):lab_outR C hp0 hp R y ord o4 o5 o6:=by
  have hlen:=L.len
  obtain ⟨ys,p1,p2,p3,p4,p5⟩:=zxq zo3 X.q hP hH (by lia)
  obtain ⟨LI,k1,k2,k3⟩:=L.pop p5 p3
  have s1:asgS (zas zfg (zac (lcl 2) zaf)) (tupT 2 (zd4 (stE 4) (zd4 (stE 5) nilT))) (zgy C R o4 o5 o6) hp = some (.nx,zgy C R (some (.tup (zen (y / 8)))) (some (.int (y % 8:Nat))) o6,hp.put (R + 1) (.list (ys.map keyL))) :=
    zaz (zav (zai rfl rfl) p1) rfl
  have X1:LHp hp0 (hp.put (R + 1) (.list (ys.map keyL))) R (zfk C ord) ys ord:=⟨by rw [za1 _ _ (by lia),X.r],zcb _ _ _,by rw [za1 _ _ (by lia),X.o],X.n,fun j hj=>by rw [za1 _ _ (by lia),X.up j hj]⟩
  generalize hp.put (R + 1) (.list (ys.map keyL)) = hp1 at s1 X1
  have ea:=zdz (.int (y % 8:Nat)) X1.o (by simp only [List.length_map]; simp only [List.length_cons] at hlen; lia)
  have s2:zcl (zcc "list" zca (lcl 3) (zac (lcl 5) zaf)) (zgy C R (some (.tup (zen (y / 8)))) (some (.int (y % 8:Nat))) o6) hp1 = some (.nx,zgy C R (some (.tup (zen (y / 8)))) (some (.int (y % 8:Nat))) o6,hp1.put (R + 2) (.list ((ord.map fun j:Nat=>AV.int j)++[.int (y % 8:Nat)]))) :=
    zcu (zc8 rfl (zd0 X1.o) (zai rfl rfl) ea)
  rw [show (ord.map fun j:Nat=>AV.int j)++[.int (y % 8:Nat)] = (ord++[y % 8]).map fun j:Nat=>AV.int j by simp] at s2
  have X2:LHp hp0 (hp1.put (R + 2) (.list ((ord++[y % 8]).map fun j:Nat=>AV.int j))) R (zdw C ord (y % 8) 0) ys (ord++[y % 8]):=by
    refine ⟨?_,by rw [za1 _ _ (by lia),X1.q],zcb _ _ _,X1.n,fun j hj=>by rw [za1 _ _ (by lia),X1.up j hj]⟩
    rw [za1 _ _ (by lia),X1.r]
    congr 2
  generalize hp1.put (R + 2) (.list ((ord++[y % 8]).map fun j:Nat=>AV.int j)) = hp2 at s2 X2
  obtain ⟨o6',hs',hp',g1,g2,g3,g4,g5⟩:=zzo hp0 R (y % 8) (.tup (zen (y / 8))) ord k1 6 0 ys o6 hp2 (by lia) LI p2 p4 X2
  have hrows:zdw C ord (y % 8) 6 = zfk C (ord++[y % 8]):=by
    refine List.map_congr_left fun i hi=>?_
    rw [if_pos (List.mem_range.1 hi)]
  rw [hrows] at g5
  exact ⟨_,_,o6',hs',hp',zao s1 (zao s2 (za2 (zfn (zq3 rfl hp2) g1))),g2.done,g3,g4,g5⟩
theorem zza (i:Nat):msk C [] i = 0:=by have:=zn3 (C:=C) (ord:=[]) (i:=i); simpa using this
theorem zo1 (r:Nat→Int) (hr:∀ i j,C i j = true→r i < r j) (hp:Hp):∃ (ord:List Nat) (hp':Hp),zeu [zc7 C] hp = some (.fl (ord.map fun j:Nat=>AV.int j),hp')∧Lab C ord []∧Upp hp hp':=by
  have ei:=zbs (b:=6) (by lia)
  have s1:asgS (lcz (mulL (flz (lstE (zac (tupE zaf) zaf))) (zas lenF (zac (lcl 0) zaf)))) (stE 1) [some (zc7 C),none,none,none,none,none,none] hp = some (.nx,[some (zc7 C),some (.loc hp.N),none,none,none,none,none],hp.new (.list (zfk C []))):=by
    have e:zfk C [] = List.replicate ((6:Nat):Int).toNat (AV.tup []):=by
      have:zfk C [] = (List.range 6).map fun _=>AV.tup []:=List.map_congr_left fun i _=>by rw [zza]; rfl
      rw [this]; rfl
    rw [e]
    exact zaz (zfl (ztt (zbw (zc9 (zai (zgr rfl (by simp)) rfl) (by simp))) (zav (zai rfl rfl) (zkr hp)) rfl (by lia) (by lia))) rfl
  have X0:∀ j,j < hp.N→(hp.new (.list (zfk C []))).H j = hp.H j:=fun j hj=>zct _ _ (by lia)
  have hR:(hp.new (.list (zfk C []))).H hp.N = some (.list (zfk C [])):=zfr _ _
  have hN1:(hp.new (.list (zfk C []))).N = hp.N + 1:=rfl
  generalize hp.new (.list (zfk C [])) = hp1 at *
  have ec:=zd2 (fun i:Nat=>AV.int (i:Int)) (fun i=>decide (nxs C i = [])) keyL (tests:=tru (bin eqA (bin zaq (lcl 1) (lcl 0)) (flz (lstE zaf)))) (elt:=tupE (zac (tupE zaf) (zac (lcl 0) zaf))) (frees:=[0]) (loc:=[some (zc7 C),some (.loc hp.N),none,none,none,none,none])
    (ite:=valI (zas zbh (zac (zas lenF (zac (lcl 0) zaf)) zaf))) (hp:=hp1) (List.range 6) (zb5 (zav (zai (zav (zai rfl rfl) (zkr hp1)) rfl) rfl) ei) (by simp) (fun i hi=>by
      have hi6:=List.mem_range.1 hi
      have eb:=zm5 (zd5 (fun j:Nat=>AV.int j) (fun j:Nat=>PyData.int j) (fun _=>rfl) (nxs C i)) (by intro d hd; obtain ⟨p,_,rfl⟩:=List.mem_map.1 hd; simp [PyData.depth])
      have eq:eqA (.fl ((nxs C i).map fun j:Nat=>AV.int j)) (.fl []) hp1 = some (.bool (decide (nxs C i = [])),hp1):=by
        simp only [eqA,eb,Option.map_some,List.map_eq_nil_iff]
      refine ⟨zb2 (zam (zam (x:=.fl ((List.range 6).map fun i=>.fl ((nxs C i).map fun j:Nat=>AV.int j))) rfl rfl (zc3 (by lia) (zck _ hi6))) (zbw (zc9 (xs:=[]) rfl (by simp))) eq),fun _=>?_⟩
      have ek:keyL i = .tup [.tup [],.int (i:Int)]:=by
        simp only [keyL,show i / 8 = 0 by lia,show i % 8 = i by lia]; rfl
      rw [ek]
      exact zgr (zai (zgr rfl (by simp)) (zai rfl rfl)) (by simp))
  generalize hq:(List.range 6).filter (fun i=>decide (nxs C i = [])) = q0 at ec
  have hq6:q0.length≤6:=by rw [← hq]; exact Nat.le_trans (List.length_filter_le _ _) (by simp)
  have hqP:AllP PL q0:=fun x hx=>by
    rw [← hq] at hx
    have:=List.mem_range.1 (List.mem_filter.1 hx).1
    simp only [PL]; lia
  have s2:=zaz (t:=stE 2) (zfl ec) rfl
  rw [hN1] at s2
  have hR2:(hp1.new (.list (q0.map keyL))).H hp.N = some (.list (zfk C [])):=by rw [zct _ _ (by lia),hR]
  have hQ2:(hp1.new (.list (q0.map keyL))).H (hp.N + 1) = some (.list (q0.map keyL)):=by rw [← hN1]; exact zfr _ _
  have X02:∀ j,j < hp.N→(hp1.new (.list (q0.map keyL))).H j = hp.H j:=fun j hj=>by rw [zct _ _ (by lia),X0 j hj]
  have hN2:(hp1.new (.list (q0.map keyL))).N = hp.N + 2:=by rw [zi7,hN1]
  generalize hp1.new (.list (q0.map keyL)) = hp2 at *
  obtain ⟨ys,h1,h2,h3,h4⟩:=zl0 zo3 hQ2 hqP hq6
  have s3:zcl (zas zf1 (zac (lcl 2) zaf)) [some (zc7 C),some (.loc hp.N),some (.loc (hp.N + 1)),none,none,none,none] hp2 = _:=zcu (zav (zai rfl rfl) h1)
  have X:LHp hp ((hp2.put (hp.N + 1) (.list (ys.map keyL))).new (.list [])) hp.N (zfk C []) ys []:=by
    refine ⟨?_,?_,?_,?_,fun j hj=>?_⟩
    · rw [zct _ _ (by rw [zf3]; lia),za1 _ _ (by lia),hR2]
    · rw [zct _ _ (by rw [zf3]; lia),zcb]
    · rw [← hN2]; exact zfr _ _
    · rw [zi7,zf3]; lia
    · rw [zct _ _ (by rw [zf3]; lia),za1 _ _ (by lia),X02 j hj]
  have s4:asgS (lcz (lstE zaf)) (stE 3) [some (zc7 C),some (.loc hp.N),some (.loc (hp.N + 1)),none,none,none,none] (hp2.put (hp.N + 1) (.list (ys.map keyL))) = some (.nx,zgy C hp.N none none none,(hp2.put (hp.N + 1) (.list (ys.map keyL))).new (.list [])):=by
    have:=zaz (t:=stE 3) (loc:=[some (zc7 C),some (.loc hp.N),some (.loc (hp.N + 1)),none,none,none,none]) (zfl (ml:=lstE zaf) (hp:=hp2.put (hp.N + 1) (.list (ys.map keyL))) (zc9 (xs:=[]) rfl (by simp))) rfl
    rw [zf3,hN2] at this
    exact this
  generalize (hp2.put (hp.N + 1) (.list (ys.map keyL))).new (.list []) = hp3 at *
  obtain ⟨loc',hp4,w1,ord,o4,o5,o6,rfl,w2,w3⟩:=zql (b:=tru (lcl 2)) (body:=zxy)
    (fun n loc hpx=>∃ ord hs o4 o5 o6,n + ord.length = 6∧loc = zgy C hp.N o4 o5 o6∧Lab C ord hs∧zec hs∧AllP PL hs∧LHp hp hpx hp.N (zfk C ord) hs ord)
    (fun loc hpx=>∃ ord o4 o5 o6,loc = zgy C hp.N o4 o5 o6∧Lab C ord []∧LHp hp hpx hp.N (zfk C ord) [] ord)
    (fun n loc hpx zv1=>by
      obtain ⟨ord,hs,o4,o5,o6,e,hloc,L,hH,hP,Y⟩:=zv1
      subst hloc
      have hlen:=L.len
      have t:=zh4 (m:=lcl 2) (loc:=zgy C hp.N o4 o5 o6) (x:=.loc (hp.N + 1)) rfl (zh5 Y.q (by rw [List.length_map]; lia))
      cases hs with
      | nil=>exact .inl ⟨hpx,t,ord,o4,o5,o6,rfl,L,Y⟩
      | cons y r =>
        obtain ⟨o4',o5',o6',hs',hp',g1,g2,g3,g4,g5⟩:=zzl o4 o5 o6 L hH hP Y
        simp only [List.length_cons] at hlen
        refine .inr ⟨hpx,t,.nx,_,hp',g1,.inl ⟨.inl rfl,n - 1,by lia,ord++[y % 8],hs',o4',o5',o6',?_,rfl,g2,g3,g4,g5⟩⟩
        simp only [List.length_append,List.length_cons,List.length_nil]; lia)
    1000 6 (zgy C hp.N none none none) hp3 (by lia) ⟨[],ys,none,none,none,rfl,rfl,Lab.start (hq ▸ h3),h2,h4,X⟩
  have ef:=zhb (i:=3) (loc:=zgy C hp.N o4 o5 o6) rfl w3.o
  refine ⟨ord,_,zdv rfl (zao s1 (zao s2 (zao s3 (zao s4 (zao w1 (zao ef (zb6 (zdp rfl)))))))),w2,?_,fun j hj=>?_⟩
  · have:=w3.n
    simp only [Hp.free]; lia
  · rw [zb8 _ (by lia),w3.up j hj]
end
end Mine
end
section
namespace Mine
structure Strict (A:Nat→Nat→Bool) (r:Nat→Int):Prop where
  tr:∀ i j k,A i j = true→A j k = true→A i k = true
  rk:∀ i j,A i j = true→r i < r j
noncomputable def covK (A:Nat→Nat→Bool) (i j:Nat):Bool:=A i j && !((List.range 6).any fun m=>A i m && A m j)
noncomputable def relB (A:Nat→Nat→Bool) (o:Nat→Nat) (p q:Nat):Bool:=decide (p < 6) && decide (q < 6) && A (o p) (o q)
structure Perm6 (ord:List Nat):Prop where
  nd:ord.Nodup
  len:ord.length = 6
  lt:∀ x∈ord,x < 6
  all:∀ i,i < 6→i∈ord
section
variable {A:Nat→Nat→Bool} {r:Nat→Int} {ord:List Nat}
noncomputable abbrev oOf (ord:List Nat) (p:Nat):Nat:=ord.getD p 0
theorem Perm6.o_lt (h:Perm6 ord) {p:Nat} (hp:p < 6):oOf ord p < 6:=h.lt _ (ziv (by rw [h.len]; exact hp))
theorem Perm6.o_ex (h:Perm6 ord) {i:Nat} (hi:i < 6):∃ p,p < 6∧oOf ord p = i:=by
  obtain ⟨q,h1,h2⟩:=zmr (h.all i hi)
  exact ⟨q,h.len ▸ h1,h2⟩
theorem Perm6.o_inj (h:Perm6 ord) {p q:Nat} (hp:p < 6) (hq:q < 6) (e:oOf ord p = oOf ord q):p = q:=by
  have h1:p < ord.length:=by rw [h.len]; exact hp
  have h2:q < ord.length:=by rw [h.len]; exact hq
  simp only [oOf,List.getD_eq_getElem?_getD,List.getElem?_eq_getElem h1,List.getElem?_eq_getElem h2,Option.getD_some] at e
  have hp:=List.pairwise_iff_getElem.1 h.nd
  rcases Nat.lt_trichotomy p q with g | g | g
  · exact absurd e (hp p q h1 h2 g)
  · exact g
  · exact absurd e.symm (hp q p h2 h1 g)
theorem zjh (S:Strict A r) (L:Lab (covK A) ord []):Perm6 ord:=by
  have all:=L.all r fun i j h=>S.rk i j (by simp only [covK,Bool.and_eq_true] at h; exact h.1)
  refine ⟨L.nd,?_,L.lt,all⟩
  have h1:=zeo 6 _ L.nd L.lt
  have h2:=zn1 (List.range 6) ord List.nodup_range fun x hx=>all x (List.mem_range.1 hx)
  simp only [List.length_range] at h2
  lia
theorem zuy (h:Perm6 ord) {p q:Nat} (hp:p < 6):covP (relB A (oOf ord)) p q = (decide (q < 6) && covK A (oOf ord p) (oOf ord q)):=by
  rw [Bool.eq_iff_iff]
  simp only [covP,covK,relB,Bool.and_eq_true,Bool.not_eq_true',decide_eq_true_eq,List.any_eq_false,List.mem_range,hp,true_and,not_and,Bool.not_eq_true]
  constructor
  · rintro ⟨⟨h1,h2⟩,h3⟩
    refine ⟨h1,h2,fun m hm h4=>?_⟩
    obtain ⟨x,x1,rfl⟩:=h.o_ex hm
    have:=h3 x (mem6.2 x1) ⟨x1,h4⟩
    exact this ⟨x1,h1⟩
  · rintro ⟨h1,h2,h3⟩
    refine ⟨⟨h1,h2⟩,fun m hm h4=>?_⟩
    have hm6:=mem6.1 hm
    have:=h3 (oOf ord m) (h.o_lt hm6) h4.2
    exact fun _=>this
theorem zoi (S:Strict A r) (L:Lab (covK A) ord []):Canon (relB A (oOf ord)):=by
  have h:=zjh S L
  refine ⟨fun p q e=>?_,fun p q s e1 e2=>?_,⟨fun p=>r (oOf ord p),fun p q e=>?_⟩,fun p q e=>?_,fun p hp=>?_⟩
  · simp only [relB,Bool.and_eq_true,decide_eq_true_eq] at e; exact e.1
  · simp only [relB,Bool.and_eq_true,decide_eq_true_eq] at e1 e2 ⊢
    exact ⟨⟨e1.1.1,e2.1.2⟩,S.tr _ _ _ e1.2 e2.2⟩
  · simp only [relB,Bool.and_eq_true,decide_eq_true_eq] at e
    exact S.rk _ _ e.2
  · have hp:p < 6:=by
      have:=zqi e
      simp only [relB,Bool.and_eq_true,decide_eq_true_eq] at this
      exact this.1.1
    rw [zuy h hp] at e
    simp only [Bool.and_eq_true,decide_eq_true_eq] at e
    obtain ⟨q',g1,g2⟩:=L.dn p (by rw [h.len]; exact hp) (oOf ord q) (h.o_lt e.1) e.2
    have:=h.o_inj (by lia) e.1 g2
    lia
  · have key:∀ p,p < 6→zd7 (covP (relB A (oOf ord)) p) 6 = msk (covK A) ord (oOf ord p):=fun p hp=>by
      refine Nat.eq_of_testBit_eq fun q=>?_
      rw [zdm,zge,zuy h hp,h.len]
    rw [key p (by lia),key (p + 1) (by lia)]
    exact L.mo p (by rw [h.len]; lia)
structure PlanOk (B:Nat→Nat→Bool) (P:List (List Nat)):Prop where
  len:P.flatten.length = 6
  all:∀ p,p < 6→p∈P.flatten
  two:∀ h∈P,h.length≤2∧1≤h.length
  up:∀ p q,p < 6→q < 6→B p q = true→zb0 P p < zb0 P q
  cnt:∀ p,p < 6→([0,1,2,3,4,5].filter fun q=>zb0 P q == zb0 P p).length≤2
  hl:∀ p,p < 6→zb0 P p < P.length
  last:∃ p,p < 6∧zb0 P p + 1 = P.length
  mm:mmP (incP B) 6 [5,4,3,2,1,0] + P.length = 6
theorem zla {B:Nat→Nat→Bool} (h:zt4 B = true):PlanOk B (zc2 B 7 []):=by
  simp only [zt4,leafA,leafB,Bool.and_eq_true,beq_iff_eq,List.all_eq_true,decide_eq_true_eq,Bool.or_eq_true,Bool.not_eq_true',List.any_eq_true] at h
  obtain ⟨⟨⟨⟨⟨h1,h2⟩,h3⟩,h4⟩,h5⟩,h6,p0,h7,h8⟩:=h
  refine ⟨h1,fun p hp=>by simpa using h2 p (mem6.2 hp),h3,fun p q hp hq hb=>?_,fun p hp=>(h6 p (mem6.2 hp)).1,fun p hp=>(h6 p (mem6.2 hp)).2,⟨p0,mem6.1 h7,h8⟩,h5⟩
  rcases h4 p (mem6.2 hp) q (mem6.2 hq) with e | e
  · rw [hb] at e; cases e
  · exact e
theorem zzb (h:Perm6 ord):mmP (incP A) 6 [5,4,3,2,1,0] = mmP (incP (relB A (oOf ord))) 6 [5,4,3,2,1,0]:=by
  have m6:∀ {a:Nat},a∈[5,4,3,2,1,0]↔a < 6:=by intro a; simp; lia
  have sym:∀ (B:Nat→Nat→Bool) a b,incP B a b = true→incP B b a = true:=fun B a b e=>by
    simp only [incP,Bool.and_eq_true] at e ⊢; exact ⟨e.2,e.1⟩
  have e:∀ p q,p < 6→q < 6→incP (relB A (oOf ord)) p q = incP A (oOf ord p) (oOf ord q):=fun p q hp hq=>by
    simp [incP,relB,hp,hq]
  have nd:[5,4,3,2,1,0].Nodup:=by decide
  refine Nat.le_antisymm ?_ ?_
  · refine mm_le (fun k=>ord.idxOf k) (fun a ha=>m6.2 ?_) (fun a ha b hb hab=>?_) (fun a ha b hb hg=>?_) (sym _) nd (by simp)
    · rw [← h.len]; exact List.idxOf_lt_length_iff.2 (h.all a (m6.1 ha))
    · have e1:=List.getElem_idxOf (List.idxOf_lt_length_iff.2 (h.all a (m6.1 ha)))
      have e2:=List.getElem_idxOf (List.idxOf_lt_length_iff.2 (h.all b (m6.1 hb)))
      rw [← e1,← e2]
      congr 1
    · have p1:=List.idxOf_lt_length_iff.2 (h.all a (m6.1 ha))
      have p2:=List.idxOf_lt_length_iff.2 (h.all b (m6.1 hb))
      have e1:oOf ord (ord.idxOf a) = a:=by
        simp only [oOf,List.getD_eq_getElem?_getD,List.getElem?_eq_getElem p1,Option.getD_some,List.getElem_idxOf]
      have e2:oOf ord (ord.idxOf b) = b:=by
        simp only [oOf,List.getD_eq_getElem?_getD,List.getElem?_eq_getElem p2,Option.getD_some,List.getElem_idxOf]
      rw [e _ _ (h.len ▸ p1) (h.len ▸ p2),e1,e2]; exact hg
  · refine mm_le (oOf ord) (fun a ha=>m6.2 (h.o_lt (m6.1 ha))) (fun a ha b hb hab=>h.o_inj (m6.1 ha) (m6.1 hb) hab) (fun a ha b hb hg=>?_) (sym _) nd (by simp)
    rw [← e _ _ (m6.1 ha) (m6.1 hb)]; exact hg
end
noncomputable def zg3 (B:Nat→Nat→Bool) (done:List Nat) (p:Nat):Bool:=[0,1,2,3,4,5].all fun q=>!B q p || done.contains q
theorem zfd {B:Nat→Nat→Bool} {done:List Nat} {p:Nat}:zg3 B done p = true↔∀ q,q < 6→B q p = true→q∈done:=by
  simp only [zg3,List.all_eq_true,Bool.or_eq_true,Bool.not_eq_true',List.contains_iff_mem]
  constructor
  · intro h q hq hb
    rcases h q (mem6.2 hq) with e | e
    · rw [hb] at e; cases e
    · exact e
  · intro h q hq
    cases hb:B q p
    · exact .inl rfl
    · exact .inr (h q (mem6.1 hq) hb)
noncomputable def rem6 (done:List Nat):List Nat:=[5,4,3,2,1,0].filter fun p=>!done.contains p
theorem zqa (B:Nat→Nat→Bool) (done:List Nat):zbv B done = (rem6 done).filter (zg3 B done):=by
  rw [rem6,List.filter_filter,zbv]
  refine List.filter_congr fun p _=>?_
  rw [Bool.and_comm]; rfl
theorem zdg {B:Nat→Nat→Bool} {done:List Nat} {p:Nat}:p∈zbv B done↔p < 6∧p ∉ done∧zg3 B done p = true:=by
  rw [zqa,List.mem_filter,rem6,List.mem_filter]
  simp only [Bool.not_eq_true',List.mem_cons,List.not_mem_nil,or_false,← Bool.not_eq_true,List.contains_iff_mem]
  constructor
  · rintro ⟨⟨h1,h2⟩,h3⟩; exact ⟨by lia,h2,h3⟩
  · rintro ⟨h1,h2,h3⟩; exact ⟨⟨by lia,h2⟩,h3⟩
theorem zgl (B:Nat→Nat→Bool) (done:List Nat):(zbv B done).Nodup:=by
  exact List.Pairwise.filter _ (by decide)
theorem zo7 (B:Nat→Nat→Bool) (done:List Nat):(zbv B done).Pairwise (fun a b=>b < a):=by
  refine List.Pairwise.filter _ ?_; decide
theorem zui {F:List Nat} {y:Nat} {r:List Nat} (hs:F.Pairwise fun a b=>b < a) (h6:∀ p∈F,p < 6) (hp:(y ::r).Perm (F.map fun p=>5 - p)) (hm:∀ z∈r,y≤z):∃ F',F = (5 - y) ::F'∧r.Perm (F'.map fun p=>5 - p):=by
  cases F with
  | nil=>have:=hp.length_eq; simp at this
  | cons a F' =>
    rw [List.pairwise_cons] at hs
    have ha:=h6 a (by simp)
    have h1:y∈(a ::F').map fun p=>5 - p:=hp.mem_iff.1 (by simp)
    have h2:5 - a∈y ::r:=hp.mem_iff.2 (by simp)
    have h3:y≤5 - a:=by
      rcases List.mem_cons.1 h2 with e | e
      · lia
      · exact hm _ e
    obtain ⟨b,hb,e⟩:=List.mem_map.1 h1
    have hb6:=h6 b hb
    have e2:y = 5 - a:=by
      rcases List.mem_cons.1 hb with e' | e'
      · subst e'; exact e.symm
      · have:=hs.1 b e'; lia
    refine ⟨F',?_,?_⟩
    · rw [show 5 - y = a by lia]
    · rw [List.map_cons,← e2] at hp
      exact hp.cons_inv
structure PSt (B:Nat→Nat→Bool) (done:List Nat):Prop where
  nd:done.Nodup
  lt:∀ p∈done,p < 6
  cl:∀ p∈done,zg3 B done p = true
theorem PSt.len {B:Nat→Nat→Bool} {done:List Nat} (S:PSt B done):done.length≤6:=zeo 6 _ S.nd S.lt
theorem PSt.full {B:Nat→Nat→Bool} {done:List Nat} (S:PSt B done) (h:6≤done.length):zbv B done = []:=by
  rw [List.eq_nil_iff_forall_not_mem]
  intro p hp
  obtain ⟨h1,h2,_⟩:=zdg.1 hp
  have:=zeo 6 (p ::done) (List.nodup_cons.2 ⟨h2,S.nd⟩) fun x hx=>by
    rcases List.mem_cons.1 hx with rfl | hx
    · exact h1
    · exact S.lt x hx
  simp only [List.length_cons] at this
  lia
theorem zi6 {B:Nat→Nat→Bool} {done h:List Nat} {p:Nat} (e:zg3 B done p = true):zg3 B (done++h) p = true :=
  zfd.2 fun q hq hb=>List.mem_append.2 (.inl (zfd.1 e q hq hb))
theorem PSt.next {B:Nat→Nat→Bool} {done:List Nat} (S:PSt B done) (n:Nat):PSt B (done++(zbv B done).take n):=by
  have sub:∀ p∈(zbv B done).take n,p∈zbv B done:=fun p hp=>List.mem_of_mem_take hp
  refine ⟨?_,fun p hp=>?_,fun p hp=>?_⟩
  · rw [List.nodup_append]
    refine ⟨S.nd,(zgl B done).sublist (List.take_sublist _ _),fun a ha b hb e=>?_⟩
    subst e
    exact (zdg.1 (sub a hb)).2.1 ha
  · rcases List.mem_append.1 hp with h | h
    · exact S.lt p h
    · exact (zdg.1 (sub p h)).1
  · rcases List.mem_append.1 hp with h | h
    · exact zi6 (S.cl p h)
    · exact zi6 (zdg.1 (sub p h)).2.2
noncomputable def newF (B:Nat→Nat→Bool) (done h:List Nat) (p:Nat):Bool:=([0,1,2,3,4,5].any fun q=>B q p && h.contains q) && zg3 B (done++h) p
theorem zjw {B:Nat→Nat→Bool} {done h:List Nat} {p:Nat}:newF B done h p = true↔(∃ q,q < 6∧B q p = true∧q∈h)∧zg3 B (done++h) p = true:=by
  simp only [newF,Bool.and_eq_true,List.any_eq_true,List.contains_iff_mem,mem6]
theorem zs6 {B:Nat→Nat→Bool} {done:List Nat} (S:PSt B done) {Q:List Nat} (hQ:Q.Nodup) (hm:∀ p,p∈Q↔p < 6∧newF B done ((zbv B done).take 2) p = true) :
    ((zbv B done).drop 2++Q).Perm (zbv B (done++(zbv B done).take 2))∧(done++(zbv B done).take 2++((zbv B done).drop 2++Q)).Nodup:=by
  have S':=S.next 2
  have hFnd:=zgl B done
  have hsplit:(zbv B done).take 2++(zbv B done).drop 2 = zbv B done:=List.take_append_drop 2 _
  have hdis:∀ p,p∈(zbv B done).take 2→p ∉ done:=fun p hp=>(zdg.1 (List.mem_of_mem_take hp)).2.1
  have hdt:∀ p,p∈(zbv B done).take 2→p ∉ (zbv B done).drop 2:=fun p h1 h2=>by
    rw [← hsplit,List.nodup_append] at hFnd
    exact hFnd.2.2 p h1 p h2 rfl
  have nr:∀ p,newF B done ((zbv B done).take 2) p = true→zg3 B done p = true→False:=fun p h1 h2=>by
    obtain ⟨⟨q,q1,q2,q3⟩,_⟩:=zjw.1 h1
    exact hdis q q3 (zfd.1 h2 q q1 q2)
  have mD:∀ p,p∈(zbv B done).drop 2→p∈zbv B done:=fun p hp=>List.mem_of_mem_drop hp
  have nd2:((zbv B done).drop 2++Q).Nodup:=by
    rw [List.nodup_append]
    refine ⟨hFnd.sublist (List.drop_sublist _ _),hQ,fun a ha b hb e=>?_⟩
    subst e
    exact nr a ((hm a).1 hb).2 (zdg.1 (mD a ha)).2.2
  have memF':∀ p,p∈(zbv B done).drop 2++Q↔p∈zbv B (done++(zbv B done).take 2):=fun p=>by
    rw [zdg,List.mem_append]
    constructor
    · rintro (h | h)
      · obtain ⟨a,b,c⟩:=zdg.1 (mD p h)
        refine ⟨a,fun hx=>?_,zi6 c⟩
        rcases List.mem_append.1 hx with hx | hx
        · exact b hx
        · exact hdt p hx h
      · obtain ⟨a,b⟩:=(hm p).1 h
        refine ⟨a,fun hx=>?_,(zjw.1 b).2⟩
        rcases List.mem_append.1 hx with hx | hx
        · exact nr p b (S.cl p hx)
        · exact nr p b (zdg.1 (List.mem_of_mem_take hx)).2.2
    · rintro ⟨a,b,c⟩
      by_cases hr:zg3 B done p = true
      · have:p∈zbv B done:=zdg.2 ⟨a,fun hx=>b (List.mem_append.2 (.inl hx)),hr⟩
        rw [← hsplit] at this
        rcases List.mem_append.1 this with h | h
        · exact absurd (List.mem_append.2 (.inr h)) b
        · exact .inl h
      · refine .inr ((hm p).2 ⟨a,zjw.2 ⟨?_,c⟩⟩)
        rw [zfd] at hr
        have:∃ q,q < 6∧B q p = true∧q ∉ done:=Classical.byContradiction fun hne=>hr fun q hq hb=>Classical.byContradiction fun hno=>hne ⟨q,hq,hb,hno⟩
        obtain ⟨q,q1,q2,q3⟩:=this
        exact ⟨q,q1,q2,(List.mem_append.1 (zfd.1 c q q1 q2)).resolve_left q3⟩
  refine ⟨(List.perm_ext_iff_of_nodup nd2 (zgl _ _)).2 memF',?_⟩
  rw [List.nodup_append]
  refine ⟨S'.nd,nd2,fun a ha b hb e=>?_⟩
  subst e
  exact (zdg.1 ((memF' a).1 hb)).2.1 ha
noncomputable def zk9 (f:Nat→Bool):List Nat→List Nat→List Nat→List Nat × List Nat
  | [],h,kept=>(h,kept)
  | p ::r,h,kept=>if h.length < 2∧f p = true then zk9 f r (h++[p]) kept else zk9 f r h (kept++[p])
theorem zie (f:Nat→Bool):∀ h kept,zk9 f [] h kept =
   ((h,kept)):=fun _ _=>rfl
theorem zid (f:Nat→Bool):∀ p r h kept,zk9 f (p ::r) h kept =
   (if h.length < 2∧f p = true then zk9 f r (h++[p]) kept else zk9 f r h (kept++[p])):=fun _ _ _ _=>rfl
theorem zv4 (f:Nat→Bool):∀ (l h kept:List Nat),l.Nodup→h.length≤2→zk9 f l h kept = (h++(l.filter f).take (2 - h.length),kept++l.filter fun p=>!((l.filter f).take (2 - h.length)).contains p):=by
  intro l
  induction l with
  | nil =>
    intro h kept _ _
    simp [zie,zid]
  | cons p r ih =>
    intro h kept hn hh
    rw [List.nodup_cons] at hn
    simp only [zie,zid]
    by_cases hf:f p = true
    · by_cases hl:h.length < 2
      · rw [if_pos ⟨hl,hf⟩,ih (h++[p]) kept hn.2 (by simp; lia)]
        rw [List.filter_cons_of_pos hf]
        have e:2 - h.length = (2 - (h++[p]).length) + 1:=by simp; lia
        rw [e,List.take_succ_cons]
        simp only [List.append_assoc,List.cons_append,List.nil_append,Prod.mk.injEq,true_and]
        congr 1
        rw [List.filter_cons_of_neg (by simp)]
        refine List.filter_congr fun x hx=>?_
        have:x≠p:=fun e=>hn.1 (e ▸ hx)
        simp [this]
      · rw [if_neg (fun h=>hl h.1),ih h (kept++[p]) hn.2 hh]
        have e:2 - h.length = 0:=by lia
        simp [e]
    · rw [if_neg (fun h=>hf h.2),ih h (kept++[p]) hn.2 hh]
      rw [List.filter_cons_of_neg hf]
      simp only [Prod.mk.injEq,true_and]
      rw [List.filter_cons_of_pos]
      · simp
      · simp only [Bool.not_eq_true',← Bool.not_eq_true,List.contains_iff_mem]
        intro hx
        exact hn.1 (List.mem_filter.1 (List.mem_of_mem_take hx)).1
theorem zq2 (B:Nat→Nat→Bool) (done:List Nat):zk9 (zg3 B done) (rem6 done) [] [] = ((zbv B done).take 2,rem6 (done++(zbv B done).take 2)):=by
  have hn:(rem6 done).Nodup:=List.Pairwise.filter _ (by decide)
  rw [zv4 _ _ _ _ hn (by simp),← zqa]
  simp only [List.nil_append,List.length_nil,Nat.sub_zero,Prod.mk.injEq,true_and]
  simp only [rem6,List.filter_filter]
  refine List.filter_congr fun p _=>?_
  rw [Bool.eq_iff_iff]
  simp only [Bool.and_eq_true,Bool.not_eq_true',← Bool.not_eq_true,List.contains_iff_mem,List.mem_append,not_or]
  exact ⟨fun h=>⟨h.2,h.1⟩,fun h=>⟨h.2,h.1⟩⟩
end Mine
end
section
open PySem
namespace Mine
noncomputable def za3 (A:Nat→Nat→Bool):AV:=.fl ((List.range 6).map fun i=>.fl ((List.range 6).map fun j=>.bool (A i j)))
noncomputable def zdr (ord:List Nat):AV:=.fl (ord.map fun j:Nat=>AV.int j)
noncomputable def keyF (ord:List Nat) (c:Nat):AV:=.tup [.int (-((5 - c:Nat):Int)),.int ((oOf ord (5 - c):Nat):Int)]
noncomputable def PF (c:Nat):Prop:=c≤5
theorem zo4 (ord:List Nat):KeyOk (keyF ord) PF where
  lt x y hp hx hy:=by
    have hdeep:zlb 8 (keyF ord x) = true:=rfl
    have hd:(PyData.int (-((5 - x:Nat):Int))).depth≤60:=by simp [PyData.depth]
    have hv:ltV (keyF ord x) (keyF ord y) = some (decide (x < y)):=by
      simp only [keyF,zt2,zt1]
      rw [zp2]
      simp only [zez,ze1,zey,zex,ze0,Option.bind_eq_bind,Option.bind_some]
      rw [if_pos hd]
      simp only [PF] at hx hy
      have he:PyData.eqv (.int (-((5 - x:Nat):Int))) (.int (-((5 - y:Nat):Int))) = decide (x = y):=by
        simp only [PyData.eqv]
        rw [Bool.eq_iff_iff,beq_iff_eq,decide_eq_true_eq]
        lia
      simp only [he]
      by_cases h:x = y
      · subst h
        rw [if_pos (decide_eq_true rfl),ztz]
        congr 1
        apply decide_eq_decide.2
        lia
      · rw [if_neg (by simpa using h)]
        simp only [zt2,zt1]
        congr 1
        apply decide_eq_decide.2
        lia
    simp only [ltT,if_pos hdeep,hv,Option.map_some]
theorem zzr (k:Nat):∀ (l:List Nat),k∈l→idxL (.int k) (l.map fun j:Nat=>AV.int j) = some (l.idxOf k):=by
  intro l
  induction l with
  | nil =>
    intro h
    simp at h
  | cons a l ih =>
    intro h
    rw [List.map_cons,zo5,eqS_i]
    by_cases e:a = k
    · subst e
      have:(l.map fun j:Nat=>AV.int j).all (fun z=>(eqS z (.int a)).isSome) = true:=by
        rw [List.all_eq_true]; intro x hx; obtain ⟨b,_,rfl⟩:=List.mem_map.1 hx; rfl
      simp [this]
    · have h2:k∈l:=(List.mem_cons.1 h).resolve_left (fun e'=>e e'.symm)
      have h3:((a:Int) == (k:Int)) = false:=by simp; lia
      simp only [h3,ih h2,Option.map_some]
      rw [List.idxOf_cons,show (a == k) = false by simpa using e]
      rfl
theorem zws {ord:List Nat} {k:Nat} (h:k∈ord) (hl:ord.length≤6) (hp:Hp):zgz [zdr ord,.int k] hp = some (.int (ord.idxOf k),hp):=by
  have h1:=List.idxOf_lt_length_iff.2 h
  have h2:ord.idxOf k < 1000000:=Nat.lt_of_lt_of_le (Nat.lt_of_lt_of_le h1 hl) (by decide)
  exact bE (zzr k ord h) (if_pos h2)
section
variable {A:Nat→Nat→Bool} {ord:List Nat}
theorem Perm6.o_idx (h:Perm6 ord) {k:Nat} (hk:k < 6):oOf ord (ord.idxOf k) = k:=by
  have h1:=List.idxOf_lt_length_iff.2 (h.all k hk)
  simp only [oOf,List.getD_eq_getElem?_getD,List.getElem?_eq_getElem h1,Option.getD_some,List.getElem_idxOf]
theorem Perm6.idx_o (h:Perm6 ord) {p:Nat} (hp:p < 6):ord.idxOf (oOf ord p) = p:=by
  have h1:=List.idxOf_lt_length_iff.2 (h.all _ (h.o_lt hp))
  exact h.o_inj (by rw [← h.len]; exact h1) hp (h.o_idx (h.o_lt hp))
theorem Perm6.idx_lt (h:Perm6 ord) {k:Nat} (hk:k < 6):ord.idxOf k < 6:=by rw [← h.len]; exact List.idxOf_lt_length_iff.2 (h.all k hk)
theorem zxz (h:Perm6 ord) {k:Nat} (hk:k < 6) {m1 m2:ME} {loc:Loc} {hp:Hp} (h1:m1 loc hp = some (zdr ord,hp)) (h2:m2 loc hp = some (.int k,hp)) :
    tupE (zac (una negA (zcc "list" zgz m1 (zac m2 zaf))) (zac m2 zaf)) loc hp = some (keyF ord (5 - ord.idxOf k),hp):=by
  have hi:=h.idx_lt hk
  have e:keyF ord (5 - ord.idxOf k) = .tup [.int (-((ord.idxOf k:Nat):Int)),.int k]:=by
    rw [keyF,show 5 - (5 - ord.idxOf k) = ord.idxOf k by lia,h.o_idx hk]
  rw [e]
  exact zgr (zai (una_eq (zc8 h1 rfl (zai h2 rfl) (zws (h.all k hk) (by rw [h.len]; lia) hp)) rfl) (zai h2 rfl)) (by simp)
noncomputable def befK (A:Nat→Nat→Bool) (k:Nat):List Nat:=(List.range 6).filter fun i=>A i k
theorem zga {m1 m2 m3:ME} {loc:Loc} {hp:Hp} {i k:Nat} (hi:i < 6) (hk:k < 6) (h1:m1 loc hp = some (za3 A,hp)) (h2:m2 loc hp = some (.int i,hp)) (h3:m3 loc hp = some (.int k,hp)) :
    bin zaq (bin zaq m1 m2) m3 loc hp = some (.bool (A i k),hp) :=
  zam (zam h1 h2 (zc3 (xs:=(List.range 6).map fun i=>.fl ((List.range 6).map fun j=>.bool (A i j))) (by lia) (zck _ hi))) h3 (zc3 (by lia) (zck _ hk))
theorem zif {m:ME} {loc:Loc} {hp:Hp} (h:m loc hp = some (.rng 0 ((6:Nat):Int),hp)):valI m loc hp = some ((List.range 6).map fun i:Nat=>AV.int (i:Int),hp):=zb5 h (zbs (b:=6) (by lia))
theorem zgw (l:List Nat) (hp:Hp):eqA (.fl (l.map fun j:Nat=>AV.int j)) (.fl []) hp = some (.bool (decide (l = [])),hp):=by
  have eb:=zm5 (zd5 (fun j:Nat=>AV.int j) (fun j:Nat=>PyData.int j) (fun _=>rfl) l) (by intro d hd; obtain ⟨p,_,rfl⟩:=List.mem_map.1 hd; simp [PyData.depth])
  simp only [eqA,eb,Option.map_some,List.map_eq_nil_iff]
theorem zhu (l:List Nat) (hp:Hp):neA (.fl (l.map fun j:Nat=>AV.int j)) (.fl []) hp = some (.bool (!decide (l = [])),hp):=by
  have eb:=zm5 (zd5 (fun j:Nat=>AV.int j) (fun j:Nat=>PyData.int j) (fun _=>rfl) l) (by intro d hd; obtain ⟨p,_,rfl⟩:=List.mem_map.1 hd; simp [PyData.depth])
  simp only [neA,eb,Option.map_some,List.map_eq_nil_iff]
theorem zig (loc:Loc) (hp:Hp):flz (lstE zaf) loc hp = some (.fl [],hp):=zbw (zc9 (xs:=[]) rfl (by simp))
noncomputable def zaw (ord:List Nat) (h:List Nat):AV:=.fl ((h.map (oOf ord)).map fun j:Nat=>AV.int j)
theorem zij (h:Perm6 ord) {q:Nat} {l:List Nat} (hq:q < 6) (hl:∀ p∈l,p < 6):oOf ord q∈l.map (oOf ord)↔q∈l:=by
  rw [List.mem_map]
  constructor
  · rintro ⟨p,h1,h2⟩
    rw [← h.o_inj (hl p h1) hq h2]; exact h1
  · intro hx; exact ⟨q,hx,rfl⟩
theorem zwz (h:Perm6 ord) {p:Nat} (hp:p < 6) {done hr:List Nat} (hd:∀ p∈done++hr,p < 6) :
    ((!decide ((befK A (oOf ord p)).filter (fun i=>decide (i∈hr.map (oOf ord))) = [])) && (decide ((befK A (oOf ord p)).filter (fun i=>!decide (i∈(done++hr).map (oOf ord))) = []) && true)) = newF (relB A (oOf ord)) done hr p:=by
  have hh:∀ p∈hr,p < 6:=fun q hq=>hd q (List.mem_append.2 (.inr hq))
  rw [Bool.eq_iff_iff,zjw,zfd,Bool.and_true,Bool.and_eq_true,Bool.not_eq_true',decide_eq_false_iff_not,decide_eq_true_iff,List.filter_eq_nil_iff,List.filter_eq_nil_iff]
  simp only [Bool.not_eq_true',decide_eq_false_iff_not,decide_eq_true_eq,befK,List.mem_filter,List.mem_range,Classical.not_not]
  have rel:∀ q,q < 6→(relB A (oOf ord) q p = true↔A (oOf ord q) (oOf ord p) = true):=fun q hq=>by simp only [relB,hq,hp,decide_true,Bool.true_and]
  constructor
  · rintro ⟨h1,h2⟩
    refine ⟨?_,fun q hq hb=>?_⟩
    · have:∃ i,(i < 6∧A i (oOf ord p) = true)∧i∈hr.map (oOf ord):=Classical.byContradiction fun hne=>h1 fun i hi hm=>hne ⟨i,hi,hm⟩
      obtain ⟨i,⟨i1,i2⟩,i3⟩:=this
      obtain ⟨q,q1,rfl⟩:=List.mem_map.1 i3
      exact ⟨q,hh q q1,(rel q (hh q q1)).2 i2,q1⟩
    · exact (zij h hq hd).1 (h2 (oOf ord q) ⟨h.o_lt hq,(rel q hq).1 hb⟩)
  · rintro ⟨⟨q,q1,q2,q3⟩,h2⟩
    refine ⟨fun h1=>h1 (oOf ord q) ⟨h.o_lt q1,(rel q q1).1 q2⟩ (List.mem_map.2 ⟨q,q3,rfl⟩),fun i hi=>?_⟩
    obtain ⟨x,x1,rfl⟩:=h.o_ex hi.1
    exact (zij h x1 hd).2 (h2 x x1 ((rel x x1).2 hi.2))
structure PHp (ord:List Nat) (hp0 hp:Hp) (Q:Nat) (hs:List Nat) (plan:List (List Nat)):Prop where
  q:hp.H Q = some (.list (hs.map (keyF ord)))
  w:hp.H (Q + 1) = some (.list (plan.map (zaw ord)))
  n:Q + 1 < hp.N
  up:∀ j,j < Q→hp.H j = hp0.H j
noncomputable abbrev zda (A:Nat→Nat→Bool) (ord:List Nat) (Q:Nat) (x5 x6 x7 x8:Option AV):Loc:=[some (za3 A),some (zdr ord),some (.rng 0 ((6:Nat):Int)),some (.loc Q),some (.loc (Q + 1)),x5,x6,x7,x8]
noncomputable def phIn:MS:=seqS (asgS (flz (zbo 1 [0,7] (valI (lcl 2)) (stE 0) (tru (bin zaq (bin zaq (lcl 1) (lcl 0)) (lcl 2))) (lcl 0))) (stE 8)) (seqS (iteS (andB (tru (bin neA (flz (zbo 1 [6] (valI (lcl 8)) (stE 0) (tru (bin inA (lcl 0) (lcl 1))) (lcl 0))) (flz (lstE zaf)))) (andB (tru (bin eqA (flz (zbo 1 [5] (valI (lcl 8)) (stE 0) (tru (bin niA (lcl 0) (lcl 1))) (lcl 0))) (flz (lstE zaf)))) (cstB true))) (seqS (zcl (zas ze5 (zac (lcl 3) (zac (tupE (zac (una negA (zcc "list" zgz (lcl 1) (zac (lcl 7) zaf))) (zac (lcl 7) zaf))) zaf)))) nilS) nilS) nilS)
theorem zz6 (A:Nat→Nat→Bool) (k:Nat):(befK A k).length≤6:=Nat.le_trans (List.length_filter_le _ _) (by simp)
inductive ph_stepR (A:Nat→Nat→Bool) (ord:List Nat) (hp0:Hp) (hp:Hp) (Q:Nat) (k:Nat) (hs:List Nat) (done:List Nat) (hr:List Nat) (b:Bool) (plan:List (List Nat)) (x8:Option AV):Prop
  | mk (x8':Option AV) (hs':List Nat) (hp':Hp) (q1:phIn (zda A ord Q (some (zaw ord (done++hr))) (some (zaw ord hr)) (some (.int k)) x8) hp = some (.nx,zda A ord Q (some (zaw ord (done++hr))) (some (zaw ord hr)) (some (.int k)) x8',hp')) (q2:hs'.Perm (if b then (5 - ord.idxOf k) ::hs else hs)) (q3:zec hs') (q4:AllP PF hs') (q5:PHp ord hp0 hp' Q hs' plan):ph_stepR A ord hp0 hp Q k hs done hr b plan x8
theorem zyz (h:Perm6 ord) {hp0 hp:Hp} {Q k:Nat} {hs done hr:List Nat} {plan:List (List Nat)} (hk:k < 6) (hd:∀ p∈done++hr,p < 6) (hH:zec hs) (hP:AllP PF hs) (hl:hs.length≤5) (X:PHp ord hp0 hp Q hs plan) (x8:Option AV):ph_stepR A ord hp0 hp Q k hs done hr (newF (relB A (oOf ord)) done hr (ord.idxOf k)) plan x8:=by
  have hb:=zz6 A k
  have c1:=zd2 (fun i:Nat=>AV.int (i:Int)) (fun i=>A i k) (fun i=>AV.int (i:Int)) (tests:=tru (bin zaq (bin zaq (lcl 1) (lcl 0)) (lcl 2))) (elt:=lcl 0) (frees:=[0,7]) (loc:=zda A ord Q (some (zaw ord (done++hr))) (some (zaw ord hr)) (some (.int k)) x8) (ite:=valI (lcl 2)) (hp:=hp)
    (List.range 6) (zif rfl) (by simp) (fun i hi=>⟨zb2 (zga (List.mem_range.1 hi) hk rfl rfl rfl),fun _=>rfl⟩)
  have s1:asgS (flz (zbo 1 [0,7] (valI (lcl 2)) (stE 0) (tru (bin zaq (bin zaq (lcl 1) (lcl 0)) (lcl 2))) (lcl 0))) (stE 8) (zda A ord Q (some (zaw ord (done++hr))) (some (zaw ord hr)) (some (.int k)) x8) hp = some (.nx,zda A ord Q (some (zaw ord (done++hr))) (some (zaw ord hr)) (some (.int k)) (some (.fl ((befK A k).map fun i:Nat=>AV.int i))),hp) :=
    zaz (zbw c1) rfl
  have c2:=zd2 (fun i:Nat=>AV.int (i:Int)) (fun i=>decide (i∈hr.map (oOf ord))) (fun i=>AV.int (i:Int)) (tests:=tru (bin inA (lcl 0) (lcl 1))) (elt:=lcl 0) (frees:=[6]) (loc:=zda A ord Q (some (zaw ord (done++hr))) (some (zaw ord hr)) (some (.int k)) (some (.fl ((befK A k).map fun i:Nat=>AV.int i)))) (ite:=valI (lcl 8)) (hp:=hp)
    (befK A k) rfl (by lia) (fun i hi=>⟨zb2 (zam rfl rfl (zmw i (hr.map (oOf ord)) hp)),fun _=>rfl⟩)
  have c3:=zd2 (fun i:Nat=>AV.int (i:Int)) (fun i=>!decide (i∈(done++hr).map (oOf ord))) (fun i=>AV.int (i:Int)) (tests:=tru (bin niA (lcl 0) (lcl 1))) (elt:=lcl 0) (frees:=[5]) (loc:=zda A ord Q (some (zaw ord (done++hr))) (some (zaw ord hr)) (some (.int k)) (some (.fl ((befK A k).map fun i:Nat=>AV.int i)))) (ite:=valI (lcl 8)) (hp:=hp)
    (befK A k) rfl (by lia) (fun i hi=>⟨zb2 (zam rfl rfl (zpz i ((done++hr).map (oOf ord)) hp)),fun _=>rfl⟩)
  have t:=zlg (zb2 (zam (zbw c2) (zig _ hp) (zhu _ hp))) (zlg (zb2 (zam (zbw c3) (zig _ hp) (zgw _ hp))) (show cstB true _ hp = some (true,hp) from rfl))
  have hcn:=zwz (A:=A) h (h.idx_lt hk) hd
  rw [h.o_idx hk] at hcn
  rw [hcn] at t
  cases hn:newF (relB A (oOf ord)) done hr (ord.idxOf k)
  · rw [hn] at t
    exact ⟨_,hs,hp,zao s1 (za2 (zdb t rfl)),.refl _,hH,hP,X⟩
  · rw [hn] at t
    have hi:=h.idx_lt hk
    obtain ⟨ys,p1,p2,p3,p4⟩:=ztf (zo4 ord) X.q hP (x:=5 - ord.idxOf k) (by simp only [PF]; lia) hH hl
    exact ⟨_,ys,_,zao s1 (za2 (zfi t (za2 (zcu (zav (zai rfl (zai (zxz h hk rfl rfl) rfl)) p1))))),p3,p2,p4,
      ⟨zcb _ _ _,by rw [za1 _ _ (by lia),X.w],X.n,fun j hj=>by rw [za1 _ _ (by lia),X.up j hj]⟩⟩
end
section
variable {A:Nat→Nat→Bool} {ord:List Nat}
noncomputable def newQ (B:Nat→Nat→Bool) (ord done hr:List Nat) (s:Nat):List Nat:=((List.range s).filter fun k=>newF B done hr (ord.idxOf k)).map fun k=>ord.idxOf k
theorem zn2 (B:Nat→Nat→Bool) (ord done hr:List Nat) (s:Nat):newQ B ord done hr (s + 1) = newQ B ord done hr s++(if newF B done hr (ord.idxOf s) then [ord.idxOf s] else []):=by
  rw [newQ,List.range_succ,List.filter_append,List.map_append,newQ]
  congr 1
  by_cases hc:newF B done hr (ord.idxOf s) = true
  · rw [if_pos hc,List.filter_cons_of_pos (by simpa using hc)]; rfl
  · rw [if_neg hc,List.filter_cons_of_neg (by simpa using hc)]; rfl
theorem zwd (B:Nat→Nat→Bool) (ord done hr:List Nat):∀ (n s:Nat),(newQ B ord done hr s).length≤(newQ B ord done hr (s + n)).length:=by
  intro n
  induction n with
  | zero =>
    intro s
    exact Nat.le_refl _
  | succ n ih =>
    intro s
    refine Nat.le_trans (ih s) ?_
    rw [← Nat.add_assoc,zn2,List.length_append]
    exact Nat.le_add_right _ _
theorem zwc (h:Perm6 ord) (B:Nat→Nat→Bool) (done hr:List Nat) (p:Nat):p∈newQ B ord done hr 6↔p < 6∧newF B done hr p = true:=by
  rw [newQ,List.mem_map]
  constructor
  · rintro ⟨k,hk,rfl⟩
    have:=List.mem_filter.1 hk
    exact ⟨h.idx_lt (List.mem_range.1 this.1),this.2⟩
  · rintro ⟨h1,h2⟩
    exact ⟨oOf ord p,List.mem_filter.2 ⟨List.mem_range.2 (h.o_lt h1),by rw [h.idx_o h1]; exact h2⟩,h.idx_o h1⟩
theorem zy9 (h:Perm6 ord) (B:Nat→Nat→Bool) (done hr:List Nat):(newQ B ord done hr 6).Nodup:=by
  refine zfe (List.Pairwise.filter _ List.nodup_range) fun a ha b hb e=>?_
  have ha:=List.mem_range.1 (List.mem_filter.1 ha).1
  have hb:=List.mem_range.1 (List.mem_filter.1 hb).1
  rw [← h.o_idx ha,← h.o_idx hb,e]
theorem zy0 (h:Perm6 ord) (hp0:Hp) (Q:Nat) (done hr:List Nat) (hd:∀ p∈done++hr,p < 6) (plan:List (List Nat)) (rest:List Nat) (hl:(rest++newQ (relB A (oOf ord)) ord done hr 6).length≤5) :
    ∀ (n s:Nat) (hs:List Nat) (x7 x8:Option AV) (hp:Hp),s + n = 6→hs.Perm ((rest++newQ (relB A (oOf ord)) ord done hr s).map fun p=>5 - p)→zec hs→AllP PF hs→PHp ord hp0 hp Q hs plan→
    ∃ (x7' x8':Option AV) (hs':List Nat) (hp':Hp),forM (stE 7) phIn ((List.range' s n).map fun i:Nat=>AV.int (i:Int)) (zda A ord Q (some (zaw ord (done++hr))) (some (zaw ord hr)) x7 x8) hp = some (.nx,zda A ord Q (some (zaw ord (done++hr))) (some (zaw ord hr)) x7' x8',hp')∧
      hs'.Perm ((rest++newQ (relB A (oOf ord)) ord done hr 6).map fun p=>5 - p)∧zec hs'∧AllP PF hs'∧PHp ord hp0 hp' Q hs' plan:=by
  intro n
  induction n with
  | zero =>
    intro s hs x7 x8 hp hsn hp1 hH hP X
    have:s = 6:=by lia
    subst this
    exact ⟨x7,x8,hs,hp,rfl,hp1,hH,hP,X⟩
  | succ n ih =>
    intro s hs x7 x8 hp hsn hp1 hH hP X
    have hlen:hs.length≤5:=by
      have e1:=hp1.length_eq
      have e2:=zwd (relB A (oOf ord)) ord done hr (n + 1) s
      rw [hsn] at e2
      simp only [List.length_map,List.length_append] at e1 hl
      lia
    obtain ⟨x8',hs1,hp',g1,g2,g3,g4,g5⟩:=zyz (A:=A) h (k:=s) (by lia) hd hH hP hlen X x8
    have es:stE 7 (.int (s:Int)) (zda A ord Q (some (zaw ord (done++hr))) (some (zaw ord hr)) x7 x8) hp = some (zda A ord Q (some (zaw ord (done++hr))) (some (zaw ord hr)) (some (.int s)) x8,hp):=rfl
    have hperm:hs1.Perm ((rest++newQ (relB A (oOf ord)) ord done hr (s + 1)).map fun p=>5 - p):=by
      refine g2.trans ?_
      rw [zn2]
      cases newF (relB A (oOf ord)) done hr (ord.idxOf s)
      · simp only [Bool.false_eq_true,if_false,List.append_nil]; exact hp1
      · simp only [if_true]
        rw [← List.append_assoc,List.map_append]
        refine (List.Perm.cons _ hp1).trans ?_
        exact (List.perm_append_singleton _ _).symm
    obtain ⟨x7',x8'',hs',hp'',k1,k2⟩:=ih (s + 1) hs1 (some (.int s)) x8' hp' (by lia) hperm g3 g4 g5
    exact ⟨x7',x8'',hs',hp'',zeh es g1 k1,k2⟩
noncomputable def popH:ME:=bin zaq (zas zfg (zac (lcl 3) zaf)) (cst (.int 1))
noncomputable def b1:MS:=asgS (lcz (lstE (zac popH zaf))) (stE 6)
noncomputable def b2:MS:=iteS (tru (lcl 3)) (seqS (zcl (zcc "list" zca (lcl 6) (zac popH zaf))) nilS) nilS
noncomputable def znz:MS:=seqS b1 (seqS b2 (seqS (frzS 6) (seqS (asgS (flz (catL (lcl 5) (lcl 6))) (stE 5)) (seqS (zcl (zcc "list" zca (lcl 4) (zac (lcl 6) zaf))) (seqS (forS (valI (lcl 2)) (stE 7) phIn) nilS)))))
theorem ph_def:zb4 = runF 2 9 (seqS (asgS (zas zbh (zac (zas lenF (zac (lcl 1) zaf)) zaf)) (stE 2)) (seqS (asgS (lcz (zbo 1 [0,1,2] (valI (lcl 2)) (stE 0) (tru (bin eqA (flz (zbo 1 [0,1] (valI (lcl 3)) (stE 0) (tru (bin zaq (bin zaq (lcl 2) (lcl 0)) (lcl 1))) (lcl 0))) (flz (lstE zaf)))) (tupE (zac (una negA (zcc "list" zgz (lcl 2) (zac (lcl 0) zaf))) (zac (lcl 0) zaf))))) (stE 3)) (seqS (zcl (zas zf1 (zac (lcl 3) zaf))) (seqS (asgS (lcz (lstE zaf)) (stE 4)) (seqS (asgS (flz (lstE zaf)) (stE 5)) (seqS (zcd (tru (lcl 3)) znz 1000) (seqS (frzS 4) (seqS (retS (lcl 4)) nilS)))))))):=rfl
inductive popH_eqR (A:Nat→Nat→Bool) (ord:List Nat) (hp0:Hp) (hp:Hp) (Q:Nat) (y:Nat) (r:List Nat) (plan:List (List Nat)) (x5:Option AV) (x6:Option AV) (x7:Option AV) (x8:Option AV):Prop
  | mk (ys:List Nat) (q1:popH (zda A ord Q x5 x6 x7 x8) hp = some (.int ((oOf ord (5 - y):Nat):Int),hp.put Q (.list (ys.map (keyF ord))))) (q2:zec ys) (q3:ys.Perm r) (q4:AllP PF ys) (q5:(∀ z∈r,y≤z)) (q6:PHp ord hp0 (hp.put Q (.list (ys.map (keyF ord)))) Q ys plan):popH_eqR A ord hp0 hp Q y r plan x5 x6 x7 x8
theorem zti (h:Perm6 ord) {hp0 hp:Hp} {Q y:Nat} {r:List Nat} {plan:List (List Nat)} (hH:zec (y ::r)) (hP:AllP PF (y ::r)) (hl:(y ::r).length≤6) (X:PHp ord hp0 hp Q (y ::r) plan) (x5 x6 x7 x8:Option AV):popH_eqR A ord hp0 hp Q y r plan x5 x6 x7 x8:=by
  obtain ⟨ys,p1,p2,p3,p4,p5⟩:=zxq (zo4 ord) X.q hP hH hl
  exact ⟨ys,zam (zav (zai rfl rfl) p1) rfl (znj (i:=1) (by lia) rfl),p2,p3,p4,p5,⟨zcb _ _ _,by rw [za1 _ _ (by lia),X.w],X.n,fun j hj=>by rw [za1 _ _ (by lia),X.up j hj]⟩⟩
inductive ph_hourR (A:Nat→Nat→Bool) (ord:List Nat) (F:List Nat) (hp0:Hp) (hp:Hp) (Q:Nat) (plan:List (List Nat)) (x5:Option AV) (x6:Option AV) (x7:Option AV) (x8:Option AV):Prop
  | mk (x6':Option AV) (hp1:Hp) (hp2:Hp) (hp3:Hp) (hs2:List Nat) (q1:b1 (zda A ord Q x5 x6 x7 x8) hp = some (.nx,zda A ord Q x5 x6' x7 x8,hp1)) (q2:b2 (zda A ord Q x5 x6' x7 x8) hp1 = some (.nx,zda A ord Q x5 x6' x7 x8,hp2)) (q3:frzS 6 (zda A ord Q x5 x6' x7 x8) hp2 = some (.nx,zda A ord Q x5 (some (zaw ord (F.take 2))) x7 x8,hp3)) (q4:hs2.Perm ((F.drop 2).map fun p=>5 - p)) (q5:zec hs2) (q6:AllP PF hs2) (q7:PHp ord hp0 hp3 Q hs2 plan):ph_hourR A ord F hp0 hp Q plan x5 x6 x7 x8
theorem zy1 (h:Perm6 ord) {B:Nat→Nat→Bool} {done:List Nat} {hp0 hp:Hp} {Q:Nat} {hs:List Nat} {plan:List (List Nat)} (hne:hs≠[]) (hperm:hs.Perm ((zbv B done).map fun p=>5 - p)) (hH:zec hs) (hP:AllP PF hs) (X:PHp ord hp0 hp Q hs plan) (x5 x6 x7 x8:Option AV):ph_hourR A ord (zbv B done) hp0 hp Q plan x5 x6 x7 x8:=by
  have h6:∀ p∈zbv B done,p < 6:=fun p hp=>(zdg.1 hp).1
  have hsort:=zo7 B done
  generalize zbv B done = F at *
  obtain ⟨y,r,rfl⟩:∃ y r,hs = y ::r:=by
    cases hs with
    | nil=>exact absurd rfl hne
    | cons y r=>exact ⟨y,r,rfl⟩
  have hFl:F.length≤6:=zeo 6 F (hsort.imp fun h e=>by lia) h6
  have hl:(y ::r).length≤6:=by have:=hperm.length_eq; rw [List.length_map] at this; lia
  obtain ⟨ys,p1,p2,p3,p4,p5,p6⟩:=zti (A:=A) h hH hP hl X x5 x6 x7 x8
  obtain ⟨F',rfl,f2⟩:=zui hsort h6 hperm p5
  have s1:b1 (zda A ord Q x5 x6 x7 x8) hp = some (.nx,zda A ord Q x5 (some (.loc hp.N)) x7 x8,(hp.put Q (.list (ys.map (keyF ord)))).new (.list [.int ((oOf ord (5 - y):Nat):Int)])) :=
    zaz (zfl (zc9 (zai p1 rfl) (by simp))) rfl
  have hN:=p6.n
  rw [zf3] at hN
  have X1:PHp ord hp0 ((hp.put Q (.list (ys.map (keyF ord)))).new (.list [.int ((oOf ord (5 - y):Nat):Int)])) Q ys plan :=
    ⟨by rw [zct _ _ (by rw [zf3]; lia),p6.q],by rw [zct _ _ (by rw [zf3]; lia),p6.w],by rw [zi7,zf3]; lia,fun j hj=>by rw [zct _ _ (by rw [zf3]; lia),p6.up j hj]⟩
  have hNew:((hp.put Q (.list (ys.map (keyF ord)))).new (.list [.int ((oOf ord (5 - y):Nat):Int)])).H hp.N = some (.list [.int ((oOf ord (5 - y):Nat):Int)]):=zfr (hp.put Q (.list (ys.map (keyF ord)))) _
  generalize (hp.put Q (.list (ys.map (keyF ord)))).new (.list [.int ((oOf ord (5 - y):Nat):Int)]) = hp1 at *
  have frame:∀ hp2,PHp ord hp0 hp2 Q ys plan→PHp ord hp0 (hp2.free hp.N) Q ys plan:=fun hp2 Y =>
    ⟨by rw [zb8 _ (by lia),Y.q],by rw [zb8 _ (by lia),Y.w],Y.n,fun j hj=>by rw [zb8 _ (by lia),Y.up j hj]⟩
  have t:=zh4 (m:=lcl 3) (loc:=zda A ord Q x5 (some (.loc hp.N)) x7 x8) (x:=.loc Q) rfl (zh5 X1.q (by rw [List.length_map,p3.length_eq]; simp only [List.length_cons] at hl; lia))
  cases ys with
  | nil =>
    have hr:r = []:=p3.symm.eq_nil
    subst hr
    have hF':F' = []:=by have:=f2.length_eq; simp only [List.length_nil,List.length_map] at this; exact List.length_eq_zero_iff.1 this.symm
    subst hF'
    exact ⟨_,hp1,hp1,_,[],s1,zdb t rfl,zhb rfl hNew,.refl _,p2,p4,frame _ X1⟩
  | cons y2 r2 =>
    obtain ⟨zs,q1,q2,q3,q4,q5,q6⟩:=zti (A:=A) h p2 p4 (by rw [p3.length_eq]; simp only [List.length_cons] at hl; lia) X1 x5 (some (.loc hp.N)) x7 x8
    have hsort':=(List.pairwise_cons.1 hsort).2
    obtain ⟨F2,rfl,f4⟩:=zui hsort' (fun p hp=>h6 p (by simp [hp])) (p3.trans f2) q5
    have hNew2:(hp1.put Q (.list (zs.map (keyF ord)))).H hp.N = some (.list [.int ((oOf ord (5 - y):Nat):Int)]):=by rw [za1 _ _ (by lia),hNew]
    have ea:=zdz (.int ((oOf ord (5 - y2):Nat):Int)) hNew2 (by simp)
    have s2:b2 (zda A ord Q x5 (some (.loc hp.N)) x7 x8) hp1 = some (.nx,zda A ord Q x5 (some (.loc hp.N)) x7 x8,(hp1.put Q (.list (zs.map (keyF ord)))).put hp.N (.list ([.int ((oOf ord (5 - y):Nat):Int)]++[.int ((oOf ord (5 - y2):Nat):Int)]))) :=
      zfi t (za2 (zcu (zc8 rfl (zd0 hNew) (zai q1 rfl) ea)))
    have X2:PHp ord hp0 ((hp1.put Q (.list (zs.map (keyF ord)))).put hp.N (.list ([.int ((oOf ord (5 - y):Nat):Int)]++[.int ((oOf ord (5 - y2):Nat):Int)]))) Q zs plan :=
      ⟨by rw [za1 _ _ (by lia),q6.q],by rw [za1 _ _ (by lia),q6.w],q6.n,fun j hj=>by rw [za1 _ _ (by lia),q6.up j hj]⟩
    refine ⟨_,hp1,_,_,zs,s1,s2,zhb rfl (zcb _ _ _),q3.trans f4,q2,q4,?_⟩
    exact ⟨by rw [zb8 _ (by lia),X2.q],by rw [zb8 _ (by lia),X2.w],X2.n,fun j hj=>by rw [zb8 _ (by lia),X2.up j hj]⟩
end
section
variable {A:Nat→Nat→Bool} {ord:List Nat}
theorem zlz {done hr:List Nat} (hl:done.length≤100) (hl2:hr.length≤100) {m1 m2:ME} {loc:Loc} {hp:Hp} (h1:m1 loc hp = some (zaw ord done,hp)) (h2:m2 loc hp = some (zaw ord hr,hp)):flz (catL m1 m2) loc hp = some (zaw ord (done++hr),hp):=by
  have e:zaw ord (done++hr) = .fl (((done.map (oOf ord)).map fun j:Nat=>AV.int j)++((hr.map (oOf ord)).map fun j:Nat=>AV.int j)):=by
    simp only [zaw,List.map_append]
  rw [e]
  exact zbw (zu6 h1 h2 rfl rfl (by simp only [List.length_map]; lia))
theorem zys:(List.range 6).map (fun i:Nat=>AV.int (i:Int)) = (List.range' 0 6).map (fun i:Nat=>AV.int (i:Int)):=rfl
inductive ph_roundR (A:Nat→Nat→Bool) (ord:List Nat) (done H:List Nat) (hp0:Hp) (hp:Hp) (Q:Nat) (plan:List (List Nat)) (x6:Option AV) (x7:Option AV) (x8:Option AV):Prop
  | mk (x6':Option AV) (x7':Option AV) (x8':Option AV) (hs':List Nat) (hp':Hp) (q1:znz (zda A ord Q (some (zaw ord done)) x6 x7 x8) hp = some (.nx,zda A ord Q (some (zaw ord (done++H))) x6' x7' x8',hp')) (q2:hs'.Perm ((zbv (relB A (oOf ord)) (done++H)).map fun p=>5 - p)) (q3:zec hs') (q4:AllP PF hs') (q5:PHp ord hp0 hp' Q hs' (plan++[H])):ph_roundR A ord done H hp0 hp Q plan x6 x7 x8
theorem zwa (h:Perm6 ord) {done:List Nat} (S:PSt (relB A (oOf ord)) done) {hp0 hp:Hp} {Q:Nat} {hs:List Nat} {plan:List (List Nat)} (hpl:plan.length≤100) (hne:hs≠[]) (hperm:hs.Perm ((zbv (relB A (oOf ord)) done).map fun p=>5 - p)) (hH:zec hs) (hP:AllP PF hs) (X:PHp ord hp0 hp Q hs plan) (x6 x7 x8:Option AV):ph_roundR A ord done ((zbv (relB A (oOf ord)) done).take 2) hp0 hp Q plan x6 x7 x8:=by
  obtain ⟨x6',hp1,hp2,hp3,hs2,s1,s2,s3,p1,p2,p3,Y⟩:=zy1 (A:=A) h hne hperm hH hP X (some (zaw ord done)) x6 x7 x8
  obtain ⟨r1,r2⟩:=zs6 S (zy9 h (relB A (oOf ord)) done ((zbv (relB A (oOf ord)) done).take 2)) (zwc h _ _ _)
  have S':=S.next 2
  have hd:=S'.lt
  have hFne:zbv (relB A (oOf ord)) done≠[]:=fun e=>by
    rw [e] at hperm
    exact hne hperm.eq_nil
  have htk:1≤((zbv (relB A (oOf ord)) done).take 2).length:=by
    rw [List.length_take]
    have:=List.length_pos_iff.2 hFne
    lia
  have hdl:=S.len
  have hl:((zbv (relB A (oOf ord)) done).drop 2++newQ (relB A (oOf ord)) ord done ((zbv (relB A (oOf ord)) done).take 2) 6).length≤5:=by
    have:=zeo 6 _ r2 fun x hx=>by
      rcases List.mem_append.1 hx with hx | hx
      · exact hd x hx
      · exact (zdg.1 (r1.mem_iff.1 hx)).1
    simp only [List.length_append] at this ⊢
    lia
  have htk2:((zbv (relB A (oOf ord)) done).take 2).length≤2:=by rw [List.length_take]; lia
  generalize (zbv (relB A (oOf ord)) done).take 2 = H at *
  have s4:asgS (flz (catL (lcl 5) (lcl 6))) (stE 5) (zda A ord Q (some (zaw ord done)) (some (zaw ord H)) x7 x8) hp3 = some (.nx,zda A ord Q (some (zaw ord (done++H))) (some (zaw ord H)) x7 x8,hp3) :=
    zaz (zlz (by lia) (by lia) rfl rfl) rfl
  have ea:=zdz (zaw ord H) Y.w (by rw [List.length_map]; lia)
  rw [show plan.map (zaw ord)++[zaw ord H] = (plan++[H]).map (zaw ord) by simp] at ea
  have s5:zcl (zcc "list" zca (lcl 4) (zac (lcl 6) zaf)) (zda A ord Q (some (zaw ord (done++H))) (some (zaw ord H)) x7 x8) hp3 = _:=zcu (zc8 rfl (zd0 Y.w) (zai rfl rfl) ea)
  have Y1:PHp ord hp0 (hp3.put (Q + 1) (.list ((plan++[H]).map (zaw ord)))) Q hs2 (plan++[H]):=⟨by rw [za1 _ _ (by lia),Y.q],zcb _ _ _,Y.n,fun j hj=>by rw [za1 _ _ (by lia),Y.up j hj]⟩
  generalize hp3.put (Q + 1) (.list ((plan++[H]).map (zaw ord))) = hp4 at *
  obtain ⟨x7',x8',hs',hp',k1,k2,k3,k4,k5⟩:=zy0 h hp0 Q done H hd (plan++[H]) _ hl 6 0 hs2 x7 x8 hp4 (by lia) (by
    have:newQ (relB A (oOf ord)) ord done H 0 = []:=rfl
    rw [this,List.append_nil]; exact p1) p2 p3 Y1
  have k1':=zfn (ite:=valI (lcl 2)) (loc:=zda A ord Q (some (zaw ord (done++H))) (some (zaw ord H)) x7 x8) (zif rfl) (zys ▸ k1)
  exact ⟨_,x7',x8',hs',hp',zao s1 (zao s2 (zao s3 (zao s4 (zao s5 (za2 k1'))))),k2.trans (r1.map _),k3,k4,k5⟩
theorem zpv (h:Perm6 ord) (hp0:Hp) (Q:Nat):∀ (f fuel:Nat) (done hs:List Nat) (plan:List (List Nat)) (x6 x7 x8:Option AV) (hp:Hp),f < fuel→PSt (relB A (oOf ord)) done→hs.Perm ((zbv (relB A (oOf ord)) done).map fun p=>5 - p)→zec hs→AllP PF hs→PHp ord hp0 hp Q hs plan→
    (zc2 (relB A (oOf ord)) f done).flatten.length + done.length = 6→(∀ h∈zc2 (relB A (oOf ord)) f done,1≤h.length)→plan.length + f≤50→
    ∃ (x5' x6' x7' x8':Option AV) (hp':Hp),zcd (tru (lcl 3)) znz fuel (zda A ord Q (some (zaw ord done)) x6 x7 x8) hp = some (.nx,zda A ord Q x5' x6' x7' x8',hp')∧PHp ord hp0 hp' Q [] (plan++zc2 (relB A (oOf ord)) f done)
  | f,0,_,_,_,_,_,_,_,hf,_,_,_,_,_,_,_,_=>by lia
  | f,fuel + 1,done,hs,plan,x6,x7,x8,hp,hf,S,hperm,hH,hP,X,hlen,hone,hpl=>by
    have hF6:(zbv (relB A (oOf ord)) done).length≤6:=zeo 6 _ (zgl _ _) fun p hp=>(zdg.1 hp).1
    have t:=zh4 (m:=lcl 3) (loc:=zda A ord Q (some (zaw ord done)) x6 x7 x8) (x:=.loc Q) rfl (zh5 X.q (by have:=hperm.length_eq; rw [List.length_map] at this ⊢; lia))
    have stop:zc2 (relB A (oOf ord)) f done = []→_:=fun e=>by
      rw [e] at hlen
      have hf0:=S.full (by simp at hlen; lia)
      rw [hf0] at hperm
      have hs0:hs = []:=hperm.eq_nil
      subst hs0
      have w:zcd (tru (lcl 3)) znz (fuel + 1) (zda A ord Q (some (zaw ord done)) x6 x7 x8) hp = some (.nx,zda A ord Q (some (zaw ord done)) x6 x7 x8,hp):=by
        exact zgh t
      exact (⟨_,_,_,_,hp,w,by rw [e,List.append_nil]; exact X⟩:∃ (x5' x6' x7' x8':Option AV) (hp':Hp),zcd (tru (lcl 3)) znz (fuel + 1) (zda A ord Q (some (zaw ord done)) x6 x7 x8) hp = some (.nx,zda A ord Q x5' x6' x7' x8',hp')∧PHp ord hp0 hp' Q [] (plan++zc2 (relB A (oOf ord)) f done))
    match f with
    | 0=>exact stop rfl
    | f + 1 =>
      by_cases h6:6≤done.length
      · exact stop (by (first | rw [zju,if_pos h6] | rw [zjv,if_pos h6]))
      · have e:zc2 (relB A (oOf ord)) (f + 1) done = (zbv (relB A (oOf ord)) done).take 2 ::zc2 (relB A (oOf ord)) f (done++(zbv (relB A (oOf ord)) done).take 2):=by (first | rw [zju,if_neg h6] | rw [zjv,if_neg h6])
        rw [e] at hlen hone ⊢
        have h1:=hone _ (List.mem_cons_self ..)
        have hne:hs≠[]:=fun e=>by
          subst e
          have:=hperm.length_eq
          rw [List.length_take] at h1
          simp only [List.length_nil,List.length_map] at this
          lia
        obtain ⟨x6',x7',x8',hs',hp',g1,g2,g3,g4,g5⟩:=zwa (A:=A) h S (by lia) hne hperm hH hP X x6 x7 x8
        obtain ⟨y5,y6,y7,y8,hp'',k1,k2⟩:=zpv h hp0 Q f fuel _ hs' _ x6' x7' x8' hp' (by lia) (S.next 2) g2 g3 g4 g5 (by
          rw [List.flatten_cons,List.length_append] at hlen
          rw [List.length_append]; lia) (fun z hz=>hone z (by simp [hz])) (by simp only [List.length_append,List.length_cons,List.length_nil]; lia)
        refine ⟨y5,y6,y7,y8,hp'',?_,by rw [List.append_assoc] at k2; exact k2⟩
        have tt:(!(hs.map (keyF ord)).isEmpty) = true:=by
          cases hs with
          | nil=>exact absurd rfl hne
          | cons a b=>rfl
        rw [tt] at t
        exact zhf t g1 k1
theorem zki (h:Perm6 ord) (PO:PlanOk (relB A (oOf ord)) (zc2 (relB A (oOf ord)) 7 [])) (hp:Hp) :
    ∃ hp',zb4 [za3 A,zdr ord] hp = some (.fl ((zc2 (relB A (oOf ord)) 7 []).map (zaw ord)),hp')∧Upp hp hp':=by
  have elen:lenF [zdr ord] hp = some (.int ((6:Nat):Int),hp):=by
    rw [zdr,zho (by rw [List.length_map,h.len]; lia),List.length_map,h.len]
  have s1:asgS (zas zbh (zac (zas lenF (zac (lcl 1) zaf)) zaf)) (stE 2) [some (za3 A),some (zdr ord),none,none,none,none,none,none,none] hp = some (.nx,[some (za3 A),some (zdr ord),some (.rng 0 ((6:Nat):Int)),none,none,none,none,none,none],hp) :=
    zaz (zav (zai (zav (zai rfl rfl) elen) rfl) rfl) rfl
  have ec:=zd2 (fun i:Nat=>AV.int (i:Int)) (fun k=>decide (befK A k = [])) (fun k=>keyF ord (5 - ord.idxOf k)) (tests:=tru (bin eqA (flz (zbo 1 [0,1] (valI (lcl 3)) (stE 0) (tru (bin zaq (bin zaq (lcl 2) (lcl 0)) (lcl 1))) (lcl 0))) (flz (lstE zaf)))) (elt:=tupE (zac (una negA (zcc "list" zgz (lcl 2) (zac (lcl 0) zaf))) (zac (lcl 0) zaf))) (frees:=[0,1,2])
    (loc:=[some (za3 A),some (zdr ord),some (.rng 0 ((6:Nat):Int)),none,none,none,none,none,none]) (ite:=valI (lcl 2)) (hp:=hp) (List.range 6) (zif rfl) (by simp) (fun k hk=>by
      have hk6:=List.mem_range.1 hk
      have c1:=zd2 (fun i:Nat=>AV.int (i:Int)) (fun i=>A i k) (fun i=>AV.int (i:Int)) (tests:=tru (bin zaq (bin zaq (lcl 2) (lcl 0)) (lcl 1))) (elt:=lcl 0) (frees:=[0,1]) (loc:=[some (.int k),some (za3 A),some (zdr ord),some (.rng 0 ((6:Nat):Int))]) (ite:=valI (lcl 3)) (hp:=hp)
        (List.range 6) (zif rfl) (by simp) (fun i hi=>⟨zb2 (zga (List.mem_range.1 hi) hk6 rfl rfl rfl),fun _=>rfl⟩)
      exact ⟨zb2 (zam (zbw c1) (zig _ hp) (zgw _ hp)),fun _=>zxz h hk6 rfl rfl⟩)
  have em:((List.range 6).filter fun k=>decide (befK A k = [])).map (fun k=>keyF ord (5 - ord.idxOf k)) = (((List.range 6).filter fun k=>decide (befK A k = [])).map fun k=>5 - ord.idxOf k).map (keyF ord):=by simp
  rw [em] at ec
  have hmem:∀ p,p∈((List.range 6).filter fun k=>decide (befK A k = [])).map (fun k=>ord.idxOf k)↔p∈zbv (relB A (oOf ord)) []:=fun p=>by
    rw [zdg,zfd,List.mem_map]
    constructor
    · rintro ⟨k,hk,rfl⟩
      obtain ⟨k1,k2⟩:=List.mem_filter.1 hk
      have k1:=List.mem_range.1 k1
      refine ⟨h.idx_lt k1,by simp,fun q hq hb=>?_⟩
      simp only [relB,Bool.and_eq_true,decide_eq_true_eq,h.o_idx k1] at hb
      have:oOf ord q∈befK A k:=List.mem_filter.2 ⟨List.mem_range.2 (h.o_lt hq),hb.2⟩
      rw [of_decide_eq_true k2] at this
      simp at this
    · rintro ⟨h1,_,h3⟩
      refine ⟨oOf ord p,List.mem_filter.2 ⟨List.mem_range.2 (h.o_lt h1),decide_eq_true ?_⟩,h.idx_o h1⟩
      rw [List.eq_nil_iff_forall_not_mem]
      intro i hi
      obtain ⟨i1,i2⟩:=List.mem_filter.1 hi
      obtain ⟨q,q1,rfl⟩:=h.o_ex (List.mem_range.1 i1)
      have:=h3 q q1 (by simp only [relB,q1,h1,decide_true,Bool.true_and]; exact i2)
      simp at this
  have hnd:(((List.range 6).filter fun k=>decide (befK A k = [])).map (fun k=>ord.idxOf k)).Nodup :=
    zfe (List.Pairwise.filter _ List.nodup_range) fun a ha b hb e=>by
      have ha:=List.mem_range.1 (List.mem_filter.1 ha).1
      have hb:=List.mem_range.1 (List.mem_filter.1 hb).1
      rw [← h.o_idx ha,← h.o_idx hb,e]
  have hperm0:(((List.range 6).filter fun k=>decide (befK A k = [])).map fun k=>5 - ord.idxOf k).Perm ((zbv (relB A (oOf ord)) []).map fun p=>5 - p):=by
    have:=((List.perm_ext_iff_of_nodup hnd (zgl _ _)).2 hmem).map fun p=>5 - p
    rwa [List.map_map] at this
  generalize hq:((List.range 6).filter fun k=>decide (befK A k = [])).map (fun k=>5 - ord.idxOf k) = q0 at *
  have hq6:q0.length≤6:=by rw [← hq,List.length_map]; exact Nat.le_trans (List.length_filter_le _ _) (by simp)
  have hqP:AllP PF q0:=fun x hx=>by
    rw [← hq] at hx
    obtain ⟨k,_,rfl⟩:=List.mem_map.1 hx
    simp only [PF]; lia
  have s2:=zaz (t:=stE 3) (zfl ec) rfl
  have hQ:(hp.new (.list (q0.map (keyF ord)))).H hp.N = some (.list (q0.map (keyF ord))):=zfr _ _
  have hN1:(hp.new (.list (q0.map (keyF ord)))).N = hp.N + 1:=rfl
  have X0:∀ j,j < hp.N→(hp.new (.list (q0.map (keyF ord)))).H j = hp.H j:=fun j hj=>zct _ _ (by lia)
  generalize hp.new (.list (q0.map (keyF ord))) = hp1 at *
  obtain ⟨ys,h1,h2,h3,h4⟩:=zl0 (zo4 ord) hQ hqP hq6
  have s3:zcl (zas zf1 (zac (lcl 3) zaf)) [some (za3 A),some (zdr ord),some (.rng 0 ((6:Nat):Int)),some (.loc hp.N),none,none,none,none,none] hp1 = _:=zcu (zav (zai rfl rfl) h1)
  have X:PHp ord hp ((hp1.put hp.N (.list (ys.map (keyF ord)))).new (.list [])) hp.N ys []:=by
    refine ⟨?_,?_,?_,fun j hj=>?_⟩
    · rw [zct _ _ (by rw [zf3]; lia),zcb]
    · rw [← hN1]; exact zfr _ _
    · rw [zi7,zf3]; lia
    · rw [zct _ _ (by rw [zf3]; lia),za1 _ _ (by lia),X0 j hj]
  have s4:asgS (lcz (lstE zaf)) (stE 4) [some (za3 A),some (zdr ord),some (.rng 0 ((6:Nat):Int)),some (.loc hp.N),none,none,none,none,none] (hp1.put hp.N (.list (ys.map (keyF ord)))) = some (.nx,zda A ord hp.N none none none none,(hp1.put hp.N (.list (ys.map (keyF ord)))).new (.list [])):=by
    have:=zaz (t:=stE 4) (loc:=[some (za3 A),some (zdr ord),some (.rng 0 ((6:Nat):Int)),some (.loc hp.N),none,none,none,none,none]) (zfl (ml:=lstE zaf) (hp:=hp1.put hp.N (.list (ys.map (keyF ord)))) (zc9 (xs:=[]) rfl (by simp))) rfl
    rw [zf3,hN1] at this
    exact this
  generalize (hp1.put hp.N (.list (ys.map (keyF ord)))).new (.list []) = hp3 at *
  have s5:asgS (flz (lstE zaf)) (stE 5) (zda A ord hp.N none none none none) hp3 = some (.nx,zda A ord hp.N (some (zaw ord [])) none none none,hp3):=zaz (zig _ _) rfl
  obtain ⟨x5,x6,x7,x8,hp4,w1,w2⟩:=zpv (A:=A) h hp hp.N 7 1000 [] ys [] none none none hp3 (by lia) ⟨.nil,by simp,by simp⟩ (h3.trans hperm0) h2 h4 X (by rw [PO.len]; rfl) (fun z hz=>(PO.two z hz).2) (by simp)
  rw [List.nil_append] at w2
  have ef:=zhb (i:=4) (loc:=zda A ord hp.N x5 x6 x7 x8) rfl w2.w
  rw [ph_def]
  refine ⟨_,zdv rfl (zao s1 (zao s2 (zao s3 (zao s4 (zao s5 (zao w1 (zao ef (zb6 (zdp rfl))))))))),?_,fun j hj=>?_⟩
  · have:=w2.n
    simp only [Hp.free]; lia
  · rw [zb8 _ (by lia),w2.up j hj]
end
structure Words (w:Nat→List Nat):Prop where
  ok:∀ k,k < 6→WordOk (w k)
  inj:∀ i j,i < 6→j < 6→w i = w j→i = j
  bar:∀ k,k < 6→w k≠[124]
noncomputable def za9 (w:Nat→List Nat):AV:=.fl ((List.range 6).map fun k=>.str (w k))
theorem zwt {w:Nat→List Nat} (k:Nat):∀ (l:List Nat),(∀ j∈l,w j = w k→j = k)→k∈l→idxL (.str (w k)) (l.map fun j=>AV.str (w j)) = some (l.idxOf k):=by
  intro l
  induction l with
  | nil =>
    intro _ h
    simp at h
  | cons a l ih =>
    intro hi h
    rw [List.map_cons,zo5,eqS_s]
    by_cases e:a = k
    · subst e
      have:(l.map fun j=>AV.str (w j)).all (fun z=>(eqS z (.str (w a))).isSome) = true:=by
        rw [List.all_eq_true]; intro x hx; obtain ⟨b,_,rfl⟩:=List.mem_map.1 hx; rfl
      simp [this]
    · have h2:k∈l:=(List.mem_cons.1 h).resolve_left (fun e'=>e e'.symm)
      have h3:(w a == w k) = false:=by
        rw [beq_eq_false_iff_ne]; exact fun e'=>e (hi a (by simp) e')
      simp only [h3,ih (fun j hj=>hi j (by simp [hj])) h2,Option.map_some]
      rw [List.idxOf_cons,show (a == k) = false by simpa using e]
      rfl
theorem zrh {w:Nat→List Nat} (W:Words w) {k:Nat} (hk:k < 6) (hp:Hp):zgz [za9 w,.str (w k)] hp = some (.int k,hp):=by
  have h1:=zwt (w:=w) k (List.range 6) (fun j hj e=>W.inj j k (List.mem_range.1 hj) hk e) (List.mem_range.2 hk)
  have h0:(List.range 6).idxOf k = k:=(by decide:∀ k < 6,(List.range 6).idxOf k = k) k hk
  rw [h0] at h1
  have h2:k < 1000000:=Nat.lt_of_lt_of_le hk (by decide)
  exact bE h1 (if_pos h2)
theorem Lex.keep {hp hp':Hp} {a m p:Nat} {txt:List Nat} {k line:Nat} {pb pb':List AV} (L:Lex hp a m p txt k line pb) (h1:hp'.H a = hp.H a) (h2:hp'.H m = hp.H m) (h3:hp'.H p = some (.list pb')) (h4:hp.N≤hp'.N):Lex hp' a m p txt k line pb' :=
  ⟨h1.trans L.ha,h2.trans L.hm,h3,L.am,L.mp,Nat.lt_of_lt_of_le L.pn h4,L.kl,L.tl⟩
section
variable {A:Nat→Nat→Bool} {ord:List Nat} {w:Nat→List Nat}
theorem zs9 (h:Perm6 ord) {p:Nat} (hp:p < 6) {done:List Nat} (hd:∀ q∈done,q < 6) :
    decide ((List.range 6).filter (fun i=>A i (oOf ord p) && (!decide (i∈done.map (oOf ord)) && true)) = []) = zg3 (relB A (oOf ord)) done p:=by
  rw [Bool.eq_iff_iff,zfd,decide_eq_true_iff,List.filter_eq_nil_iff]
  have rel:∀ q,q < 6→(relB A (oOf ord) q p = true↔A (oOf ord q) (oOf ord p) = true):=fun q hq=>by simp only [relB,hq,hp,decide_true,Bool.true_and]
  simp only [Bool.and_true,Bool.and_eq_true,Bool.not_eq_true',decide_eq_false_iff_not,List.mem_range,not_and,Classical.not_not]
  constructor
  · intro h1 q hq hb
    exact (zij h hq hd).1 (h1 (oOf ord q) (h.o_lt hq) ((rel q hq).1 hb))
  · intro h1 i hi ha
    obtain ⟨q,q1,rfl⟩:=h.o_ex hi
    exact (zij h q1 hd).2 (h1 q q1 ((rel q q1).2 ha))
noncomputable abbrev zd3 (A:Nat→Nat→Bool) (ord:List Nat) (w:Nat→List Nat) (m Wl:Nat) (done:List Nat) (x4 x7 x8:Option AV):Loc:=[some (.loc m),some (za9 w),some (za3 A),some (zdr ord),x4,some (.loc Wl),some (zaw ord done),x7,x8]
noncomputable def wdAV (ord:List Nat) (w:Nat→List Nat) (p:Nat):AV:=.str (w (oOf ord p))
noncomputable def zps:MB:=tru (bin neA (lcl 8) (cst (.str [124])))
noncomputable def zxr:MB:=andB (tru (bin ltA (zas lenF (zac (lcl 7) zaf)) (cst (.int 2)))) (andB (tru (bin eqA (flz (zbo 1 [2,4,6] (valI (zas zbh (zac (zas lenF (zac (lcl 1) zaf)) zaf))) (stE 0) (andB (tru (bin zaq (bin zaq (lcl 1) (lcl 0)) (lcl 2))) (andB (tru (bin niA (lcl 0) (lcl 3))) (cstB true))) (lcl 0))) (flz (lstE zaf)))) (cstB true))
noncomputable def getS:MS:=asgS (zcj 0 zau (lcl 0) zaf) (stE 8)
noncomputable def plIn:MS:=seqS (asgS (zcc "list" zgz (lcl 1) (zac (lcl 8) zaf)) (stE 4)) (seqS (iteS zxr (seqS (zcl (zcc "list" zca (lcl 7) (zac (lcl 4) zaf))) nilS) (seqS (zcl (zcj 0 zb7 (lcl 0) (zac (lcl 8) zaf))) nilS)) (seqS getS nilS))
theorem zp4 (hp:Hp):lenF [za9 w] hp = some (.int ((6:Nat):Int),hp):=zho (xs:=(List.range 6).map fun k=>.str (w k)) (by simp)
theorem ztk (h:Perm6 ord) {p:Nat} (hp6:p < 6) {done hr:List Nat} (hd:∀ q∈done,q < 6) {m Wl Hh:Nat} {hp:Hp} (hh:hp.H Hh = some (.list ((hr.map (oOf ord)).map fun j:Nat=>AV.int j))) (hl:hr.length≤2) (x8:Option AV) :
    zxr (zd3 A ord w m Wl done (some (.int (oOf ord p:Nat))) (some (.loc Hh)) x8) hp = some (decide (hr.length < 2) && (zg3 (relB A (oOf ord)) done p && true),hp):=by
  have el:lenF [.loc Hh] hp = some (.int (hr.length:Int),hp):=by rw [zeq hh (by simp; lia),List.length_map,List.length_map]
  have t1:tru (bin ltA (zas lenF (zac (lcl 7) zaf)) (cst (.int 2))) (zd3 A ord w m Wl done (some (.int (oOf ord p:Nat))) (some (.loc Hh)) x8) hp = some (decide (hr.length < 2),hp):=by
    have:tru (bin ltA (zas lenF (zac (lcl 7) zaf)) (cst (.int 2))) (zd3 A ord w m Wl done (some (.int (oOf ord p:Nat))) (some (.loc Hh)) x8) hp = some (decide ((hr.length:Int) < 2),hp):=zb2 (zam (zav (zai rfl rfl) el) rfl rfl)
    rw [this]
    congr 2
    apply decide_eq_decide.2; lia
  have ei:=zbs (b:=6) (by lia)
  have c1:=zd2 (fun i:Nat=>AV.int (i:Int)) (fun i=>A i (oOf ord p) && (!decide (i∈done.map (oOf ord)) && true)) (fun i=>AV.int (i:Int)) (tests:=andB (tru (bin zaq (bin zaq (lcl 1) (lcl 0)) (lcl 2))) (andB (tru (bin niA (lcl 0) (lcl 3))) (cstB true))) (elt:=lcl 0) (frees:=[2,4,6])
    (loc:=zd3 A ord w m Wl done (some (.int (oOf ord p:Nat))) (some (.loc Hh)) x8) (ite:=valI (zas zbh (zac (zas lenF (zac (lcl 1) zaf)) zaf))) (hp:=hp)
    (List.range 6) (zb5 (zav (zai (zav (zai rfl rfl) (zp4 hp)) rfl) rfl) ei) (by simp) (fun i hi=>⟨zlg (zb2 (zga (List.mem_range.1 hi) (h.o_lt hp6) rfl rfl rfl)) (zlg (zb2 (zam rfl rfl (zpz i (done.map (oOf ord)) hp))) rfl),fun _=>rfl⟩)
  have t2:=zlg t1 (zlg (zb2 (zam (zbw c1) (zig _ hp) (zgw _ hp))) (show cstB true (zd3 A ord w m Wl done (some (.int (oOf ord p:Nat))) (some (.loc Hh)) x8) hp = some (true,hp) from rfl))
  rw [zs9 h hp6 hd] at t2
  exact t2
theorem zp8 {a m p:Nat} {txt:List Nat} {k line:Nat} {x:AV} {pb:List AV} {hp:Hp} (L:Lex hp a m p txt k line (x ::pb)) (hl:pb.length≤100) {Wl:Nat} {done:List Nat} (x4 x7 x8:Option AV) :
    getS (zd3 A ord w m Wl done x4 x7 x8) hp = some (.nx,zd3 A ord w m Wl done x4 x7 (some x),hp.put p (.list pb)):=by
  obtain ⟨e1,e2⟩:=pop_eq L hl
  exact zaz (zdf rfl L.inst rfl e1) rfl
structure NHp (ord:List Nat) (hp:Hp) (a m p:Nat) (txt:List Nat) (k line:Nat) (pb:List AV) (Wl Hh:Nat) (plan:List (List Nat)) (hr:List Nat):Prop where
  L:Lex hp a m p txt k line pb
  w:hp.H Wl = some (.list (plan.map (zaw ord)))
  hh:hp.H Hh = some (.list ((hr.map (oOf ord)).map fun j:Nat=>AV.int j))
  pw:p < Wl
  wh:Wl < Hh
  hn:Hh < hp.N
theorem NHp.setP {hp:Hp} {a m p:Nat} {txt:List Nat} {k line:Nat} {pb:List AV} {Wl Hh:Nat} {plan:List (List Nat)} {hr:List Nat} (X:NHp ord hp a m p txt k line pb Wl Hh plan hr) (pb':List AV):NHp ord (hp.put p (.list pb')) a m p txt k line pb' Wl Hh plan hr:=by
  have h1:=X.L.am; have h2:=X.L.mp; have h3:=X.pw; have h4:=X.wh
  exact ⟨X.L.keep (za1 _ _ (by lia)) (za1 _ _ (by lia)) (zcb _ _ _) (Nat.le_refl _),by rw [za1 _ _ (by lia),X.w],by rw [za1 _ _ (by lia),X.hh],X.pw,X.wh,X.hn⟩
theorem NHp.setH {hp:Hp} {a m p:Nat} {txt:List Nat} {k line:Nat} {pb:List AV} {Wl Hh:Nat} {plan:List (List Nat)} {hr:List Nat} (X:NHp ord hp a m p txt k line pb Wl Hh plan hr) (hr':List Nat):NHp ord (hp.put Hh (.list ((hr'.map (oOf ord)).map fun j:Nat=>AV.int j))) a m p txt k line pb Wl Hh plan hr':=by
  have h1:=X.L.am; have h2:=X.L.mp; have h3:=X.pw; have h4:=X.wh
  exact ⟨X.L.keep (za1 _ _ (by lia)) (za1 _ _ (by lia)) (by rw [za1 _ _ (by lia),X.L.hpb]) (Nat.le_refl _),by rw [za1 _ _ (by lia),X.w],zcb _ _ _,X.pw,X.wh,X.hn⟩
theorem zke (h:Perm6 ord) (W:Words w) {a m p:Nat} {txt:List Nat} {k line Wl Hh:Nat} {plan:List (List Nat)} {done:List Nat} (hd:∀ q∈done,q < 6) :
    ∀ (l:List Nat) (fuel:Nat) (hr kept:List Nat) (x4:Option AV) (hp:Hp),l.length < fuel→(∀ q∈l,q < 6)→hr.length≤2→l.length + kept.length≤20→
    NHp ord hp a m p txt k line ((l.tail.map (wdAV ord w))++(if l = [] then [] else [.str [124]])++kept.map (wdAV ord w)) Wl Hh plan hr→
    ∃ (x4':Option AV) (hp':Hp),zcd zps plIn fuel (zd3 A ord w m Wl done x4 (some (.loc Hh)) (some (match l with | []=>.str [124] | q ::_=>wdAV ord w q))) hp = some (.nx,zd3 A ord w m Wl done x4' (some (.loc Hh)) (some (.str [124])),hp')∧
      NHp ord hp' a m p txt k line ((zk9 (zg3 (relB A (oOf ord)) done) l hr kept).2.map (wdAV ord w)) Wl Hh plan (zk9 (zg3 (relB A (oOf ord)) done) l hr kept).1
  | [],fuel + 1,hr,kept,x4,hp,hf,h6,hl,hlk,X=>by
    have t:zps (zd3 A ord w m Wl done x4 (some (.loc Hh)) (some (.str [124]))) hp = some (!(decide (([124]:List Nat) = [124])),hp):=zb2 (zam rfl rfl (zkn (ok1 (by decide)) (ok1 (by decide)) hp))
    refine ⟨x4,hp,?_,by simpa [zie,zid] using X⟩
    rw [decide_eq_true rfl] at t
    exact zgh t
  | q ::l,fuel + 1,hr,kept,x4,hp,hf,h6,hl,hlk,X=>by
    have hq:=h6 q (by simp)
    have hoq:=h.o_lt hq
    have hok:Ok (w (oOf ord q)):=fun c hc=>((W.ok _ hoq).c c hc).1
    have t:zps (zd3 A ord w m Wl done x4 (some (.loc Hh)) (some (wdAV ord w q))) hp = some (!(decide (w (oOf ord q) = [124])),hp):=zb2 (zam rfl rfl (zkn hok (ok1 (by decide)) hp))
    rw [decide_eq_false (W.bar _ hoq)] at t
    simp only [List.tail_cons,List.length_cons] at X hf hlk
    rw [if_neg (by simp)] at X
    have s1:asgS (zcc "list" zgz (lcl 1) (zac (lcl 8) zaf)) (stE 4) (zd3 A ord w m Wl done x4 (some (.loc Hh)) (some (wdAV ord w q))) hp = some (.nx,zd3 A ord w m Wl done (some (.int (oOf ord q:Nat))) (some (.loc Hh)) (some (wdAV ord w q)),hp) :=
      zaz (zc8 rfl rfl (zai rfl rfl) (zrh W hoq hp)) rfl
    have tc:=ztk (A:=A) (w:=w) h hq hd (m:=m) (Wl:=Wl) X.hh hl (some (wdAV ord w q))
    have hnext:∀ (hp1:Hp) (pb1 hr1 kept1:List Nat) (y8:Option AV),l.length + kept1.length≤20→NHp ord hp1 a m p txt k line (l.map (wdAV ord w)++[AV.str [124]]++kept1.map (wdAV ord w)) Wl Hh plan hr1→
        ∃ hp2,getS (zd3 A ord w m Wl done (some (.int (oOf ord q:Nat))) (some (.loc Hh)) y8) hp1 = some (.nx,zd3 A ord w m Wl done (some (.int (oOf ord q:Nat))) (some (.loc Hh)) (some (match l with | []=>.str [124] | q ::_=>wdAV ord w q)),hp2)∧
          NHp ord hp2 a m p txt k line ((l.tail.map (wdAV ord w))++(if l = [] then [] else [.str [124]])++kept1.map (wdAV ord w)) Wl Hh plan hr1:=fun hp1 pb1 hr1 kept1 y8 hk1 Y=>by
      cases l with
      | nil =>
        simp only [List.map_nil,List.nil_append,List.cons_append] at Y
        have hk2:(kept1.map (wdAV ord w)).length≤100:=by
          simp only [List.length_nil] at hk1; rw [List.length_map]; lia
        exact ⟨_,zp8 Y.L hk2 _ _ _,by simpa using Y.setP (kept1.map (wdAV ord w))⟩
      | cons q2 l2 =>
        simp only [List.map_cons,List.cons_append] at Y
        have hk2:(l2.map (wdAV ord w)++[AV.str [124]]++kept1.map (wdAV ord w)).length≤100:=by
          simp only [List.length_append,List.length_map,List.length_cons,List.length_nil] at hk1 ⊢; lia
        exact ⟨_,zp8 Y.L hk2 _ _ _,by
          have:=Y.setP (l2.map (wdAV ord w)++[AV.str [124]]++kept1.map (wdAV ord w))
          simpa using this⟩
    have h6':∀ q∈l,q < 6:=fun z hz=>h6 z (by simp [hz])
    by_cases hc:hr.length < 2∧zg3 (relB A (oOf ord)) done q = true
    · rw [decide_eq_true hc.1,hc.2] at tc
      have ea:=zdz (.int (oOf ord q:Nat)) X.hh (by simp; lia)
      rw [show (hr.map (oOf ord)).map (fun j:Nat=>AV.int j)++[.int (oOf ord q:Nat)] = ((hr++[q]).map (oOf ord)).map fun j:Nat=>AV.int j by simp only [List.map_append,List.map_cons,List.map_nil]] at ea
      obtain ⟨hp2,g1,Y2⟩:=hnext _ [] (hr++[q]) kept (some (wdAV ord w q)) (by lia) (X.setH (hr++[q]))
      have eb:plIn (zd3 A ord w m Wl done x4 (some (.loc Hh)) (some (wdAV ord w q))) hp = _:=zao s1 (zao (zfi tc (za2 (zcu (zc8 rfl (zd0 X.hh) (zai rfl rfl) ea)))) (za2 g1))
      obtain ⟨x4',hp',k1,k2⟩:=zke h W hd l fuel (hr++[q]) kept (some (.int (oOf ord q:Nat))) hp2 (by lia) h6' (by simp; lia) (by lia) Y2
      refine ⟨x4',hp',?_,by (first | rw [zid,if_pos hc] | rw [zie,if_pos hc]); exact k2⟩
      exact zhf t eb k1
    · have hcf:(decide (hr.length < 2) && (zg3 (relB A (oOf ord)) done q && true)) = false:=by
        rw [Bool.and_true,Bool.and_eq_false_iff]
        by_cases h1:hr.length < 2
        · exact .inr (by simpa [h1] using hc)
        · exact .inl (decide_eq_false h1)
      rw [hcf] at tc
      have hpl:(l.map (wdAV ord w)++[AV.str [124]]++kept.map (wdAV ord w)).length≤100:=by
        simp only [List.length_append,List.length_map,List.length_cons,List.length_nil]; lia
      obtain ⟨e1,e2⟩:=zox X.L hpl (wdAV ord w q)
      have X1:=X.setP (l.map (wdAV ord w)++[AV.str [124]]++kept.map (wdAV ord w)++[wdAV ord w q])
      rw [show l.map (wdAV ord w)++[AV.str [124]]++kept.map (wdAV ord w)++[wdAV ord w q] = l.map (wdAV ord w)++[AV.str [124]]++(kept++[q]).map (wdAV ord w) by simp] at X1 e1
      obtain ⟨hp2,g1,Y2⟩:=hnext _ [] hr (kept++[q]) (some (wdAV ord w q)) (by simp; lia) X1
      have eb:plIn (zd3 A ord w m Wl done x4 (some (.loc Hh)) (some (wdAV ord w q))) hp = _:=zao s1 (zao (zdb tc (za2 (zcu (zdf rfl X.L.inst (zai rfl rfl) e1)))) (za2 g1))
      obtain ⟨x4',hp',k1,k2⟩:=zke h W hd l fuel hr (kept++[q]) (some (.int (oOf ord q:Nat))) hp2 (by lia) h6' hl (by simp; lia) Y2
      refine ⟨x4',hp',?_,by (first | rw [zid,if_neg hc] | rw [zie,if_neg hc]); exact k2⟩
      exact zhf t eb k1
end
section
variable {A:Nat→Nat→Bool} {ord:List Nat} {w:Nat→List Nat}
noncomputable def zpu:MS:=seqS (asgS (lcz (lstE zaf)) (stE 7)) (seqS (zcl (zcj 0 zb7 (lcl 0) (zac (cst (.str [124])) zaf))) (seqS getS (seqS (zcd zps plIn 1000) (seqS (frzS 7) (seqS (asgS (flz (catL (lcl 6) (lcl 7))) (stE 6)) (seqS (zcl (zcc "list" zca (lcl 5) (zac (lcl 7) zaf))) nilS))))))
noncomputable def zpt:MS:=seqS (zcl (zcj 0 zb7 (lcl 0) (zac (bin zaq (lcl 1) (lcl 4)) zaf))) nilS
noncomputable def zmn:MB:=tru (bin ltA (zas lenF (zac (lcl 6) zaf)) (zas lenF (zac (lcl 1) zaf)))
theorem pl_def:zcs = runF 4 9 (seqS (forS (revI (lcl 3)) (stE 4) zpt) (seqS (asgS (lcz (lstE zaf)) (stE 5)) (seqS (asgS (flz (lstE zaf)) (stE 6)) (seqS (zcd zmn zpu 1000) (seqS (frzS 5) (seqS (retS (lcl 5)) nilS)))))):=rfl
theorem zs7 {done:List Nat}:∀ q∈rem6 done,q < 6:=fun q hq=>by
  have:=(List.mem_filter.1 hq).1
  simp at this; lia
theorem zv6 (done:List Nat):(rem6 done).length≤6:=Nat.le_trans (List.length_filter_le _ _) (by simp)
inductive pl_roundR (A:Nat→Nat→Bool) (ord:List Nat) (w:Nat→List Nat) (a:Nat) (m:Nat) (p:Nat) (txt:List Nat) (k:Nat) (line:Nat) (Wl:Nat) (plan:List (List Nat)) (done H:List Nat) (hp:Hp) (x4:Option AV) (x7:Option AV) (x8:Option AV):Prop
  | mk (x4':Option AV) (x7':Option AV) (x8':Option AV) (hp':Hp) (q1:zpu (zd3 A ord w m Wl done x4 x7 x8) hp = some (.nx,zd3 A ord w m Wl (done++H) x4' x7' x8',hp')) (q2:Lex hp' a m p txt k line ((rem6 (done++H)).map (wdAV ord w))) (q3:hp'.H Wl = some (.list ((plan++[H]).map (zaw ord)))) (q4:Wl < hp'.N):pl_roundR A ord w a m p txt k line Wl plan done H hp x4 x7 x8
theorem zv9 (h:Perm6 ord) (W:Words w) {a m p:Nat} {txt:List Nat} {k line Wl:Nat} {plan:List (List Nat)} {done:List Nat} (S:PSt (relB A (oOf ord)) done) (hpl:plan.length≤100) {hp:Hp} (L:Lex hp a m p txt k line ((rem6 done).map (wdAV ord w))) (hw:hp.H Wl = some (.list (plan.map (zaw ord)))) (hpw:p < Wl) (hwn:Wl < hp.N) (x4 x7 x8:Option AV):pl_roundR A ord w a m p txt k line Wl plan done ((zbv (relB A (oOf ord)) done).take 2) hp x4 x7 x8:=by
  have hpn:=L.pn; have ham:=L.am; have hmp:=L.mp
  have s1:asgS (lcz (lstE zaf)) (stE 7) (zd3 A ord w m Wl done x4 x7 x8) hp = some (.nx,zd3 A ord w m Wl done x4 (some (.loc hp.N)) x8,hp.new (.list [])):=zaz (zfl (zc9 (xs:=[]) rfl (by simp))) rfl
  have X:NHp ord (hp.new (.list [])) a m p txt k line ((rem6 done).map (wdAV ord w)) Wl hp.N plan [] :=
    ⟨L.new _,by rw [zct _ _ (by lia),hw],zfr _ _,hpw,hwn,Nat.lt_succ_self _⟩
  generalize hp.new (.list []) = hp1 at *
  have hrl:=zv6 done
  obtain ⟨e1,e2⟩:=zox X.L (by rw [List.length_map]; lia) (.str [124])
  have s2:zcl (zcj 0 zb7 (lcl 0) (zac (cst (.str [124])) zaf)) (zd3 A ord w m Wl done x4 (some (.loc hp.N)) x8) hp1 = _:=zcu (zdf rfl X.L.inst (zai rfl rfl) e1)
  have X2:=X.setP ((rem6 done).map (wdAV ord w)++[.str [124]])
  generalize hp1.put p (.list ((rem6 done).map (wdAV ord w)++[.str [124]])) = hp2 at *
  have s3:∃ hp3,getS (zd3 A ord w m Wl done x4 (some (.loc hp.N)) x8) hp2 = some (.nx,zd3 A ord w m Wl done x4 (some (.loc hp.N)) (some (match rem6 done with | []=>.str [124] | q ::_=>wdAV ord w q)),hp3)∧
      NHp ord hp3 a m p txt k line (((rem6 done).tail.map (wdAV ord w))++(if rem6 done = [] then [] else [AV.str [124]])++([]:List Nat).map (wdAV ord w)) Wl hp.N plan []:=by
    generalize rem6 done = l at *
    cases l with
    | nil =>
      simp only [List.map_nil,List.nil_append] at X2
      exact ⟨_,zp8 X2.L (by simp) _ _ _,by simpa using X2.setP []⟩
    | cons q2 l2 =>
      simp only [List.map_cons,List.cons_append] at X2
      have hk2:(l2.map (wdAV ord w)++[AV.str [124]]).length≤100:=by
        simp only [List.length_append,List.length_map,List.length_cons,List.length_nil] at hrl ⊢; lia
      exact ⟨_,zp8 X2.L hk2 _ _ _,by simpa using X2.setP (l2.map (wdAV ord w)++[AV.str [124]])⟩
  obtain ⟨hp3,s3,X3⟩:=s3
  obtain ⟨x4',hp4,s4,X4⟩:=zke (A:=A) h W S.lt (rem6 done) 1000 [] [] x4 hp3 (by lia) zs7 (by simp) (by simp only [List.length_nil]; lia) X3
  rw [zq2] at X4
  simp only at X4
  have S':=S.next 2
  have hfl:((zbv (relB A (oOf ord)) done).take 2).length≤2:=by rw [List.length_take]; lia
  have hdl:=S.len
  generalize (zbv (relB A (oOf ord)) done).take 2 = H at *
  have s5:frzS 7 (zd3 A ord w m Wl done x4' (some (.loc hp.N)) (some (.str [124]))) hp4 = some (.nx,zd3 A ord w m Wl done x4' (some (zaw ord H)) (some (.str [124])),hp4.free hp.N):=zhb rfl X4.hh
  have L5:Lex (hp4.free hp.N) a m p txt k line ((rem6 (done++H)).map (wdAV ord w)):=X4.L.keep (zb8 _ (by lia)) (zb8 _ (by lia)) (by rw [zb8 _ (by lia),X4.L.hpb]) (Nat.le_refl _)
  have w5:(hp4.free hp.N).H Wl = some (.list (plan.map (zaw ord))):=by rw [zb8 _ (by lia),X4.w]
  have n5:Wl < (hp4.free hp.N).N:=Nat.lt_trans X4.wh X4.hn
  generalize hp4.free hp.N = hp5 at *
  have s6:asgS (flz (catL (lcl 6) (lcl 7))) (stE 6) (zd3 A ord w m Wl done x4' (some (zaw ord H)) (some (.str [124]))) hp5 = some (.nx,zd3 A ord w m Wl (done++H) x4' (some (zaw ord H)) (some (.str [124])),hp5) :=
    zaz (zlz (by lia) (by lia) rfl rfl) rfl
  have ea:=zdz (zaw ord H) w5 (by rw [List.length_map]; lia)
  rw [show plan.map (zaw ord)++[zaw ord H] = (plan++[H]).map (zaw ord) by simp] at ea
  have s7:zcl (zcc "list" zca (lcl 5) (zac (lcl 7) zaf)) (zd3 A ord w m Wl (done++H) x4' (some (zaw ord H)) (some (.str [124]))) hp5 = _:=zcu (zc8 rfl (zd0 w5) (zai rfl rfl) ea)
  refine ⟨x4',_,_,_,zao s1 (zao s2 (zao s3 (zao s4 (zao s5 (zao s6 (za2 s7)))))),?_,zcb _ _ _,n5⟩
  exact L5.keep (za1 _ _ (by lia)) (za1 _ _ (by lia)) (by rw [za1 _ _ (by lia),L5.hpb]) (Nat.le_refl _)
theorem zpr (h:Perm6 ord) (W:Words w) {a m p:Nat} {txt:List Nat} {k line Wl:Nat} (hpw:p < Wl):∀ (f fuel:Nat) (done:List Nat) (plan:List (List Nat)) (x4 x7 x8:Option AV) (hp:Hp),f < fuel→PSt (relB A (oOf ord)) done→Lex hp a m p txt k line ((rem6 done).map (wdAV ord w))→hp.H Wl = some (.list (plan.map (zaw ord)))→Wl < hp.N→
    (zc2 (relB A (oOf ord)) f done).flatten.length + done.length = 6→plan.length + f≤50→
    ∃ (x4' x6' x7' x8':Option AV) (hp':Hp),zcd zmn zpu fuel (zd3 A ord w m Wl done x4 x7 x8) hp = some (.nx,[some (.loc m),some (za9 w),some (za3 A),some (zdr ord),x4',some (.loc Wl),x6',x7',x8'],hp')∧Lex hp' a m p txt k line []∧hp'.H Wl = some (.list ((plan++zc2 (relB A (oOf ord)) f done).map (zaw ord)))
  | f,0,_,_,_,_,_,_,hf,_,_,_,_,_,_=>by lia
  | f,fuel + 1,done,plan,x4,x7,x8,hp,hf,S,L,hw,hn,hlen,hpl=>by
    have hdl:=S.len
    have ed:lenF [zaw ord done] hp = some (.int (done.length:Int),hp):=by
      rw [zaw,zho (by simp only [List.length_map]; lia),List.length_map,List.length_map]
    have t:zmn (zd3 A ord w m Wl done x4 x7 x8) hp = some (decide ((done.length:Int) < ((6:Nat):Int)),hp):=zb2 (zam (zav (zai rfl rfl) ed) (zav (zai rfl rfl) (zp4 hp)) rfl)
    have stop:zc2 (relB A (oOf ord)) f done = []→∃ (x4' x6' x7' x8':Option AV) (hp':Hp),zcd zmn zpu (fuel + 1) (zd3 A ord w m Wl done x4 x7 x8) hp = some (.nx,[some (.loc m),some (za9 w),some (za3 A),some (zdr ord),x4',some (.loc Wl),x6',x7',x8'],hp')∧Lex hp' a m p txt k line []∧hp'.H Wl = some (.list ((plan++zc2 (relB A (oOf ord)) f done).map (zaw ord))):=fun e=>by
      rw [e] at hlen
      simp only [List.flatten_nil,List.length_nil,Nat.zero_add] at hlen
      rw [decide_eq_false (by lia)] at t
      have hr:rem6 done = []:=by
        rw [List.eq_nil_iff_forall_not_mem]
        intro q hq
        obtain ⟨h1,h2⟩:=List.mem_filter.1 hq
        have hq6:=zs7 q hq
        have hqd:q ∉ done:=by simpa using h2
        have:=zeo 6 (q ::done) (List.nodup_cons.2 ⟨hqd,S.nd⟩) fun x hx=>by
          rcases List.mem_cons.1 hx with rfl | hx
          · exact hq6
          · exact S.lt x hx
        simp only [List.length_cons] at this
        lia
      rw [hr] at L
      exact ⟨_,_,_,_,hp,zgh t,L,by rw [e,List.append_nil]; exact hw⟩
    match f with
    | 0=>exact stop rfl
    | f + 1 =>
      by_cases h6:6≤done.length
      · exact stop (by (first | rw [zju,if_pos h6] | rw [zjv,if_pos h6]))
      · have e:zc2 (relB A (oOf ord)) (f + 1) done = (zbv (relB A (oOf ord)) done).take 2 ::zc2 (relB A (oOf ord)) f (done++(zbv (relB A (oOf ord)) done).take 2):=by (first | rw [zju,if_neg h6] | rw [zjv,if_neg h6])
        rw [e] at hlen ⊢
        rw [decide_eq_true (by lia)] at t
        obtain ⟨x4',x7',x8',hp',g1,g2,g3,g4⟩:=zv9 (A:=A) h W S (by lia) L hw hpw hn x4 x7 x8
        obtain ⟨y4,y6,y7,y8,hp'',k1,k2,k3⟩:=zpr h W hpw f fuel _ _ x4' x7' x8' hp' (by lia) (S.next 2) g2 g3 g4 (by
          rw [List.flatten_cons,List.length_append] at hlen
          rw [List.length_append]; lia) (by simp only [List.length_append,List.length_cons,List.length_nil]; lia)
        exact ⟨y4,y6,y7,y8,hp'',zhf t g1 k1,k2,by rw [List.append_assoc] at k3; exact k3⟩
theorem ztg {a m p:Nat} {txt:List Nat} {k line:Nat} (x2 x3 x5 x6 x7 x8:Option AV):∀ (l:List Nat) (pb:List AV) (x4:Option AV) (hp:Hp),(∀ k∈l,k < 6)→Lex hp a m p txt k line pb→pb.length + l.length≤50→
    ∃ (x4':Option AV) (hp':Hp),forM (stE 4) zpt (l.map fun j:Nat=>AV.int j) [some (.loc m),some (za9 w),x2,x3,x4,x5,x6,x7,x8] hp = some (.nx,[some (.loc m),some (za9 w),x2,x3,x4',x5,x6,x7,x8],hp')∧Lex hp' a m p txt k line (pb++l.map fun j=>AV.str (w j)):=by
  intro l
  induction l with
  | nil =>
    intro pb x4 hp _ L _
    exact ⟨x4,hp,rfl,by simpa using L⟩
  | cons j l ih =>
    intro pb x4 hp hl L hlen
    simp only [List.length_cons] at hlen
    obtain ⟨e1,e2⟩:=zox L (by lia) (.str (w j))
    have es:stE 4 (.int (j:Int)) [some (.loc m),some (za9 w),x2,x3,x4,x5,x6,x7,x8] hp = some ([some (.loc m),some (za9 w),x2,x3,some (.int j),x5,x6,x7,x8],hp):=rfl
    have eg:bin zaq (lcl 1) (lcl 4) [some (.loc m),some (za9 w),x2,x3,some (.int j),x5,x6,x7,x8] hp = some (.str (w j),hp) :=
      zam (x:=.fl ((List.range 6).map fun k=>.str (w k))) rfl rfl (zc3 (by have:=hl j (by simp); lia) (zck _ (hl j (by simp))))
    have eb:zpt [some (.loc m),some (za9 w),x2,x3,some (.int j),x5,x6,x7,x8] hp = _:=za2 (zcu (zdf rfl L.inst (zai eg rfl) e1))
    obtain ⟨x4',hp',k1,k2⟩:=ih (pb++[.str (w j)]) (some (.int j)) _ (fun z hz=>hl z (by simp [hz])) e2 (by simp only [List.length_append,List.length_cons,List.length_nil]; lia)
    exact ⟨x4',hp',zeh es eb k1,by simpa using k2⟩
theorem rev_fl {m:ME} {loc:Loc} {hp hp1:Hp} {xs:List AV} (h:m loc hp = some (.fl xs,hp1)):revI m loc hp = some (xs.reverse,hp1):=by
  simp only [revI,h,Option.bind_eq_bind,Option.bind_some]
theorem Perm6.ord_eq (h:Perm6 ord):ord = [oOf ord 0,oOf ord 1,oOf ord 2,oOf ord 3,oOf ord 4,oOf ord 5]:=by
  have hl:=h.len
  clear h
  replace hl:=unc hl; obtain ⟨a,ord,hl⟩:=hl
  replace hl:=unc hl; obtain ⟨b,ord,hl⟩:=hl
  replace hl:=unc hl; obtain ⟨c,ord,hl⟩:=hl
  replace hl:=unc hl; obtain ⟨d,ord,hl⟩:=hl
  replace hl:=unc hl; obtain ⟨e,ord,hl⟩:=hl
  replace hl:=unc hl; obtain ⟨f,ord,hl⟩:=hl
  replace hl:=unc0 hl; subst hl
  rfl
theorem zkh (h:Perm6 ord) (W:Words w) (PO:PlanOk (relB A (oOf ord)) (zc2 (relB A (oOf ord)) 7 [])) {a m p:Nat} {txt:List Nat} {k line:Nat} {hp:Hp} (L:Lex hp a m p txt k line []) :
    ∃ hp',zcs [.loc m,za9 w,za3 A,zdr ord] hp = some (.fl ((zc2 (relB A (oOf ord)) 7 []).map (zaw ord)),hp')∧Lex hp' a m p txt k line []:=by
  obtain ⟨x4,hp1,e1,L1⟩:=ztg (w:=w) (some (za3 A)) (some (zdr ord)) none none none none ord.reverse [] none hp (fun k hk=>h.lt k (List.mem_reverse.1 hk)) L (by rw [List.length_reverse,h.len]; simp)
  rw [List.nil_append] at L1
  have er:ord.reverse.map (fun j:Nat=>AV.int j) = (ord.map fun j:Nat=>AV.int j).reverse:=by rw [List.map_reverse]
  rw [er] at e1
  have s1:forS (revI (lcl 3)) (stE 4) zpt [some (.loc m),some (za9 w),some (za3 A),some (zdr ord),none,none,none,none,none] hp = _:=zfn (rev_fl (xs:=ord.map fun j:Nat=>AV.int j) rfl) e1
  have hrem:ord.reverse.map (fun j=>AV.str (w j)) = (rem6 []).map (wdAV ord w):=by
    have:rem6 [] = [5,4,3,2,1,0]:=rfl
    rw [this]
    conv=>lhs; rw [h.ord_eq]
    rfl
  rw [hrem] at L1
  have s2:asgS (lcz (lstE zaf)) (stE 5) [some (.loc m),some (za9 w),some (za3 A),some (zdr ord),x4,none,none,none,none] hp1 = some (.nx,[some (.loc m),some (za9 w),some (za3 A),some (zdr ord),x4,some (.loc hp1.N),none,none,none],hp1.new (.list [])):=zaz (zfl (zc9 (xs:=[]) rfl (by simp))) rfl
  have s3:asgS (flz (lstE zaf)) (stE 6) [some (.loc m),some (za9 w),some (za3 A),some (zdr ord),x4,some (.loc hp1.N),none,none,none] (hp1.new (.list [])) = some (.nx,zd3 A ord w m hp1.N [] x4 none none,hp1.new (.list [])):=zaz (zig _ _) rfl
  obtain ⟨y4,y6,y7,y8,hp2,w1,w2,w3⟩:=zpr (A:=A) h W (Wl:=hp1.N) L1.pn 7 1000 [] [] x4 none none (hp1.new (.list [])) (by lia) ⟨.nil,by simp,by simp⟩ (L1.new _) (zfr _ _) (Nat.lt_succ_self _) (by rw [PO.len]; rfl) (by simp)
  rw [List.nil_append] at w3
  have ef:=zhb (i:=5) (loc:=[some (.loc m),some (za9 w),some (za3 A),some (zdr ord),y4,some (.loc hp1.N),y6,y7,y8]) rfl w3
  have hpn:=L1.pn; have ham:=L1.am; have hmp:=L1.mp
  rw [pl_def]
  refine ⟨_,zdv rfl (zao s1 (zao s2 (zao s3 (zao w1 (zao ef (zb6 (zdp rfl))))))),?_⟩
  exact w2.keep (zb8 _ (by lia)) (zb8 _ (by lia)) (by rw [zb8 _ (by lia),w2.hpb]) (Nat.le_refl _)
end
theorem zjx (G:Nat→Nat→Bool):∀ (f:Nat) (l:List Nat),l.length≤f→mmP G (f + 1) l = mmP G f l
  | 0,[],_=>rfl
  | 0,_ ::_,h=>by simp at h
  | f + 1,[],_=>rfl
  | f + 1,i ::r,h=>by
    simp only [List.length_cons] at h
    rw [mmP,mmP,zjx G f r (by lia)]
    congr 1
    funext m j
    rw [zjx G f _ (Nat.le_trans (List.length_filter_le _ _) (by lia))]
theorem zqj:∀ mask,mask < 64→1≤mask→mask.log2 < 6∧2 ^ mask.log2≤mask∧mask - 2 ^ mask.log2 < 2 ^ mask.log2∧ze4 mask = mask.log2 ::ze4 (mask - 2 ^ mask.log2):=by decide +kernel
theorem zoj:∀ x,x < 64→∀ j,j < 6→x.testBit j = true→ze4 (x - 2 ^ j) = (ze4 x).filter (· != j)∧2 ^ j≤x:=by decide +kernel
theorem zqk (x:Nat):(ze4 x).reverse = (List.range 6).filter fun b=>x.testBit b:=by
  rw [ze4,← List.filter_reverse]; rfl
theorem zob {α:Type} (c:Nat→Bool) (g:α→Nat→α):∀ (l:List Nat) (m:α),(l.filter c).foldl g m = l.foldl (fun m j=>if c j then g m j else m) m:=by
  intro l
  induction l with
  | nil =>
    intro m
    exact rfl
  | cons j l ih =>
    intro m
    by_cases h:c j = true
    · rw [List.filter_cons_of_pos h,List.foldl_cons,List.foldl_cons,if_pos h]; exact ih _
    · rw [List.filter_cons_of_neg h,List.foldl_cons,if_neg h]; exact ih _
theorem zup (g:Nat→Bool) (v:Nat→Nat) {l l':List Nat} (p:l.Perm l') (m:Nat):l.foldl (fun m j=>if g j then max m (v j) else m) m = l'.foldl (fun m j=>if g j then max m (v j) else m) m:=by
  refine p.foldl_eq' (fun a _ b _ z=>?_) m
  split <;> split <;> lia
noncomputable def zes (G:Nat→Nat→Bool) (x:Nat):Nat:=mmP G 6 (ze4 x)
noncomputable def aptP (G:Nat→Nat→Bool) (i:Nat):List Nat:=(List.range i).filter (G i)
theorem zu9 (G:Nat→Nat→Bool) {mask:Nat} (h1:1≤mask) (h2:mask < 64) :
    (aptP G mask.log2).foldl (fun m j=>if (mask - 2 ^ mask.log2).testBit j then max m (zes G (mask - 2 ^ mask.log2 - 2 ^ j) + 1) else m) (zes G (mask - 2 ^ mask.log2)) = zes G mask:=by
  obtain ⟨a1,a2,a3,a4⟩:=zqj mask h2 h1
  have hb:zes G mask = mmP G 6 (mask.log2 ::ze4 (mask - 2 ^ mask.log2)):=by rw [zes,a4]
  generalize mask.log2 = i at *
  have hx:mask - 2 ^ i < 64:=by lia
  generalize mask - 2 ^ i = x at *
  have hl:(ze4 x).length≤5:=by
    have e:(ze4 x).length = ((List.range 6).filter fun b=>x.testBit b).length:=by rw [← zqk,List.length_reverse]
    rw [e]
    have:(List.range 6).filter (fun b=>x.testBit b) = (List.range 5).filter fun b=>x.testBit b:=by
      have h5:x.testBit 5 = false:=Nat.testBit_lt_two_pow (Nat.lt_of_lt_of_le a3 (Nat.pow_le_pow_right (by lia) (by lia)))
      rw [show List.range 6 = List.range 5++[5] from rfl,List.filter_append,List.filter_cons_of_neg (by simp [h5])]
      simp
    rw [this]
    exact Nat.le_trans (List.length_filter_le _ _) (by simp)
  rw [hb,mmP]
  rw [zes,zjx G 5 _ hl,aptP,zob]
  have e1:∀ m,(List.range i).foldl (fun m j=>if G i j = true then (if x.testBit j = true then max m (zes G (x - 2 ^ j) + 1) else m) else m) m = ((List.range i).filter fun b=>x.testBit b).foldl (fun m j=>if G i j = true then max m (zes G (x - 2 ^ j) + 1) else m) m:=fun m=>by
    rw [zob]
    congr 1
    funext m j
    cases G i j <;> cases x.testBit j <;> rfl
  rw [e1]
  have e2:(List.range i).filter (fun b=>x.testBit b) = (ze4 x).reverse:=by
    rw [zqk]
    have:List.range 6 = List.range i++(List.range (6 - i)).map (i + ·):=by rw [← List.range_add]; congr 1; lia
    rw [this,List.filter_append]
    have h5:((List.range (6 - i)).map (i + ·)).filter (fun b=>x.testBit b) = []:=by
      rw [List.filter_eq_nil_iff]
      intro q hq
      obtain ⟨z,_,rfl⟩:=List.mem_map.1 hq
      rw [Nat.testBit_lt_two_pow (Nat.lt_of_lt_of_le a3 (Nat.pow_le_pow_right (by lia) (by lia)))]
      simp
    rw [h5,List.append_nil]
  rw [e2,zup (G i) (fun j=>zes G (x - 2 ^ j) + 1) (List.reverse_perm _)]
  have e3:∀ (l:List Nat) (m:Nat),(∀ j∈l,j∈ze4 x)→l.foldl (fun m j=>if G i j = true then max m (zes G (x - 2 ^ j) + 1) else m) m = l.foldl (fun m j=>if G i j = true then max m (mmP G 5 ((ze4 x).filter (· != j)) + 1) else m) m:=by
    intro l
    induction l with
    | nil=>intro m _; rfl
    | cons j l ih =>
      intro m hl
      have hj:=hl j (by simp)
      obtain ⟨j1,j2⟩:=List.mem_filter.1 hj
      have hj6:j < 6:=by simp at j1; lia
      obtain ⟨b1,_⟩:=zoj x hx j hj6 j2
      have:zes G (x - 2 ^ j) = mmP G 5 ((ze4 x).filter (· != j)):=by
        rw [zes,b1,zjx G 5 _ (Nat.le_trans (List.length_filter_le _ _) ‹_›)]
      simp only [List.foldl_cons,this]
      exact ih _ fun y hy=>hl y (by simp [hy])
  rw [e3 _ _ fun _ h=>h]
theorem zs0 {j:Nat} (h:j≤100) (hp:Hp):shlA (.int 1) (.int j) hp = some (.int (2 ^ j:Nat),hp):=by
  have hc:(0:Int)≤(j:Int)∧(j:Int)≤1000∧(1:Int).natAbs < 2 ^ 60:=⟨by lia,by lia,by decide⟩
  have e:(1:Int) * 2 ^ (j:Int).toNat = ((2 ^ j:Nat):Int):=by rw [Int.one_mul,Int.toNat_natCast]; simp
  exact (zmt _ _ _ hp).trans (congrArg (Option.map (·,hp)) ((if_pos hc).trans (congrArg (fun z=>some (AV.int z)) e)))
theorem shr_eq (x j:Nat) (hp:Hp):shrA (.int x) (.int j) hp = some (.int (x / 2 ^ j:Nat),hp):=by
  have hc:(0:Int)≤(j:Int):=by lia
  have e:((x:Nat):Int).fdiv (2 ^ (j:Int).toNat) = ((x / 2 ^ j:Nat):Int):=by
    rw [Int.toNat_natCast,show ((2:Int) ^ j) = ((2 ^ j:Nat):Int) by simp,← Int.ofNat_fdiv]
  exact (zmt _ _ _ hp).trans (congrArg (Option.map (·,hp)) ((if_pos hc).trans (congrArg (fun z=>some (AV.int z)) e)))
theorem zz7 (x:Nat) (hp:Hp):andA (.int x) (.int 1) hp = some (.int (x % 2:Nat),hp):=by
  have e:Builtin.bitAnd (x:Int) 1 = ((x % 2:Nat):Int):=by
    have h1:decide ((0:Int)≤(x:Int)) = true:=decide_eq_true (by lia)
    have h2:decide ((0:Int)≤1) = true:=decide_eq_true (by lia)
    simp only [Builtin.bitAnd,h1,h2,Int.toNat_natCast]
    rw [show (1:Int).toNat = 1 from rfl,Nat.and_one_is_mod]
  exact congrArg (fun z=>some (AV.int z,hp)) e
theorem zz4 {x:Nat} (h:1≤x) (hp:Hp):zrr [.int x] hp = some (.int ((x.log2 + 1:Nat):Int),hp):=by
  have e:Builtin.Int.intBits (x:Int) = x.log2 + 1:=by
    have:((x:Int) == 0) = false:=by rw [beq_eq_false_iff_ne]; lia
    simp only [Builtin.Int.intBits,this,Bool.false_eq_true,if_false,Int.natAbs_natCast]
  exact congrArg (fun z:Nat=>some (AV.int z,hp)) e
theorem zop {a b:Nat} (h:b≤a) (hp:Hp):subA (.int a) (.int b) hp = some (.int (a - b:Nat),hp):=by
  exact congrArg (fun z=>some (AV.int z,hp)) (show (a:Int) - (b:Int) = ((a - b:Nat):Int) by lia)
noncomputable def zxu:MB:=tru (bin andA (bin shrA (lcl 4) (lcl 6)) (cst (.int 1)))
noncomputable def mpIn:MS:=seqS (iteS zxu (seqS (asgS (zas maxF (zac (lcl 5) (zac (bin addA (bin zaq (lcl 1) (bin subA (lcl 4) (bin shlA (cst (.int 1)) (lcl 6)))) (cst (.int 1))) zaf))) (stE 5)) nilS) nilS) nilS
noncomputable def zwe:MS:=seqS (asgS (bin subA (zcc "int" zrr (lcl 2) zaf) (cst (.int 1))) (stE 3)) (seqS (asgS (bin subA (lcl 2) (bin shlA (cst (.int 1)) (lcl 3))) (stE 4)) (seqS (asgS (bin zaq (lcl 1) (lcl 4)) (stE 5)) (seqS (forS (valI (bin zaq (lcl 0) (lcl 3))) (stE 6) mpIn) (seqS (zcl (zcc "list" zca (lcl 1) (zac (lcl 5) zaf))) nilS))))
theorem mp_def:zcm = runF 1 7 (seqS (asgS (lcz (lstE (zac (cst (.int 0)) zaf))) (stE 1)) (seqS (forS (valI (zas zbh (zac (cst (.int 1)) (zac (bin shlA (cst (.int 1)) (zas lenF (zac (lcl 0) zaf))) zaf)))) (stE 2) zwe) (seqS (retS (bin zaq (lcl 1) (una negA (cst (.int 1))))) nilS))):=rfl
noncomputable def zfj (G:Nat→Nat→Bool):AV:=.fl ((List.range 6).map fun i=>.fl ((aptP G i).map fun j:Nat=>AV.int j))
noncomputable abbrev zg8 (G:Nat→Nat→Bool) (B mask:Nat) (x3 x4 x5 x6:Option AV):Loc:=[some (zfj G),some (.loc B),some (.int mask),x3,x4,x5,x6]
theorem mp_in (G:Nat→Nat→Bool) (B mask i x:Nat) (hx:x < 64) {hp:Hp} {bs:List Nat} (hB:hp.H B = some (.list (bs.map fun b:Nat=>AV.int b))) (hxb:x < bs.length):∀ (l:List Nat) (mo:Nat) (x6:Option AV),(∀ j∈l,j < 6)→
    ∃ x6',forM (stE 6) mpIn (l.map fun j:Nat=>AV.int j) (zg8 G B mask (some (.int i)) (some (.int x)) (some (.int mo)) x6) hp = some (.nx,zg8 G B mask (some (.int i)) (some (.int x)) (some (.int (l.foldl (fun m j=>if x.testBit j = true then max m (bs.getD (x - 2 ^ j) 0 + 1) else m) mo:Nat))) x6',hp):=by
  intro l
  induction l with
  | nil =>
    intro mo x6 _
    exact ⟨x6,rfl⟩
  | cons j l ih =>
    intro mo x6 hl
    have hj:=hl j (by simp)
    have es:stE 6 (.int (j:Int)) (zg8 G B mask (some (.int i)) (some (.int x)) (some (.int mo)) x6) hp = some (zg8 G B mask (some (.int i)) (some (.int x)) (some (.int mo)) (some (.int j)),hp):=rfl
    have t:zxu (zg8 G B mask (some (.int i)) (some (.int x)) (some (.int mo)) (some (.int j))) hp = some (x.testBit j,hp):=by
      refine zh4 (zam (zam rfl rfl (shr_eq x j hp)) rfl (zz7 _ hp)) ?_
      refine congrArg some ?_
      rw [Nat.testBit_eq_decide_div_mod_eq,Bool.eq_iff_iff,bne_iff_ne,decide_eq_true_eq]
      lia
    rw [List.foldl_cons]
    by_cases hb:x.testBit j = true
    · rw [hb] at t
      obtain ⟨_,h2⟩:=zoj x hx j hj hb
      have hsub:=Nat.sub_le x (2 ^ j)
      have e1:bin zaq (lcl 1) (bin subA (lcl 4) (bin shlA (cst (.int 1)) (lcl 6))) (zg8 G B mask (some (.int i)) (some (.int x)) (some (.int mo)) (some (.int j))) hp = some (.int (bs.getD (x - 2 ^ j) 0:Nat),hp):=by
        refine zam rfl (zam rfl (zam rfl rfl (zs0 (by lia) hp)) (zop h2 hp)) (zcn hB (by lia) ?_)
        have:x - 2 ^ j < bs.length:=by lia
        simp [List.getD_eq_getElem?_getD,this]
      have e2:maxF [.int mo,.int ((bs.getD (x - 2 ^ j) 0:Nat) + 1)] hp = some (.int (max mo (bs.getD (x - 2 ^ j) 0 + 1):Nat),hp):=by
        refine congrArg (fun z=>some (AV.int z,hp)) ?_
        split <;> lia
      have eb:mpIn (zg8 G B mask (some (.int i)) (some (.int x)) (some (.int mo)) (some (.int j))) hp = _:=za2 (zfi t (za2 (zaz (zav (zai rfl (zai (zam e1 rfl rfl) rfl)) e2) rfl)))
      obtain ⟨x6',k1⟩:=ih (max mo (bs.getD (x - 2 ^ j) 0 + 1)) (some (.int j)) fun y hy=>hl y (by simp [hy])
      rw [if_pos hb]
      exact ⟨x6',zeh es eb k1⟩
    · rw [Bool.not_eq_true] at hb
      rw [hb] at t
      have eb:mpIn (zg8 G B mask (some (.int i)) (some (.int x)) (some (.int mo)) (some (.int j))) hp = _:=za2 (zdb t rfl)
      obtain ⟨x6',k1⟩:=ih mo (some (.int j)) fun y hy=>hl y (by simp [hy])
      rw [if_neg (by rw [hb]; simp)]
      exact ⟨x6',zeh es eb k1⟩
theorem mp_out (G:Nat→Nat→Bool) (B:Nat):∀ (n s:Nat) (x2 x3 x4 x5 x6:Option AV) (hp:Hp),s + n = 63→hp.H B = some (.list (((List.range (1 + s)).map (zes G)).map fun b:Nat=>AV.int b))→
    ∃ x2' x3' x4' x5' x6' hp',forM (stE 2) zwe ((List.range' s n).map fun i:Nat=>AV.int (((1:Nat):Int) + (i:Int))) [some (zfj G),some (.loc B),x2,x3,x4,x5,x6] hp = some (.nx,[some (zfj G),some (.loc B),x2',x3',x4',x5',x6'],hp')∧hp'.H B = some (.list (((List.range 64).map (zes G)).map fun b:Nat=>AV.int b))∧hp'.N = hp.N∧∀ j,j≠B→hp'.H j = hp.H j:=by
  intro n
  induction n with
  | zero =>
    intro s x2 x3 x4 x5 x6 hp hsn hB
    have:s = 63:=by lia
    subst this
    exact ⟨_,_,_,_,_,hp,rfl,hB,rfl,fun _ _=>rfl⟩
  | succ n ih =>
    intro s x2 x3 x4 x5 x6 hp hsn hB
    obtain ⟨a1,a2,a3,a4⟩:=zqj (1 + s) (by lia) (by lia)
    have hbest:=zu9 G (mask:=1 + s) (by lia) (by lia)
    have hl2:(1 + s) - 2 ^ (1 + s).log2 < 1 + s:=by
      have:=Nat.two_pow_pos (1 + s).log2
      lia
    have es:stE 2 (.int (((1:Nat):Int) + (s:Int))) [some (zfj G),some (.loc B),x2,x3,x4,x5,x6] hp = some (zg8 G B (1 + s) x3 x4 x5 x6,hp):=by
      rw [show ((1:Nat):Int) + (s:Int) = ((1 + s:Nat):Int) by lia]; rfl
    have s1:asgS (bin subA (zcc "int" zrr (lcl 2) zaf) (cst (.int 1))) (stE 3) (zg8 G B (1 + s) x3 x4 x5 x6) hp = some (.nx,zg8 G B (1 + s) (some (.int (1 + s).log2)) x4 x5 x6,hp):=by
      refine zaz (zam (zc8 rfl rfl rfl (zz4 (by lia) hp)) rfl (zop (b:=1) (by lia) hp)) ?_
      rfl
    have s2:asgS (bin subA (lcl 2) (bin shlA (cst (.int 1)) (lcl 3))) (stE 4) (zg8 G B (1 + s) (some (.int (1 + s).log2)) x4 x5 x6) hp = some (.nx,zg8 G B (1 + s) (some (.int (1 + s).log2)) (some (.int ((1 + s) - 2 ^ (1 + s).log2:Nat))) x5 x6,hp) :=
      zaz (zam rfl (zam rfl rfl (zs0 (by lia) hp)) (zop a2 hp)) rfl
    have hget:∀ y,y < 1 + s→((List.range (1 + s)).map (zes G)).getD y 0 = zes G y:=fun y hy=>zd9 _ hy
    generalize (1 + s).log2 = i at *
    have hx64:1 + s - 2 ^ i < 64:=by lia
    generalize hx:1 + s - 2 ^ i = x at *
    have s3:asgS (bin zaq (lcl 1) (lcl 4)) (stE 5) (zg8 G B (1 + s) (some (.int i)) (some (.int x)) x5 x6) hp = some (.nx,zg8 G B (1 + s) (some (.int i)) (some (.int x)) (some (.int (zes G x:Nat))) x6,hp) :=
      zaz (zam rfl rfl (zcn hB (by lia) (by simp [hl2]))) rfl
    obtain ⟨x6',k1⟩:=mp_in G B (1 + s) i x hx64 hB (by simp; lia) (aptP G i) (zes G x) x6 (fun j hj=>by
      have:=List.mem_range.1 (List.mem_filter.1 hj).1; lia)
    have hfold:(aptP G i).foldl (fun m j=>if x.testBit j = true then max m (((List.range (1 + s)).map (zes G)).getD (x - 2 ^ j) 0 + 1) else m) (zes G x) = zes G (1 + s):=by
      rw [← hbest]
      congr 1
      funext m j
      have hsub:=Nat.sub_le x (2 ^ j)
      rw [hget _ (by lia)]
    rw [hfold] at k1
    have s4:forS (valI (bin zaq (lcl 0) (lcl 3))) (stE 6) mpIn (zg8 G B (1 + s) (some (.int i)) (some (.int x)) (some (.int (zes G x:Nat))) x6) hp = _ :=
      zfn (zb5 (zam (x:=.fl ((List.range 6).map fun i=>.fl ((aptP G i).map fun j:Nat=>AV.int j))) rfl rfl (zc3 (by lia) (zck _ a1))) rfl) k1
    have ea:=zdz (.int (zes G (1 + s):Nat)) hB (by simp; lia)
    rw [show (((List.range (1 + s)).map (zes G)).map fun b:Nat=>AV.int b)++[AV.int (zes G (1 + s):Nat)] = ((List.range (1 + (s + 1))).map (zes G)).map fun b:Nat=>AV.int b by
      rw [show 1 + (s + 1) = (1 + s) + 1 by lia,List.range_succ]; simp] at ea
    have eb:zwe (zg8 G B (1 + s) x3 x4 x5 x6) hp = _:=zao s1 (zao s2 (zao s3 (zao s4 (za2 (zcu (zc8 rfl (zd0 hB) (zai rfl rfl) ea))))))
    obtain ⟨y2,y3,y4,y5,y6,hp',g1,g2,g3,g4⟩:=ih (s + 1) _ _ _ _ _ _ (by lia) (zcb hp B (.list (((List.range (1 + (s + 1))).map (zes G)).map fun b:Nat=>AV.int b)))
    exact ⟨y2,y3,y4,y5,y6,hp',zeh es eb g1,g2,g3,fun j hj=>by rw [g4 j hj,za1 _ _ hj]⟩
theorem zmp (G:Nat→Nat→Bool) (hp:Hp):∃ hp',zcm [zfj G] hp = some (.int (mmP G 6 [5,4,3,2,1,0]:Nat),hp')∧Upp hp hp':=by
  have el:lenF [zfj G] (hp.new (.list [.int 0])) = some (.int ((6:Nat):Int),hp.new (.list [.int 0])):=zho (xs:=(List.range 6).map fun i=>.fl ((aptP G i).map fun j:Nat=>AV.int j)) (by simp)
  have ei:=zgk (a:=1) (b:=64) (by lia) (by lia)
  rw [show 64 - 1 = 63 from rfl,List.range_eq_range'] at ei
  obtain ⟨y2,y3,y4,y5,y6,hp',g1,g2,g3,g4⟩:=mp_out G hp.N 63 0 none none none none none (hp.new (.list [.int 0])) (by lia) (zfr _ _)
  have s1:asgS (lcz (lstE (zac (cst (.int 0)) zaf))) (stE 1) [some (zfj G),none,none,none,none,none,none] hp = some (.nx,[some (zfj G),some (.loc hp.N),none,none,none,none,none],hp.new (.list [.int 0])):=zaz (zfl (zc9 (xs:=[.int 0]) rfl (by simp))) rfl
  have s2:forS (valI (zas zbh (zac (cst (.int 1)) (zac (bin shlA (cst (.int 1)) (zas lenF (zac (lcl 0) zaf))) zaf)))) (stE 2) zwe [some (zfj G),some (.loc hp.N),none,none,none,none,none] (hp.new (.list [.int 0])) = _ :=
    zfn (zb5 (zav (zai rfl (zai (zam rfl (zav (zai rfl rfl) el) (zs0 (j:=6) (by lia) _)) rfl)) rfl) ei) g1
  have e3:zaq (.loc hp.N) (.int (-1)) hp' = some (.int (mmP G 6 [5,4,3,2,1,0]:Nat),hp'):=by
    have h1:¬ (0:Int)≤-1:=by lia
    have hlen:(((List.range 64).map (zes G)).map fun b:Nat=>AV.int b).length = 64:=by simp
    have h2:-((64:Nat):Int)≤-1∧(-1000000:Int) < -1:=by lia
    have h4:(((List.range 64).map (zes G)).map fun b:Nat=>AV.int b)[63]? = some (.int (mmP G 6 [5,4,3,2,1,0]:Nat)):=by
      simp only [List.getElem?_map,List.getElem?_range (show 63 < 64 by lia),Option.map_some]
      rfl
    refine (zr4 _ _ _).trans (bE (lE g2 rfl) ((if_neg h1).trans ?_))
    rw [hlen]
    exact (if_pos h2).trans (congrArg (Option.map _) h4)
  rw [mp_def]
  refine ⟨hp',zdv rfl (zao s1 (zao s2 (zb6 (zdp (zam rfl rfl e3))))),?_,fun j hj=>?_⟩
  · rw [g3,zi7]; lia
  · rw [g4 j (by lia),zct _ _ (by lia)]
section
variable {loc:Loc} {hp:Hp} {v:AV} {i:Nat}
theorem zbl (h:loc[i]? = some (some v)):lcl i loc hp = some (v,hp):=bE h rfl
theorem zf2 (h:i < loc.length):stE i v loc hp = some (loc.set i (some v),hp):=by simp only [stE,if_pos h]
theorem zjg {a:Nat} {x:AV} (h:loc[a]? = some (some x)):pick [a] loc = [some x]:=by simp [pick,h]
theorem ztl {a b:Nat} {x y:AV} (h:loc[a]? = some (some x)) (h2:loc[b]? = some (some y)):pick [a,b] loc = [some x,some y]:=by simp [pick,h,h2]
end
noncomputable def cdU (us:List Nat) (k:Nat):Nat:=us.getD k 0 % 63
noncomputable def wyU (us:List Nat) (k:Nat):Nat:=us.getD k 0 / 63 % 3
noncomputable def spU (us:List Nat) (k:Nat):Nat:=if us.getD k 0 / 189 % 2 = 0 then 10 else 32
noncomputable def ldU (us:List Nat) (k:Nat):List Nat:=zms 6 (cdU us k + 1)
noncomputable def wdU (us:List Nat) (k:Nat):List Nat:=ldU us k++[97 + k]++[32,9]
theorem zrc:∀ c,c < 63→(zms 6 (c + 1)).length≤5∧(zms 6 (c + 1)).all (fun x=>x == 9 || x == 32) = true:=by decide +kernel
theorem zoh (us:List Nat) (k:Nat):cdU us k < 63:=Nat.mod_lt _ (by lia)
theorem zwl (us:List Nat) (k:Nat):(ldU us k).length≤5∧∀ c∈ldU us k,c = 9∨c = 32:=by
  have h:=zrc _ (zoh us k)
  refine ⟨h.1,fun c hc=>?_⟩
  have:=List.all_eq_true.1 h.2 c hc
  simpa using this
theorem zng (us:List Nat):Words (wdU us) where
  ok k hk:=by
    obtain ⟨h1,h2⟩:=zwl us k
    refine ⟨by simp [wdU],fun c hc=>?_,by simp [wdU]; lia⟩
    simp only [wdU,List.mem_append,List.mem_cons,List.not_mem_nil,or_false] at hc
    rcases hc with (hc | hc) | hc | hc
    · rcases h2 c hc with e | e <;> lia
    · lia
    · lia
    · lia
  inj i j hi hj e:=by
    simp only [wdU] at e
    have e1:=(List.append_inj' e rfl).1
    have e2:=(List.append_inj' e1 rfl).2
    simp at e2; exact e2
  bar k hk e:=by
    have:=congrArg List.length e
    simp [wdU] at this
theorem zj1 (us:List Nat) (k:Nat):(wdU us k).length≤8:=by have:=(zwl us k).1; simp [wdU]; lia
noncomputable def zbe:List (List Nat × Nat × Nat)→List Nat
  | []=>[]
  | (w,y,s) ::r=>zd1 w y++s ::zbe r
theorem zgs:∀ (a b:List (List Nat × Nat × Nat)),zbe (a++b) = zbe a++zbe b
  | [],b=>rfl
  | (w,y,s) ::a,b=>by simp [zbe,zgs a b]
theorem zlo (w:List Nat) (y:Nat):(zd1 w y).length≤2 * w.length + 2:=by
  match y with
  | 0=>simp [zd1]; lia
  | 1=>simp [zd1,zjz]
  | n + 2=>simp [zd1,zjz]
section
variable {loc:Loc} {hp:Hp}
theorem zsa (ns:List Int) (hns:ns.length≤63) (h0:loc[0]? = some (some (.fl (ns.map .int)))) (hl:loc.length = 24) :
    ∃ (us:List Nat) (hp':Hp),asgS (zas zft (zac (lcl 0) (zac (flz (lstE (zac (cst (.int 2)) (zac (cst (.int 67)) (zac (cst (.int 129)) (zac (cst (.int 7)) (zac (cst (.int 196)) (zac (cst (.int 74)) zaf)))))))) zaf))) (stE 1) loc hp = some (.nx,loc.set 1 (some (.fl (us.map fun u:Nat=>AV.int u))),hp')∧us.length = 6∧Upp hp hp':=by
  obtain ⟨us,hp',e1,e2,e3⟩:=zrz ns hns [2,67,129,7,196,74] rfl hp
  exact ⟨us,hp',zaz (zav (zai (zbl h0) (zai (zbw (zc9 (xs:=[.int 2,.int 67,.int 129,.int 7,.int 196,.int 74]) rfl (by simp))) rfl)) e1) (zf2 (by lia)),e2,e3⟩
theorem zvj {us:List Nat} (hu:us.length = 6) (f:Nat→AV):us.map f = (List.range 6).map fun k=>f (us.getD k 0):=by
  refine List.ext_getElem (by simp [hu]) fun i h1 h2=>?_
  simp only [List.length_map] at h1
  simp [List.getD_eq_getElem?_getD,h1]
theorem zvt {us:List Nat} (hu:us.length = 6) (h1:loc[1]? = some (some (.fl (us.map fun u:Nat=>AV.int u)))) (hl:loc.length = 24) :
    asgS (flz (zbo 1 [] (valI (lcl 1)) (stE 0) (cstB true) (zas ze7 (zac (bin addA (bin modA (lcl 0) (cst (.int 63))) (cst (.int 1))) zaf)))) (stE 2) loc hp = some (.nx,loc.set 2 (some (.fl ((List.range 6).map fun k=>.str (ldU us k)))),hp):=by
  have c:=zd2 (fun k:Nat=>AV.int (us.getD k 0:Nat)) (fun _=>true) (fun k=>AV.str (ldU us k)) (tests:=cstB true) (elt:=zas ze7 (zac (bin addA (bin modA (lcl 0) (cst (.int 63))) (cst (.int 1))) zaf)) (frees:=[]) (loc:=loc) (ite:=valI (lcl 1)) (hp:=hp) (List.range 6)
    (zb5 (zbl h1) (by rw [zvj hu]; rfl)) (by simp) (fun k _=>⟨rfl,fun _=>by
      refine zav (zai (zam (zam rfl rfl (zkp (b:=63) (by decide) hp)) rfl rfl) rfl) ?_
      exact zzj (cdU us k) (zoh us k) hp⟩)
  rw [zcr] at c
  exact zaz (zbw c) (zf2 (by lia))
theorem zvp {us:List Nat} (h2:loc[2]? = some (some (.fl ((List.range 6).map fun k=>.str (ldU us k))))) (hl:loc.length = 24) :
    asgS (flz (zbo 1 [2] (valI (zas zbh (zac (cst (.int 6)) zaf))) (stE 0) (cstB true) (bin addA (bin addA (bin zaq (lcl 1) (lcl 0)) (bin zaq (cst (.str [97,98,99,100,101,102])) (lcl 0))) (cst (.str [32,9]))))) (stE 3) loc hp = some (.nx,loc.set 3 (some (za9 (wdU us))),hp):=by
  have c:=zd2 (fun k:Nat=>AV.int (k:Int)) (fun _=>true) (fun k=>AV.str (wdU us k)) (tests:=cstB true) (elt:=bin addA (bin addA (bin zaq (lcl 1) (lcl 0)) (bin zaq (cst (.str [97,98,99,100,101,102])) (lcl 0))) (cst (.str [32,9]))) (frees:=[2]) (loc:=loc) (ite:=valI (zas zbh (zac (cst (.int 6)) zaf))) (hp:=hp) (List.range 6)
    (zb5 (zav (zai rfl rfl) rfl) (zbs (b:=6) (by lia))) (by simp) (fun k hk=>⟨rfl,fun _=>by
      rw [zjg h2]
      have hk6:=List.mem_range.1 hk
      have hl5:=(zwl us k).1
      have e1:([97,98,99,100,101,102]:List Nat)[k]? = some (97 + k):=(by decide:∀ k < 6,([97,98,99,100,101,102]:List Nat)[k]? = some (97 + k)) k hk6
      exact zam (zam (zam rfl rfl (zc3 (by lia) (zck _ hk6))) (zam rfl rfl (zr3 (by lia) e1)) (add_str (a:=ldU us k) (b:=[97 + k]) (by simp; lia) hp)) rfl (add_str (a:=ldU us k++[97 + k]) (b:=[32,9]) (by simp; lia) hp)⟩)
  rw [zcr] at c
  exact zaz (zbw c) (zf2 (by lia))
noncomputable def zrw:MS:=seqS (asgS (bin addA (bin addA (lcl 4) (zas zfa (zac (bin zaq (lcl 3) (lcl 5)) (zac (bin modA (bin fdvA (bin zaq (lcl 1) (lcl 5)) (cst (.int 63))) (cst (.int 3))) zaf)))) (bin zaq (flz (lstE (zac (cst (.str [10])) (zac (cst (.str [32])) zaf)))) (bin modA (bin fdvA (bin zaq (lcl 1) (lcl 5)) (cst (.int 189))) (cst (.int 2))))) (stE 4)) nilS
noncomputable def tkU (us:List Nat) (k:Nat):List Nat × Nat × Nat:=(wdU us k,wyU us k,spU us k)
theorem zf5 {α:Type} {l:List α} {i:Nat} {x:α} (h:l[i]? = some x):l.set i x = l:=by
  obtain ⟨hlt,e⟩:=List.getElem?_eq_some_iff.1 h
  rw [← e]; exact List.set_getElem_self hlt
theorem zer {α:Type} {l:List α} {i j:Nat} {x:α} (h:i≠j):(l.set i x)[j]? = l[j]?:=by rw [List.getElem?_set_ne h]
theorem zx8 {us:List Nat} (hu:us.length = 6) (h1:loc[1]? = some (some (.fl (us.map fun u:Nat=>AV.int u)))) (h3:loc[3]? = some (some (za9 (wdU us)))) (hl:loc.length = 24) :
    ∀ (l:List Nat) (x5:Option AV) (t:List Nat),(∀ k∈l,k < 6)→t.length + 30 * l.length≤1000→
    ∃ x5',forM (stE 5) zrw (l.map fun k:Nat=>AV.int (k:Int)) ((loc.set 5 x5).set 4 (some (.str t))) hp = some (.nx,(loc.set 5 x5').set 4 (some (.str (t++zbe (l.map (tkU us))))),hp):=by
  intro l
  induction l with
  | nil =>
    intro x5 t _ _
    exact ⟨x5,by simp [zbe,zum,zul]⟩
  | cons k l ih =>
    intro x5 t hk ht
    have hk6:=hk k (by simp)
    simp only [List.length_cons] at ht
    have es:stE 5 (.int (k:Int)) ((loc.set 5 x5).set 4 (some (.str t))) hp = some ((loc.set 5 (some (.int k))).set 4 (some (.str t)),hp):=by
      rw [zf2 (by simp [hl])]
      rw [List.set_comm _ _ (by decide),List.set_set]
    have g1:((loc.set 5 (some (.int k))).set 4 (some (.str t)))[1]? = _:=(zer (by decide)).trans ((zer (by decide)).trans h1)
    have g3:((loc.set 5 (some (.int k))).set 4 (some (.str t)))[3]? = _:=(zer (by decide)).trans ((zer (by decide)).trans h3)
    have g4:((loc.set 5 (some (.int k))).set 4 (some (.str t)))[4]? = some (some (.str t)):=List.getElem?_set_self (by simp [hl])
    have g5:((loc.set 5 (some (.int k))).set 4 (some (.str t)))[5]? = some (some (.int k)):=(zer (by decide)).trans (List.getElem?_set_self (by simp [hl]))
    have hw:=zj1 us k
    have hsl:=zlo (wdU us k) (wyU us k)
    have eu:(us.map fun u:Nat=>AV.int u)[k]? = some (.int (us.getD k 0:Nat)):=by simp [List.getD_eq_getElem?_getD,hu,hk6]
    have e1:bin zaq (lcl 1) (lcl 5) ((loc.set 5 (some (.int k))).set 4 (some (.str t))) hp = some (.int (us.getD k 0:Nat),hp):=zam (zbl g1) (zbl g5) (zc3 (by lia) eu)
    have e2:bin modA (bin fdvA (bin zaq (lcl 1) (lcl 5)) (cst (.int 63))) (cst (.int 3)) ((loc.set 5 (some (.int k))).set 4 (some (.str t))) hp = some (.int (wyU us k:Nat),hp) :=
      zam (zam e1 rfl (zm2 (b:=63) (by lia) (by lia) hp)) rfl (zkp (b:=3) (by lia) hp)
    have e3:bin modA (bin fdvA (bin zaq (lcl 1) (lcl 5)) (cst (.int 189))) (cst (.int 2)) ((loc.set 5 (some (.int k))).set 4 (some (.str t))) hp = some (.int (us.getD k 0 / 189 % 2:Nat),hp) :=
      zam (zam e1 rfl (zm2 (b:=189) (by lia) (by lia) hp)) rfl (zkp (b:=2) (by lia) hp)
    have e4:bin zaq (flz (lstE (zac (cst (.str [10])) (zac (cst (.str [32])) zaf)))) (bin modA (bin fdvA (bin zaq (lcl 1) (lcl 5)) (cst (.int 189))) (cst (.int 2))) ((loc.set 5 (some (.int k))).set 4 (some (.str t))) hp = some (.str [spU us k],hp):=by
      refine zam (zbw (zc9 (xs:=[.str [10],.str [32]]) rfl (by simp))) e3 (zc3 (by lia) ?_)
      have:us.getD k 0 / 189 % 2 < 2:=Nat.mod_lt _ (by decide)
      rw [spU]
      rcases (show us.getD k 0 / 189 % 2 = 0∨us.getD k 0 / 189 % 2 = 1 by lia) with h | h <;> rw [h] <;> rfl
    have e5:bin zaq (lcl 3) (lcl 5) ((loc.set 5 (some (.int k))).set 4 (some (.str t))) hp = some (.str (wdU us k),hp) :=
      zam (x:=.fl ((List.range 6).map fun k=>.str (wdU us k))) (zbl g3) (zbl g5) (zc3 (by lia) (zck _ hk6))
    have e6:=zqr (wdU us k) (by lia) (wyU us k) (Nat.mod_lt _ (by decide)) hp
    have eb:zrw ((loc.set 5 (some (.int k))).set 4 (some (.str t))) hp = some (.nx,(loc.set 5 (some (.int k))).set 4 (some (.str (t++zd1 (wdU us k) (wyU us k)++[spU us k]))),hp):=by
      refine za2 (zaz (zam (zam (zbl g4) (zav (zai e5 (zai e2 rfl)) e6) (add_str (by lia) hp)) e4 (add_str (by simp; lia) hp)) ?_)
      rw [zf2 (by simp [hl]),List.set_set]
    obtain ⟨x5',k1⟩:=ih (some (.int k)) (t++zd1 (wdU us k) (wyU us k)++[spU us k]) (fun z hz=>hk z (by simp [hz])) (by simp; lia)
    refine ⟨x5',(zeh es eb k1).trans ?_⟩
    simp [zbe,tkU]
noncomputable def zdj (us:List Nat):List Nat:=zbe ((List.range 6).map (tkU us))
theorem zyi {us:List Nat} (hu:us.length = 6) (h1:loc[1]? = some (some (.fl (us.map fun u:Nat=>AV.int u)))) (h3:loc[3]? = some (some (za9 (wdU us)))) (hl:loc.length = 24) (h4:loc[4]? = some (some (.str []))) (x5:Option AV) (h5:loc[5]? = some x5) :
    ∃ x5',forS (valI (zas zbh (zac (cst (.int 6)) zaf))) (stE 5) zrw loc hp = some (.nx,(loc.set 5 x5').set 4 (some (.str (zdj us))),hp):=by
  obtain ⟨x5',k1⟩:=zx8 (hp:=hp) hu h1 h3 hl (List.range 6) x5 [] (fun k hk=>List.mem_range.1 hk) (by simp)
  have e:(loc.set 5 x5).set 4 (some (.str [])) = loc:=by
    rw [zf5 h5,zf5 h4]
  rw [e] at k1
  exact ⟨x5',zfn (zb5 (zav (zai rfl rfl) rfl) (zbs (b:=6) (by lia))) k1⟩
end
theorem zef:∀ (l:List PyData),(∀ d∈l,d.eqv d = true)→PyData.eqvAll l l = true:=by
  intro l
  induction l with
  | nil =>
    intro _
    exact rfl
  | cons d l ih =>
    intro h
    simp only [PyData.eqvAll,h d (by simp),ih fun x hx=>h x (by simp [hx]),Bool.and_self]
theorem zih {x:AV} {d:PyData} (h:toPy x = some d) (hd:d.depth≤60) (hs:d.eqv d = true) (hp:Hp):neA x x hp = some (.bool false,hp):=by
  simp only [neA,eqB,h,Option.bind_eq_bind,Option.bind_some]
  rw [if_pos hd,hs]
  rfl
theorem zts (a b:Int) (hp:Hp):neA (.int a) (.int b) hp = some (.bool !(decide (a = b)),hp):=by
  have hd:(PyData.int a).depth≤60:=by simp [PyData.depth]
  simp only [neA,eqB,zez,ze1,zey,zex,ze0,Option.bind_eq_bind,Option.bind_some]
  rw [if_pos hd]
  simp only [Option.map_some,Option.some.injEq,Prod.mk.injEq,AV.bool.injEq,and_true,PyData.eqv]
  congr 1
theorem zr1 {w:Nat→List Nat} (W:Words w) (hp:Hp):neA (za9 w) (za9 w) hp = some (.bool false,hp):=by
  have h:=znh (fun k=>AV.str (w k)) (fun k=>PyData.str ⟨(w k).toArray⟩) (List.range 6) fun k hk=>zjr fun c hc=>((W.ok k (List.mem_range.1 hk)).c c hc).1
  have e:toPy (za9 w) = some (.list ((List.range 6).map fun k=>PyData.str ⟨(w k).toArray⟩)):=by
    simp only [za9,zez,ze1,zey,zex,ze0,h,Option.map_some]
  refine zih e ?_ ?_ hp
  · have:=zdh 0 ((List.range 6).map fun k=>PyData.str ⟨(w k).toArray⟩) fun x hx=>by
      obtain ⟨k,_,rfl⟩:=List.mem_map.1 hx; simp [PyData.depth]
    simp only [PyData.depth]; lia
  · simp only [PyData.eqv]
    refine zef _ fun d hd=>?_
    obtain ⟨k,_,rfl⟩:=List.mem_map.1 hd
    simp [PyData.eqv]
theorem zr2 (us:List Nat):(zdj us).length≤200:=by
  have:∀ l:List Nat,(zbe (l.map (tkU us))).length≤19 * l.length:=by
    intro l
    induction l with
    | nil=>simp [zbe]
    | cons k l ih =>
      have h1:=zlo (wdU us k) (wyU us k)
      have h2:=zj1 us k
      simp only [List.map_cons,tkU,zbe,List.length_append,List.length_cons]
      have ih':(zbe (l.map fun k=>(wdU us k,wyU us k,spU us k))).length≤19 * l.length:=ih
      have e:(l.map (tkU us)) = l.map fun k=>(wdU us k,wyU us k,spU us k):=rfl
      rw [e]
      lia
  have:=this (List.range 6)
  simp only [List.length_range] at this
  simp only [zdj]; lia
section
variable {loc:Loc} {hp:Hp}
inductive st_machineR (loc:Loc) (hp:Hp) (us:List Nat):Prop
  | mk (a:Nat) (m:Nat) (p:Nat) (hp':Hp) (q1:asgS (zas zeg (zac (lcl 4) zaf)) (stE 6) loc hp = some (.nx,loc.set 6 (some (.loc m)),hp')) (q2:Lex hp' a m p (zdj us) 0 1 []) (q3:Upp hp hp'):st_machineR loc hp us
theorem zqp {us:List Nat} (h4:loc[4]? = some (some (.str (zdj us)))) (hl:loc.length = 24):st_machineR loc hp us:=by
  have:=zr2 us
  obtain ⟨hp',e1,e2,e3⟩:=zp3 (zdj us) (by lia) hp
  exact ⟨_,_,_,hp',zaz (zav (zai (zbl h4) rfl) e1) (zf2 (by lia)),e2,e3⟩
theorem zxk (us:List Nat) (k:Nat):spU us k = 10∨spU us k = 32:=by
  rw [spU]; split
  · exact .inl rfl
  · exact .inr rfl
inductive st_toldR (loc:Loc) (hp:Hp) (us:List Nat) (a:Nat) (m:Nat) (p:Nat):Prop
  | mk (hp':Hp) (k:Nat) (line:Nat) (ld:List Nat) (q1:asgS (flz (zbo 1 [6] (valI (zas zbh (zac (cst (.int 6)) zaf))) (stE 0) (cstB true) (zcj 0 zau (lcl 1) zaf))) (stE 7) loc hp = some (.nx,loc.set 7 (some (za9 (wdU us))),hp')) (q2:Lex hp' a m p (zdj us) k line []) (q3:(zdj us).drop k = ld) (q4:Ws ld) (q5:ld.length≤1) (q6:line + ld.count 10 = 1 + (zdj us).count 10):st_toldR loc hp us a m p
theorem zyh {us:List Nat} {a m p:Nat} (h6:loc[6]? = some (some (.loc m))) (hl:loc.length = 24) (L:Lex hp a m p (zdj us) 0 1 []):st_toldR loc hp us a m p:=by
  obtain ⟨zs,hp',e1,_,k,line,ld,g1,g2,g3,g4,g5,g6⟩:=zkz (fun k:Nat=>AV.int (k:Int)) (elt:=zcj 0 zau (lcl 1) zaf) (frees:=[6]) (loc:=loc) (ite:=valI (zas zbh (zac (cst (.int 6)) zaf))) (hp:=hp)
    (fun r ys hpx=>(∀ k∈r,k < 6)∧∃ k line ld,Lex hpx a m p (zdj us) k line []∧(zdj us).drop k = ld++zbe (r.map (tkU us))∧Ws ld∧ld.length≤1∧line + ((zdj us).drop k).count 10 = 1 + (zdj us).count 10∧ys++r.map (fun k=>AV.str (wdU us k)) = (List.range 6).map fun k=>AV.str (wdU us k))
    (List.range 6) (zb5 (zav (zai rfl rfl) rfl) (zbs (b:=6) (by lia))) (by simp)
    (fun k r ys hpx zv1=>by
      obtain ⟨h0,kk,line,ld,g1,g2,g3,g4,g5,g6⟩:=zv1
      rw [zjg h6]
      have g2':(zdj us).drop kk = ld++(zd1 (wdU us k) (wyU us k)++spU us k ::zbe (r.map (tkU us))):=g2
      obtain ⟨hp1,k1,line1,f1,f2,f3,f4,f5⟩:=zpg g1 g3 g4 ((zng us).ok k (h0 k (by simp))) (zxk us k) g2'
      refine ⟨.str (wdU us k),hp1,zdf rfl g1.inst rfl f1,fun z hz=>h0 z (by simp [hz]),k1,line1,_,f2,f3,?_,?_,f4.trans g5,by rw [← g6]; simp⟩
      · split
        · intro c hc; simp at hc
        · intro c hc
          simp only [List.mem_cons,List.not_mem_nil,or_false] at hc
          subst hc
          rcases zxk us k with e | e <;> rw [e] <;> decide
      · split <;> simp)
    ⟨fun k hk=>List.mem_range.1 hk,0,1,[],L,rfl,by intro c hc; simp at hc,by simp,rfl,rfl⟩
  simp only [List.map_nil,List.append_nil,zbe] at g2 g6
  subst g6
  refine ⟨hp',k,line,ld,zaz (zbw e1) (zf2 (by lia)),g1,g2,g3,g4,?_⟩
  rw [g2] at g5; exact g5
theorem zsk {us:List Nat} {a m p k line:Nat} {ld:List Nat} (h3:loc[3]? = some (some (za9 (wdU us)))) (h4:loc[4]? = some (some (.str (zdj us)))) (h6:loc[6]? = some (some (.loc m))) (h7:loc[7]? = some (some (za9 (wdU us))))
    (L:Lex hp a m p (zdj us) k line []) (hd:(zdj us).drop k = ld) (hw:Ws ld) (hld:ld.length≤1) (hc:line + ld.count 10 = 1 + (zdj us).count 10) (r:MS) :
    ∃ hp',iteS (orB (tru (bin neA (lcl 7) (lcl 3))) (orB (tru (bin neA (zcj 0 zau (lcl 6) zaf) (cst (.str [])))) (orB (tru (bin neA (attE 0 0 (lcl 6)) (bin addA (cst (.int 1)) (zcc "str" zl3 (lcl 4) (zac (cst (.str [10])) zaf))))) (cstB false)))) r nilS loc hp = some (.nx,loc,hp')∧
      Lex hp' a m p (zdj us) (zdj us).length (1 + (zdj us).count 10) []:=by
  obtain ⟨hp',e1,e2,e3⟩:=gt_0 L hw hd (by lia)
  rw [hc] at e2
  have t1:tru (bin neA (lcl 7) (lcl 3)) loc hp = some (false,hp):=zb2 (zam (zbl h7) (zbl h3) (zr1 (zng us) hp))
  have t2:tru (bin neA (zcj 0 zau (lcl 6) zaf) (cst (.str []))) loc hp = some (false,hp'):=by
    have ok0:Ok []:=by intro c hc; simp at hc
    have g2:zcj 0 zau (lcl 6) zaf loc hp = some (.str [],hp'):=zdf (zbl h6) L.inst rfl e1
    have:=zb2 (zam g2 (show cst (.str []) loc hp' = some (.str [],hp') from rfl) (zkn ok0 ok0 hp'))
    rw [this]
    simp
  have t3:tru (bin neA (attE 0 0 (lcl 6)) (bin addA (cst (.int 1)) (zcc "str" zl3 (lcl 4) (zac (cst (.str [10])) zaf)))) loc hp' = some (false,hp'):=by
    have g3:attE 0 0 (lcl 6) loc hp' = some (.int ((1 + (zdj us).count 10:Nat):Int),hp'):=zei (zbl h6) (zg0 e2.hm rfl) rfl
    have g4:bin addA (cst (.int 1)) (zcc "str" zl3 (lcl 4) (zac (cst (.str [10])) zaf)) loc hp' = some (.int (1 + ((zdj us).count 10:Int)),hp'):=zam rfl (zc8 (zbl h4) rfl (zai rfl rfl) (count_eq _ 10 hp')) rfl
    have:=zb2 (zam g3 g4 (zts _ _ hp'))
    rw [this]
    rw [decide_eq_true (by lia)]
    rfl
  exact ⟨hp',zdb (or_f t1 (or_f t2 (or_f t3 rfl))) rfl,e2⟩
end
theorem Lex.upp {hp hp':Hp} {a m p:Nat} {txt:List Nat} {k line:Nat} {pb:List AV} (L:Lex hp a m p txt k line pb) (U:Upp hp hp'):Lex hp' a m p txt k line pb:=by
  have:=L.am; have:=L.mp; have:=L.pn
  exact L.keep (U.h _ (by lia)) (U.h _ (by lia)) ((U.h _ (by lia)).trans L.hpb) U.n
theorem zvh (x:Nat) (r:List Nat) (h1:x≠32) (h2:x≠9):∀ (l:List Nat) (n nt b:Nat) (cnt:List Int),wsP (l++x ::r) n nt b cnt = wsP l n nt b cnt:=by
  intro l
  induction l with
  | nil =>
    intro n nt b cnt
    show wsP (x ::r) n nt b cnt = (n,nt,b,cnt)
    (first | rw [znd,if_neg h1,if_neg h2] | rw [zne,if_neg h1,if_neg h2])
  | cons c l ih =>
    intro n nt b cnt
    (first | rw [List.cons_append,znd,znd] | rw [List.cons_append,znd,zne] | rw [List.cons_append,zne,znd] | rw [List.cons_append,zne,zne])
    by_cases c1:c = 32
    · rw [if_pos c1,if_pos c1,ih]
    · by_cases c2:c = 9
      · rw [if_neg c1,if_neg c1,if_pos c2,if_pos c2]
        by_cases c3:cnt.length≤b
        · rw [if_pos c3,if_pos c3,ih]
        · rw [if_neg c3,if_neg c3,ih]
      · rw [if_neg c1,if_neg c1,if_neg c2,if_neg c2]
noncomputable def wsC (c:Nat):WS:=wsP (zms 6 (c + 1)) 0 0 0 []
theorem tabW:∀ c,c < 63→(wsC c).2.2.2.length≤10∧((wsC c).2.2.2.all fun x=>decide (0≤x) && decide (x≤10)) = true∧(wsC c).2.1≤10∧(wsC c).2.2.1≤10:=by decide +kernel
theorem tabL:∀ c,c < 63→∀ d,d < 63→zzi (wsC c) (wsC d) = zja (colP (zms 6 (c + 1))) (colP (zms 6 (d + 1))):=by decide +kernel
theorem zx5 (us:List Nat) {k:Nat} (hk:k < 6):wsP (wdU us k) 0 0 0 [] = wsC (cdU us k):=by
  rw [wdU,List.append_assoc]
  exact zvh (97 + k) [32,9] (by lia) (by lia) _ _ _ _ _
theorem wok (us:List Nat) (k:Nat):WOk (wsC (cdU us k)):=by
  obtain ⟨h1,h2,h3,h4⟩:=tabW _ (zoh us k)
  refine ⟨h1,fun c hc=>?_,h3,h4⟩
  have:=List.all_eq_true.1 h2 c hc
  simpa using this
noncomputable def relU (us:List Nat) (i j:Nat):Bool:=zja (colP (ldU us i)) (colP (ldU us j))
theorem zjt (us:List Nat) (i j:Nat):relU us i j = true↔∀ s,s < 6→zff (1 + s) (ldU us i) 0 < zff (1 + s) (ldU us j) 0:=by
  rw [relU,zja,colP,colP,List.zip_map',List.all_map,List.all_eq_true]
  simp only [List.mem_range,Function.comp_apply,decide_eq_true_eq]
noncomputable def rkU (us:List Nat) (i:Nat):Int:=zff 1 (ldU us i) 0
theorem zoq (us:List Nat):Strict (relU us) (rkU us) where
  tr i j k h1 h2:=(zjt us i k).2 fun s hs=>Nat.lt_trans ((zjt us i j).1 h1 s hs) ((zjt us j k).1 h2 s hs)
  rk i j h:=by
    have:zff 1 (ldU us i) 0 < zff 1 (ldU us j) 0:=(zjt us i j).1 h 0 (by lia)
    simp only [rkU]
    lia
noncomputable def zep (us:List Nat):AV:=.fl ((List.range 6).map fun k=>wobj (wdU us k) (wsC (cdU us k)))
noncomputable def zgo (us:List Nat):AV:=.fl ((List.range 6).map fun k=>.fl ((colP (ldU us k)).map fun n:Nat=>AV.int n))
section
variable {loc:Loc} {hp:Hp}
theorem zvs {us:List Nat} (h7:loc[7]? = some (some (za9 (wdU us)))) (hl:loc.length = 24) :
    ∃ hp',asgS (flz (zbo 1 [] (valI (lcl 7)) (stE 0) (cstB true) (zas zvd (zac (lcl 0) zaf)))) (stE 8) loc hp = some (.nx,loc.set 8 (some (zep us)),hp')∧Upp hp hp':=by
  obtain ⟨zs,hp',e1,_,e2,e3⟩:=zkz (fun k:Nat=>AV.str (wdU us k)) (elt:=zas zvd (zac (lcl 0) zaf)) (frees:=[]) (loc:=loc) (ite:=valI (lcl 7)) (hp:=hp)
    (fun r ys hpx=>(∀ k∈r,k < 6)∧Upp hp hpx∧ys++r.map (fun k=>wobj (wdU us k) (wsC (cdU us k))) = (List.range 6).map fun k=>wobj (wdU us k) (wsC (cdU us k)))
    (List.range 6) (zb5 (zbl h7) rfl) (by simp)
    (fun k r ys hpx zv1=>by
      obtain ⟨h0,g1,g2⟩:=zv1
      have hk:=h0 k (by simp)
      obtain ⟨hp1,f1,f2⟩:=mkW_eq (wdU us k) (fun c hc=>(((zng us).ok k hk).c c hc).1) (by have:=zj1 us k; lia) hpx
      rw [zx5 us hk] at f1
      exact ⟨_,hp1,zav (zai rfl rfl) f1,fun z hz=>h0 z (by simp [hz]),g1.trans f2,by rw [← g2]; simp⟩)
    ⟨fun k hk=>List.mem_range.1 hk,Upp.refl hp,rfl⟩
  simp only [List.map_nil,List.append_nil] at e3
  subst e3
  exact ⟨hp',zaz (zbw e1) (zf2 (by lia)),e2⟩
theorem zvw {us:List Nat} (h8:loc[8]? = some (some (zep us))) (hl:loc.length = 24) :
    asgS (flz (zbo 1 [8] (valI (lcl 8)) (stE 0) (cstB true) (flz (zbo 1 [0] (valI (lcl 1)) (stE 0) (cstB true) (zcj 1 zhk (lcl 1) (zac (lcl 0) zaf)))))) (stE 9) loc hp = some (.nx,loc.set 9 (some (za3 (relU us))),hp):=by
  have c:=zd2 (fun k:Nat=>wobj (wdU us k) (wsC (cdU us k))) (fun _=>true) (fun i=>AV.fl ((List.range 6).map fun j=>.bool (relU us i j))) (tests:=cstB true) (elt:=flz (zbo 1 [0] (valI (lcl 1)) (stE 0) (cstB true) (zcj 1 zhk (lcl 1) (zac (lcl 0) zaf)))) (frees:=[8]) (loc:=loc) (ite:=valI (lcl 8)) (hp:=hp) (List.range 6)
    (zb5 (zbl h8) rfl) (by simp) (fun i hi=>⟨rfl,fun _=>by
      rw [zjg h8]
      have c2:=zd2 (fun k:Nat=>wobj (wdU us k) (wsC (cdU us k))) (fun _=>true) (fun j=>AV.bool (relU us i j)) (tests:=cstB true) (elt:=zcj 1 zhk (lcl 1) (zac (lcl 0) zaf)) (frees:=[0]) (loc:=[some (wobj (wdU us i) (wsC (cdU us i))),some (zep us)]) (ite:=valI (lcl 1)) (hp:=hp) (List.range 6)
        (zb5 (x:=zep us) rfl rfl) (by simp) (fun j hj=>⟨rfl,fun _=>by
          have e:=zzh (wdU us i) (wdU us j) (wsC (cdU us i)) (wsC (cdU us j)) (wok us i) (wok us j) hp
          rw [tabL _ (zoh us i) _ (zoh us j)] at e
          exact zdf rfl rfl (zai rfl rfl) e⟩)
      rw [zcr] at c2
      exact zbw c2⟩)
  rw [zcr] at c
  exact zaz (zbw c) (zf2 (by lia))
theorem zqq {us:List Nat} (h2:loc[2]? = some (some (.fl ((List.range 6).map fun k=>.str (ldU us k))))) (hl:loc.length = 24) :
    ∃ hp',asgS (flz (zbo 1 [] (valI (lcl 2)) (stE 0) (cstB true) (zas zed (zac (lcl 0) (zac (cst (.int 6)) zaf))))) (stE 10) loc hp = some (.nx,loc.set 10 (some (zgo us)),hp')∧Upp hp hp':=by
  obtain ⟨zs,hp',e1,_,e2,e3⟩:=zkz (fun k:Nat=>AV.str (ldU us k)) (elt:=zas zed (zac (lcl 0) (zac (cst (.int 6)) zaf))) (frees:=[]) (loc:=loc) (ite:=valI (lcl 2)) (hp:=hp)
    (fun r ys hpx=>(∀ k∈r,k < 6)∧Upp hp hpx∧ys++r.map (fun k=>AV.fl ((colP (ldU us k)).map fun n:Nat=>AV.int n)) = (List.range 6).map fun k=>AV.fl ((colP (ldU us k)).map fun n:Nat=>AV.int n))
    (List.range 6) (zb5 (zbl h2) rfl) (by simp)
    (fun k r ys hpx zv1=>by
      obtain ⟨h0,g1,g2⟩:=zv1
      obtain ⟨hp1,f1,f2⟩:=zro (ldU us k) (fun c hc=>by rcases (zwl us k).2 c hc with e | e <;> lia) hpx
      exact ⟨_,hp1,zav (zai rfl (zai rfl rfl)) f1,fun z hz=>h0 z (by simp [hz]),g1.trans f2,by rw [← g2]; simp⟩)
    ⟨fun k hk=>List.mem_range.1 hk,Upp.refl hp,rfl⟩
  simp only [List.map_nil,List.append_nil] at e3
  subst e3
  exact ⟨hp',zaz (zbw e1) (zf2 (by lia)),e2⟩
theorem st_due {us:List Nat} (h10:loc[10]? = some (some (zgo us))) (hl:loc.length = 24) :
    asgS (flz (zbo 1 [10] (valI (lcl 10)) (stE 0) (cstB true) (flz (zbo 1 [0] (valI (lcl 1)) (stE 0) (cstB true) (zas ze6 (zac (lcl 1) (zac (lcl 0) zaf))))))) (stE 11) loc hp = some (.nx,loc.set 11 (some (za3 (relU us))),hp):=by
  have c:=zd2 (fun k:Nat=>AV.fl ((colP (ldU us k)).map fun n:Nat=>AV.int n)) (fun _=>true) (fun i=>AV.fl ((List.range 6).map fun j=>.bool (relU us i j))) (tests:=cstB true) (elt:=flz (zbo 1 [0] (valI (lcl 1)) (stE 0) (cstB true) (zas ze6 (zac (lcl 1) (zac (lcl 0) zaf))))) (frees:=[10]) (loc:=loc) (ite:=valI (lcl 10)) (hp:=hp) (List.range 6)
    (zb5 (zbl h10) rfl) (by simp) (fun i hi=>⟨rfl,fun _=>by
      rw [zjg h10]
      have c2:=zd2 (fun k:Nat=>AV.fl ((colP (ldU us k)).map fun n:Nat=>AV.int n)) (fun _=>true) (fun j=>AV.bool (relU us i j)) (tests:=cstB true) (elt:=zas ze6 (zac (lcl 1) (zac (lcl 0) zaf))) (frees:=[0]) (loc:=[some (AV.fl ((colP (ldU us i)).map fun n:Nat=>AV.int n)),some (zgo us)]) (ite:=valI (lcl 1)) (hp:=hp) (List.range 6)
        (zb5 (x:=zgo us) rfl rfl) (by simp) (fun j hj=>⟨rfl,fun _=>zav (zai rfl (zai rfl rfl)) (zrd _ _ (by simp [colP]) hp)⟩)
      rw [zcr] at c2
      exact zbw c2⟩)
  rw [zcr] at c
  exact zaz (zbw c) (zf2 (by lia))
theorem zru (A:Nat→Nat→Bool) (hp:Hp):neA (za3 A) (za3 A) hp = some (.bool false,hp):=by
  have h1:∀ i,toPy (AV.fl ((List.range 6).map fun j=>.bool (A i j))) = some (.list ((List.range 6).map fun j=>PyData.bool (A i j))):=fun i=>by
    simp only [zez,ze1,zey,zex,ze0,zd5 (fun j=>AV.bool (A i j)) (fun j=>PyData.bool (A i j)) (fun _=>rfl),Option.map_some]
  have e:toPy (za3 A) = some (.list ((List.range 6).map fun i=>PyData.list ((List.range 6).map fun j=>PyData.bool (A i j)))):=by
    simp only [za3,zez,ze1,zey,zex,ze0,zd5 _ _ h1,Option.map_some]
  have d0:∀ i,PyData.depthAll ((List.range 6).map fun j=>PyData.bool (A i j))≤0:=fun i=>zdh 0 _ fun x hx=>by
    obtain ⟨k,_,rfl⟩:=List.mem_map.1 hx; simp [PyData.depth]
  refine zih e ?_ ?_ hp
  · have:=zdh 1 ((List.range 6).map fun i=>PyData.list ((List.range 6).map fun j=>PyData.bool (A i j))) fun x hx=>by
      obtain ⟨k,_,rfl⟩:=List.mem_map.1 hx
      have:=d0 k
      simp only [PyData.depth]; lia
    simp only [PyData.depth]; lia
  · simp only [PyData.eqv]
    refine zef _ fun d hd=>?_
    obtain ⟨i,_,rfl⟩:=List.mem_map.1 hd
    simp only [PyData.eqv]
    refine zef _ fun d hd=>?_
    obtain ⟨j,_,rfl⟩:=List.mem_map.1 hd
    simp [PyData.eqv]
theorem zsj {A:Nat→Nat→Bool} (h9:loc[9]? = some (some (za3 A))) (h11:loc[11]? = some (some (za3 A))) (r:MS):iteS (tru (bin neA (lcl 9) (lcl 11))) r nilS loc hp = some (.nx,loc,hp) :=
  zdb (zb2 (zam (zbl h9) (zbl h11) (zru A hp))) rfl
end
noncomputable def insG {α:Type} (le:α→α→Bool) (x:α):List α→List α
  | []=>[x]
  | y ::r=>if le x y then x ::y ::r else y ::insG le x r
theorem zfx {α:Type} (le:α→α→Bool) (x:α):insG le x [] =
   ([x]):=rfl
theorem zfw {α:Type} (le:α→α→Bool) (x:α):∀ y r,insG le x (y ::r) =
   (if le x y then x ::y ::r else y ::insG le x r):=fun _ _=>rfl
structure Ord {α:Type} (le:α→α→Bool):Prop where
  tot:∀ a b,le a b = true∨le b a = true
  anti:∀ a b,le a b = true→le b a = true→a = b
  tr:∀ a b c,le a b = true→le b c = true→le a c = true
theorem zub {α:Type} {le:α→α→Bool} (O:Ord le) (a b:α):∀ l,insG le a (insG le b l) = insG le b (insG le a l):=by
  intro l
  induction l with
  | nil =>
    simp only [zfx,zfw]
    by_cases h1:le a b = true
    · by_cases h2:le b a = true
      · have:=O.anti a b h1 h2; subst this; rfl
      · simp [h1,h2]
    · have h2:=(O.tot a b).resolve_left h1
      simp [h1,h2]
  | cons y r ih =>
    have ih:=ih
    by_cases ay:le a y = true
    · by_cases by':le b y = true
      · simp only [zfx,zfw,ay,by',if_true]
        by_cases h1:le a b = true
        · by_cases h2:le b a = true
          · have:=O.anti a b h1 h2; subst this; rfl
          · simp [h1,h2,zfx,zfw,ay,by']
        · have h2:=(O.tot a b).resolve_left h1
          simp [h1,h2,zfx,zfw,ay,by']
      · have h1:¬ le b a = true:=fun h=>by' (O.tr _ _ _ h ay)
        simp [zfx,zfw,ay,by',h1]
    · by_cases by':le b y = true
      · have h1:¬ le a b = true:=fun h=>ay (O.tr _ _ _ h by')
        simp [zfx,zfw,ay,by',h1]
      · simp [zfx,zfw,ay,by',ih]
theorem zl1 {α:Type} {le:α→α→Bool} (O:Ord le) {l l':List α} (h:l.Perm l'):l.foldr (insG le) [] = l'.foldr (insG le) []:=by
  induction h with
  | nil=>rfl
  | cons x _ ih=>simp only [List.foldr_cons,ih]
  | swap x y l=>simp only [List.foldr_cons]; exact zub O _ _ _
  | trans _ _ ih1 ih2=>exact ih1.trans ih2
theorem zua (x:Int):∀ l,zjk x l = insG (fun a b=>decide (a≤b)) x l:=by
  intro l
  induction l with
  | nil =>
    exact rfl
  | cons y r ih =>
    simp only [zit,zis,zfx,zfw,ih,decide_eq_true_eq]
theorem zlr:∀ l,zgb l = l.foldr (insG fun a b=>decide (a≤b)) []:=by
  intro l
  induction l with
  | nil =>
    exact rfl
  | cons x r ih =>
    rw [zgb,ih,List.foldr_cons,zua]
theorem zn6 (x:List Nat):∀ l,zjj x l = insG (fun a b=>decide (a≤b)) x l:=by
  intro l
  induction l with
  | nil =>
    exact rfl
  | cons y r ih =>
    simp only [zir,ziq,zfx,zfw,ih,decide_eq_true_eq]
theorem zlq:∀ l,zek l = l.foldr (insG fun a b=>decide (a≤b)) []:=by
  intro l
  induction l with
  | nil =>
    exact rfl
  | cons x r ih =>
    rw [zek,ih,List.foldr_cons,zn6]
theorem ordInt:Ord (fun a b:Int=>decide (a≤b)) where
  tot a b:=by simp only [decide_eq_true_eq]; lia
  anti a b:=by simp only [decide_eq_true_eq]; lia
  tr a b c:=by simp only [decide_eq_true_eq]; lia
theorem ordStr:Ord (fun a b:List Nat=>decide (a≤b)) where
  tot a b:=by simp only [decide_eq_true_eq]; exact List.le_total a b
  anti a b h1 h2:=by simp only [decide_eq_true_eq] at h1 h2; exact List.le_antisymm h1 h2
  tr a b c h1 h2:=by simp only [decide_eq_true_eq] at h1 h2 ⊢; exact List.le_trans h1 h2
theorem zme {l l':List Int} (h:l.Perm l'):zgb l = zgb l':=by rw [zlr,zlr,zl1 ordInt h]
theorem zmd {l l':List (List Nat)} (h:l.Perm l'):zek l = zek l':=by rw [zlq,zlq,zl1 ordStr h]
theorem Perm6.perm {ord:List Nat} (h:Perm6 ord):ord.Perm (List.range 6):=(List.perm_ext_iff_of_nodup h.nd List.nodup_range).2 fun x=>⟨fun hx=>List.mem_range.2 (h.lt x hx),fun hx=>h.all x (List.mem_range.1 hx)⟩
theorem zl9:∀ l:List Nat,zma (l.map fun j:Nat=>AV.int j) = some (l.map fun j:Nat=>(j:Int)):=by
  intro l
  induction l with
  | nil =>
    exact rfl
  | cons a l ih =>
    exact congrArg (Option.map _) ih
section
variable {loc:Loc} {hp:Hp} {A:Nat→Nat→Bool}
noncomputable def ztp:MS:=seqS (asgS (flz (zbo 1 [9,13] (valI (zas zbh (zac (cst (.int 6)) zaf))) (stE 0) (tru (bin zaq (bin zaq (lcl 1) (lcl 2)) (lcl 0))) (lcl 0))) (stE 14)) (seqS (zcl (zcc "list" zca (lcl 12) (zac (flz (zbo 1 [9,14] (valI (lcl 14)) (stE 0) (tru (bin eqA (flz (zbo 1 [0,1] (valI (lcl 2)) (stE 0) (tru (bin zaq (bin zaq (lcl 2) (lcl 0)) (lcl 1))) (lcl 0))) (flz (lstE zaf)))) (lcl 0))) zaf))) nilS)
noncomputable def behU (A:Nat→Nat→Bool) (i:Nat):List Nat:=(List.range 6).filter fun j=>A i j
theorem zz5 (A:Nat→Nat→Bool) (i:Nat):(behU A i).length≤6:=Nat.le_trans (List.length_filter_le _ _) (by simp)
theorem zy7 (A:Nat→Nat→Bool) (i:Nat):(behU A i).filter (fun j=>decide ((behU A i).filter (fun m=>A m j) = [])) = nxs (covK A) i:=by
  rw [behU,List.filter_filter,nxs]
  refine List.filter_congr fun j hj=>?_
  rw [covK,Bool.and_comm]
  congr 1
  rw [Bool.eq_iff_iff,decide_eq_true_iff,List.filter_filter,List.filter_eq_nil_iff]
  simp only [Bool.not_eq_true',Bool.and_eq_true,← Bool.not_eq_true,List.any_eq_true,not_exists,not_and]
  exact ⟨fun h x hx h1 h2=>h x hx h2 h1,fun h x hx h1 h2=>h x hx h2 h1⟩
theorem zy8 {N:Nat} (h9:loc[9]? = some (some (za3 A))) (h12:loc[12]? = some (some (.loc N))) (hl:loc.length = 24) :
    ∀ (l:List Nat) (x13 x14:Option AV) (hp:Hp) (done:List AV),(∀ k∈l,k < 6)→done.length + l.length≤50→hp.H N = some (.list done)→
    ∃ x13' x14',forM (stE 13) ztp (l.map fun k:Nat=>AV.int (k:Int)) ((loc.set 13 x13).set 14 x14) hp = some (.nx,(loc.set 13 x13').set 14 x14',hp.put N (.list (done++l.map fun i=>AV.fl ((nxs (covK A) i).map fun j:Nat=>AV.int j)))):=by
  intro l
  induction l with
  | nil =>
    intro x13 x14 hp done _ _ hN
    exact ⟨x13,x14,by simp only [List.map_nil,List.append_nil,zgu hN]; rfl⟩
  | cons i l ih =>
    intro x13 x14 hp done hk hd hN
    have hi:=hk i (by simp)
    simp only [List.length_cons] at hd
    have es:stE 13 (.int (i:Int)) ((loc.set 13 x13).set 14 x14) hp = some ((loc.set 13 (some (.int i))).set 14 x14,hp):=by
      rw [zf2 (by simp [hl]),List.set_comm _ _ (by decide),List.set_set]
    have g9:((loc.set 13 (some (.int i))).set 14 x14)[9]? = _:=(zer (by decide)).trans ((zer (by decide)).trans h9)
    have g13:((loc.set 13 (some (.int i))).set 14 x14)[13]? = some (some (.int i)):=(zer (by decide)).trans (List.getElem?_set_self (by simp [hl]))
    have c1:=zd2 (fun j:Nat=>AV.int (j:Int)) (fun j=>A i j) (fun j=>AV.int (j:Int)) (tests:=tru (bin zaq (bin zaq (lcl 1) (lcl 2)) (lcl 0))) (elt:=lcl 0) (frees:=[9,13]) (loc:=(loc.set 13 (some (.int i))).set 14 x14) (ite:=valI (zas zbh (zac (cst (.int 6)) zaf))) (hp:=hp) (List.range 6)
      (zb5 (zav (zai rfl rfl) rfl) (zbs (b:=6) (by lia))) (by simp) (fun j hj=>by
        rw [ztl g9 g13]
        exact ⟨zb2 (zga (i:=i) (k:=j) hi (List.mem_range.1 hj) rfl rfl rfl),fun _=>rfl⟩)
    have s1:asgS (flz (zbo 1 [9,13] (valI (zas zbh (zac (cst (.int 6)) zaf))) (stE 0) (tru (bin zaq (bin zaq (lcl 1) (lcl 2)) (lcl 0))) (lcl 0))) (stE 14) ((loc.set 13 (some (.int i))).set 14 x14) hp = some (.nx,(loc.set 13 (some (.int i))).set 14 (some (.fl ((behU A i).map fun j:Nat=>AV.int j))),hp):=by
      refine zaz (zbw c1) ?_
      rw [zf2 (by simp [hl]),List.set_set]
      rfl
    have k9:((loc.set 13 (some (.int i))).set 14 (some (.fl ((behU A i).map fun j:Nat=>AV.int j))))[9]? = _:=(zer (by decide)).trans ((zer (by decide)).trans h9)
    have k12:((loc.set 13 (some (.int i))).set 14 (some (.fl ((behU A i).map fun j:Nat=>AV.int j))))[12]? = _:=(zer (by decide)).trans ((zer (by decide)).trans h12)
    have k14:((loc.set 13 (some (.int i))).set 14 (some (.fl ((behU A i).map fun j:Nat=>AV.int j))))[14]? = some (some (.fl ((behU A i).map fun j:Nat=>AV.int j))):=List.getElem?_set_self (by simp [hl])
    have hbl:=zz5 A i
    have c2:=zd2 (fun j:Nat=>AV.int (j:Int)) (fun j=>decide ((behU A i).filter (fun m=>A m j) = [])) (fun j=>AV.int (j:Int)) (tests:=tru (bin eqA (flz (zbo 1 [0,1] (valI (lcl 2)) (stE 0) (tru (bin zaq (bin zaq (lcl 2) (lcl 0)) (lcl 1))) (lcl 0))) (flz (lstE zaf)))) (elt:=lcl 0) (frees:=[9,14]) (loc:=(loc.set 13 (some (.int i))).set 14 (some (.fl ((behU A i).map fun j:Nat=>AV.int j)))) (ite:=valI (lcl 14)) (hp:=hp) (behU A i)
      (zb5 (zbl k14) rfl) (by lia) (fun j hj=>by
        have hj6:j < 6:=List.mem_range.1 (List.mem_filter.1 hj).1
        rw [ztl k9 k14]
        have c3:=zd2 (fun m:Nat=>AV.int (m:Int)) (fun m=>A m j) (fun m=>AV.int (m:Int)) (tests:=tru (bin zaq (bin zaq (lcl 2) (lcl 0)) (lcl 1))) (elt:=lcl 0) (frees:=[0,1]) (loc:=[some (.int (j:Int)),some (za3 A),some (.fl ((behU A i).map fun j:Nat=>AV.int j))]) (ite:=valI (lcl 2)) (hp:=hp) (behU A i)
          (zb5 (x:=.fl ((behU A i).map fun j:Nat=>AV.int j)) rfl rfl) (by lia) (fun m hm=>⟨zb2 (zga (i:=m) (k:=j) (List.mem_range.1 (List.mem_filter.1 hm).1) hj6 rfl rfl rfl),fun _=>rfl⟩)
        exact ⟨zb2 (zam (zbw c3) (zig _ hp) (zgw _ hp)),fun _=>rfl⟩)
    rw [zy7] at c2
    have ea:=zdz (.fl ((nxs (covK A) i).map fun j:Nat=>AV.int j)) hN (by lia)
    have eb:ztp ((loc.set 13 (some (.int i))).set 14 x14) hp = _:=zao s1 (za2 (zcu (zc8 (zbl k12) (zd0 hN) (zai (zbw c2) rfl) ea)))
    obtain ⟨x13',x14',k1⟩:=ih (some (.int i)) (some (.fl ((behU A i).map fun j:Nat=>AV.int j))) _ _ (fun z hz=>hk z (by simp [hz])) (by simp; lia) (zcb hp N (.list (done++[.fl ((nxs (covK A) i).map fun j:Nat=>AV.int j)])))
    refine ⟨x13',x14',(zeh es eb k1).trans ?_⟩
    rw [zfh]
    simp
theorem zvr {N:Nat} (h9:loc[9]? = some (some (za3 A))) (h12:loc[12]? = some (some (.loc N))) (hl:loc.length = 24) (x13 x14:Option AV) (h13:loc[13]? = some x13) (h14:loc[14]? = some x14) (hN:hp.H N = some (.list [])) :
    ∃ x13' x14',forS (valI (zas zbh (zac (cst (.int 6)) zaf))) (stE 13) ztp loc hp = some (.nx,(loc.set 13 x13').set 14 x14',hp.put N (.list ((List.range 6).map fun i=>AV.fl ((nxs (covK A) i).map fun j:Nat=>AV.int j)))):=by
  obtain ⟨x13',x14',k1⟩:=zy8 h9 h12 hl (List.range 6) x13 x14 hp [] (fun k hk=>List.mem_range.1 hk) (by simp) hN
  rw [zf5 h13,zf5 h14] at k1
  exact ⟨x13',x14',zfn (zb5 (zav (zai rfl rfl) rfl) (zbs (b:=6) (by lia))) k1⟩
theorem zvq {r:Nat→Int} (S:Strict A r) (h12:loc[12]? = some (some (zc7 (covK A)))) (hl:loc.length = 24) :
    ∃ (ord:List Nat) (hp':Hp),asgS (zas zeu (zac (lcl 12) zaf)) (stE 15) loc hp = some (.nx,loc.set 15 (some (zdr ord)),hp')∧Lab (covK A) ord []∧Upp hp hp':=by
  obtain ⟨ord,hp',e1,e2,e3⟩:=zo1 (C:=covK A) r (fun i j h=>S.rk i j (by simp only [covK,Bool.and_eq_true] at h; exact h.1)) hp
  exact ⟨ord,hp',zaz (zav (zai (zbl h12) rfl) e1) (zf2 (by lia)),e2,e3⟩
theorem zt9 (l:List Int) (hp:Hp):neA (.fl (l.map .int)) (.fl (l.map .int)) hp = some (.bool false,hp):=by
  have e:toPy (.fl (l.map .int)) = some (.list (l.map PyData.int)):=by simp only [zez,ze1,zey,zex,ze0,zqn,Option.map_some]
  refine zih e ?_ ?_ hp
  · have:=zdh 0 (l.map PyData.int) fun x hx=>by
      obtain ⟨k,_,rfl⟩:=List.mem_map.1 hx; simp [PyData.depth]
    simp only [PyData.depth]; lia
  · simp only [PyData.eqv]
    refine zef _ fun d hd=>?_
    obtain ⟨i,_,rfl⟩:=List.mem_map.1 hd
    simp [PyData.eqv]
theorem zsl {m:ME} {ord:List Nat} (h:Perm6 ord) (h1:m loc hp = some (zdr ord,hp)):zjs (zac m zaf) loc hp = some (([0,1,2,3,4,5]:List Int).map .int,hp):=by
  have e:zgb (ord.map fun j:Nat=>(j:Int)) = [0,1,2,3,4,5]:=by
    rw [zme (h.perm.map fun j:Nat=>(j:Int))]; rfl
  have hlen:(ord.map fun j:Nat=>(j:Int)).length≤60:=by rw [List.length_map,h.len]; lia
  have hc:zac m zaf loc hp = some ([zdr ord],hp):=zai h1 rfl
  exact bE hc (bE (zl9 _) ((if_pos hlen).trans (congrArg (fun z=>some (List.map AV.int z,hp)) e)))
theorem zsi {ord:List Nat} (h:Perm6 ord) (h15:loc[15]? = some (some (zdr ord))) (r:MS) :
    iteS (tru (bin neA (flz (zjs (zac (lcl 15) zaf))) (flz (lstE (zac (cst (.int 0)) (zac (cst (.int 1)) (zac (cst (.int 2)) (zac (cst (.int 3)) (zac (cst (.int 4)) (zac (cst (.int 5)) zaf)))))))))) r nilS loc hp = some (.nx,loc,hp):=by
  have e2:flz (lstE (zac (cst (.int 0)) (zac (cst (.int 1)) (zac (cst (.int 2)) (zac (cst (.int 3)) (zac (cst (.int 4)) (zac (cst (.int 5)) zaf))))))) loc hp = some (.fl (([0,1,2,3,4,5]:List Int).map .int),hp):=zbw (zc9 rfl (by simp))
  exact zdb (zb2 (zam (zbw (zsl h (zbl h15))) e2 (zt9 _ hp))) rfl
theorem ztj (ord:List Nat) (P:List (List Nat)) (hp:Hp):neA (.fl (P.map (zaw ord))) (.fl (P.map (zaw ord))) hp = some (.bool false,hp):=by
  have h1:∀ h,toPy (zaw ord h) = some (.list ((h.map (oOf ord)).map fun j:Nat=>PyData.int j)):=fun h=>by
    simp only [zaw,zez,ze1,zey,zex,ze0,zd5 (fun j:Nat=>AV.int j) (fun j:Nat=>PyData.int j) (fun _=>rfl),Option.map_some]
  have e:toPy (.fl (P.map (zaw ord))) = some (.list (P.map fun h=>PyData.list ((h.map (oOf ord)).map fun j:Nat=>PyData.int j))):=by
    simp only [zez,ze1,zey,zex,ze0,zd5 _ _ h1,Option.map_some]
  have d0:∀ h:List Nat,PyData.depthAll ((h.map (oOf ord)).map fun j:Nat=>PyData.int j)≤0:=fun h=>zdh 0 _ fun x hx=>by
    obtain ⟨k,_,rfl⟩:=List.mem_map.1 hx; simp [PyData.depth]
  refine zih e ?_ ?_ hp
  · have:=zdh 1 (P.map fun h=>PyData.list ((h.map (oOf ord)).map fun j:Nat=>PyData.int j)) fun x hx=>by
      obtain ⟨k,_,rfl⟩:=List.mem_map.1 hx
      have:=d0 k
      simp only [PyData.depth]; lia
    simp only [PyData.depth]; lia
  · simp only [PyData.eqv]
    refine zef _ fun d hd=>?_
    obtain ⟨i,_,rfl⟩:=List.mem_map.1 hd
    simp only [PyData.eqv]
    refine zef _ fun d hd=>?_
    obtain ⟨j,_,rfl⟩:=List.mem_map.1 hd
    simp [PyData.eqv]
theorem zyk {w:Nat→List Nat} {ord:List Nat} (h:Perm6 ord) (W:Words w) (PO:PlanOk (relB A (oOf ord)) (zc2 (relB A (oOf ord)) 7 [])) {a m p:Nat} {txt:List Nat} {k line:Nat} (L:Lex hp a m p txt k line [])
    (h6:loc[6]? = some (some (.loc m))) (h7:loc[7]? = some (some (za9 w))) (h9:loc[9]? = some (some (za3 A))) (h15:loc[15]? = some (some (zdr ord))) (hl:loc.length = 24) :
    ∃ hp',asgS (zas zcs (zac (lcl 6) (zac (lcl 7) (zac (lcl 9) (zac (lcl 15) zaf))))) (stE 16) loc hp = some (.nx,loc.set 16 (some (.fl ((zc2 (relB A (oOf ord)) 7 []).map (zaw ord)))),hp')∧Lex hp' a m p txt k line []:=by
  obtain ⟨hp',e1,e2⟩:=zkh (A:=A) h W PO L
  exact ⟨hp',zaz (zav (zai (zbl h6) (zai (zbl h7) (zai (zbl h9) (zai (zbl h15) rfl)))) e1) (zf2 (by lia)),e2⟩
theorem zsh {ord:List Nat} (h:Perm6 ord) (PO:PlanOk (relB A (oOf ord)) (zc2 (relB A (oOf ord)) 7 [])) {a m p:Nat} {txt:List Nat} {line:Nat} (L:Lex hp a m p txt txt.length line [])
    (h6:loc[6]? = some (some (.loc m))) (h9:loc[9]? = some (some (za3 A))) (h15:loc[15]? = some (some (zdr ord))) (h16:loc[16]? = some (some (.fl ((zc2 (relB A (oOf ord)) 7 []).map (zaw ord))))) (r:MS) :
    ∃ hp',iteS (orB (tru (bin neA (lcl 16) (zas zb4 (zac (lcl 9) (zac (lcl 15) zaf))))) (orB (tru (bin neA (zcj 0 zau (lcl 6) zaf) (cst (.str [])))) (cstB false))) r nilS loc hp = some (.nx,loc,hp'):=by
  obtain ⟨hp1,e1,e2⟩:=zki (A:=A) h PO hp
  obtain ⟨hp2,f1,f2,f3⟩:=gt_0 (L.upp e2) (ws:=[]) (by intro c hc; simp at hc) (by simp) (by simp)
  have ok0:Ok []:=by intro c hc; simp at hc
  have t1:tru (bin neA (lcl 16) (zas zb4 (zac (lcl 9) (zac (lcl 15) zaf)))) loc hp = some (false,hp1) :=
    zb2 (zam (zbl h16) (zav (zai (zbl h9) (zai (zbl h15) rfl)) e1) (ztj ord _ hp1))
  have g2:zcj 0 zau (lcl 6) zaf loc hp1 = some (.str [],hp2):=zdf (zbl h6) (L.upp e2).inst rfl f1
  have t2:tru (bin neA (zcj 0 zau (lcl 6) zaf) (cst (.str []))) loc hp1 = some (false,hp2):=by
    have:=zb2 (zam g2 (show cst (.str []) loc hp2 = some (.str [],hp2) from rfl) (zkn ok0 ok0 hp2))
    rw [this]; simp
  exact ⟨hp2,zdb (or_f t1 (or_f t2 rfl)) rfl⟩
end
section
variable {loc:Loc} {hp:Hp} {ord:List Nat} {w:Nat→List Nat}
noncomputable def zbx (ord:List Nat) (w:Nat→List Nat):List Nat→List (List Nat × Nat × Nat)
  | []=>[]
  | [p]=>[(w (oOf ord p),0,10)]
  | p ::q ::r=>(w (oOf ord p),0,32) ::zbx ord w (q ::r)
theorem zcg (ord:List Nat) (w:Nat→List Nat):zbx ord w [] =
   ([]):=rfl
theorem zcf (ord:List Nat) (w:Nat→List Nat):∀ p,zbx ord w [p] =
   ([(w (oOf ord p),0,10)]):=fun _=>rfl
theorem zce (ord:List Nat) (w:Nat→List Nat):∀ p q r,zbx ord w (p ::q ::r) =
   ((w (oOf ord p),0,32) ::zbx ord w (q ::r)):=fun _ _ _=>rfl
noncomputable def zjf (v:List Nat):List Nat:=[34]++v++[34]
theorem zn9 (ord:List Nat) (w:Nat→List Nat):∀ (h:List Nat),h≠[]→zhv [32] (h.map fun p=>zjf (w (oOf ord p)))++[10] = zbe (zbx ord w h)
  | [],h=>absurd rfl h
  | [p],_=>by simp [zin,zim,zil,zcg,zcf,zce,zbe,zd1,zjf]
  | p ::q ::r,_=>by
    have ih:=zn9 ord w (q ::r) (by simp)
    simp only [List.map_cons,zin,zim,zil,zcg,zcf,zce,zbe,zd1,List.append_assoc] at ih ⊢
    rw [ih]
    simp only [zjf,List.append_assoc,List.cons_append,List.nil_append]
theorem zo6 (ord:List Nat) (w:Nat→List Nat):∀ h:List Nat,(zbx ord w h).length = h.length
  | []=>rfl
  | [p]=>rfl
  | p ::q ::r=>by simp only [zcg,zcf,zce,List.length_cons,zo6 ord w (q ::r)]
noncomputable def ztm:MS:=seqS (asgS (bin addA (bin addA (lcl 17) (zcc "str" zt7 (cst (.str [32])) (zac (flz (zbo 1 [3] (valI (lcl 18)) (stE 0) (cstB true) (bin addA (bin addA (cst (.str [34])) (bin zaq (lcl 1) (lcl 0))) (cst (.str [34]))))) zaf))) (cst (.str [10]))) (stE 17)) nilS
noncomputable def zhl (ord:List Nat) (w:Nat→List Nat) (P:List (List Nat)):List Nat:=zbe (P.flatMap (zbx ord w))
theorem zmo (hw:∀ p,p < 6→(w (oOf ord p)).length≤8):∀ h:List Nat,(∀ p∈h,p < 6)→(zbe (zbx ord w h)).length≤11 * h.length
  | [],_=>by simp [zcg,zcf,zce,zbe]
  | [p],hp=>by
    have:=hw p (hp p (by simp))
    simp only [zcg,zcf,zce,zbe,zd1,List.length_append,List.length_cons,List.length_nil]; lia
  | p ::q ::r,hp=>by
    have:=hw p (hp p (by simp))
    have ih:=zmo hw (q ::r) fun z hz=>hp z (List.mem_cons_of_mem _ hz)
    simp only [zcg,zcf,zce,zbe,zd1,List.length_append,List.length_cons,List.length_nil] at ih ⊢
    lia
theorem zy2 (h3:loc[3]? = some (some (za9 w))) (hl:loc.length = 24) (ho:∀ p,p < 6→oOf ord p < 6) (hw:∀ p,p < 6→(w (oOf ord p)).length≤8) :
    ∀ (P:List (List Nat)) (x18:Option AV) (t:List Nat),(∀ h∈P,h≠[]∧h.length≤2∧∀ p∈h,p < 6)→t.length + 30 * P.length≤1000→
    ∃ x18',forM (stE 18) ztm (P.map (zaw ord)) ((loc.set 18 x18).set 17 (some (.str t))) hp = some (.nx,(loc.set 18 x18').set 17 (some (.str (t++zhl ord w P))),hp):=by
  intro P
  induction P with
  | nil =>
    intro x18 t _ _
    exact ⟨x18,by simp [zhl,zbe,zum,zul]⟩
  | cons h P ih =>
    intro x18 t hP ht
    obtain ⟨hne,hh2,hh6⟩:=hP h (by simp)
    simp only [List.length_cons] at ht
    have es:stE 18 (zaw ord h) ((loc.set 18 x18).set 17 (some (.str t))) hp = some ((loc.set 18 (some (zaw ord h))).set 17 (some (.str t)),hp):=by
      rw [zf2 (by simp [hl]),List.set_comm _ _ (by decide),List.set_set]
    have g3:((loc.set 18 (some (zaw ord h))).set 17 (some (.str t)))[3]? = _:=(zer (by decide)).trans ((zer (by decide)).trans h3)
    have g17:((loc.set 18 (some (zaw ord h))).set 17 (some (.str t)))[17]? = some (some (.str t)):=List.getElem?_set_self (by simp [hl])
    have g18:((loc.set 18 (some (zaw ord h))).set 17 (some (.str t)))[18]? = some (some (zaw ord h)):=(zer (by decide)).trans (List.getElem?_set_self (by simp [hl]))
    have eit:valI (lcl 18) ((loc.set 18 (some (zaw ord h))).set 17 (some (.str t))) hp = some (h.map (fun p=>AV.int ((oOf ord p:Nat):Int)),hp):=by
      refine zb5 (zbl g18) ?_
      simp only [zaw,zji,List.map_map]
      rfl
    have c:=zd2 (fun p:Nat=>AV.int ((oOf ord p:Nat):Int)) (fun _=>true) (fun p=>AV.str (zjf (w (oOf ord p)))) (tests:=cstB true) (elt:=bin addA (bin addA (cst (.str [34])) (bin zaq (lcl 1) (lcl 0))) (cst (.str [34]))) (frees:=[3]) (loc:=(loc.set 18 (some (zaw ord h))).set 17 (some (.str t))) (ite:=valI (lcl 18)) (hp:=hp) h eit (by lia) (fun p hp6=>⟨rfl,fun _=>by
      rw [zjg g3]
      have hwp:=hw p (hh6 p hp6)
      have hop:=ho p (hh6 p hp6)
      exact zam (zam rfl (zam (x:=.fl ((List.range 6).map fun k=>.str (w k))) rfl rfl (zc3 (by lia) (zck _ hop))) (add_str (a:=[34]) (b:=w (oOf ord p)) (by simp only [List.length_cons,List.length_nil]; lia) hp)) rfl (add_str (by simp only [List.length_append,List.length_cons,List.length_nil]; lia) hp)⟩)
    rw [zcr] at c
    have hpl:=zmo hw h hh6
    have htxt:=zn9 ord w h hne
    have hjl:(zhv [32] (h.map fun p=>zjf (w (oOf ord p)))).length + 1 = (zbe (zbx ord w h)).length:=by rw [← htxt]; simp
    have ej:=zp6 (hp:=hp) [32] (h.map fun p=>zjf (w (oOf ord p))) (by simp; lia) (by simp) (by
      intro z hz
      obtain ⟨p,hp',rfl⟩:=List.mem_map.1 hz
      have:=hw p (hh6 p hp')
      simp only [zjf,List.length_append,List.length_cons,List.length_nil]; lia) (by lia)
    rw [List.map_map] at ej
    have eb:ztm ((loc.set 18 (some (zaw ord h))).set 17 (some (.str t))) hp = some (.nx,(loc.set 18 (some (zaw ord h))).set 17 (some (.str (t++zbe (zbx ord w h)))),hp):=by
      have e0:addA (.str (t++zhv [32] (h.map fun p=>zjf (w (oOf ord p))))) (.str [10]) hp = some (.str (t++zbe (zbx ord w h)),hp):=by
        rw [← htxt,← List.append_assoc]
        exact add_str (by rw [List.length_append,List.length_cons,List.length_nil]; lia) hp
      refine za2 (zaz (zam (zam (zbl g17) (zc8 rfl rfl (zai (zbw c) rfl) ej) (add_str (by lia) hp)) rfl e0) ?_)
      rw [zf2 (by simp [hl]),List.set_set]
    obtain ⟨x18',k1⟩:=ih (some (zaw ord h)) (t++zbe (zbx ord w h)) (fun z hz=>hP z (by simp [hz])) (by simp; lia)
    refine ⟨x18',(zeh es eb k1).trans ?_⟩
    simp [zhl,zgs]
theorem zyl (h3:loc[3]? = some (some (za9 w))) (hl:loc.length = 24) (ho:∀ p,p < 6→oOf ord p < 6) (hw:∀ p,p < 6→(w (oOf ord p)).length≤8) (P:List (List Nat)) (hP:∀ h∈P,h≠[]∧h.length≤2∧∀ p∈h,p < 6) (hPl:P.length≤6)
    (h16:loc[16]? = some (some (.fl (P.map (zaw ord))))) (h17:loc[17]? = some (some (.str []))) (x18:Option AV) (h18:loc[18]? = some x18) :
    ∃ x18',forS (valI (lcl 16)) (stE 18) ztm loc hp = some (.nx,(loc.set 18 x18').set 17 (some (.str (zhl ord w P))),hp):=by
  obtain ⟨x18',k1⟩:=zy2 (hp:=hp) h3 hl ho hw P x18 [] hP (by simp; lia)
  rw [zf5 h18,zf5 h17] at k1
  exact ⟨x18',zfn (zb5 (zbl h16) rfl) k1⟩
noncomputable def zg7:Nat→List (List Nat × Nat × Nat)→List (List Nat × Nat)
  | _,[]=>[]
  | b,(v,_,s) ::T=>(v,b) ::zg7 (b + if s = 10 then 1 else 0) T
theorem zhj:∀ y0,zg7 y0 [] =
   ([]):=fun _=>rfl
theorem zhi:∀ b v y0 s T,zg7 b ((v,y0,s) ::T) =
   ((v,b) ::zg7 (b + if s = 10 then 1 else 0) T):=fun _ _ _ _ _=>rfl
noncomputable def zic (l:List (List Nat × Nat)):List AV:=l.map fun x=>.tup [.str x.1,.int x.2]
noncomputable def zsn:MS:=seqS (asgS (zcj 0 zau (lcl 19) zaf) (stE 21)) (seqS (zcl (zcc "list" zca (lcl 20) (zac (tupE (zac (lcl 21) (zac (attE 0 0 (lcl 19)) zaf))) zaf))) nilS)
theorem zsm {a m p:Nat} {txt:List Nat} {N:Nat} (h19:loc[19]? = some (some (.loc m))) (h20:loc[20]? = some (some (.loc N))) (hl:loc.length = 24) (hpN:p < N) :
    ∀ (T:List (List Nat × Nat × Nat)) (l:List Nat) (x5 x21:Option AV) (hp:Hp) (acc:List AV) (k line b:Nat) (ld:List Nat),l.length = T.length→(∀ x∈T,WordOk x.1∧x.2.1 = 0∧(x.2.2 = 10∨x.2.2 = 32))→acc.length + T.length≤100→
    Lex hp a m p txt k line []→N < hp.N→hp.H N = some (.list acc)→txt.drop k = ld++zbe T→Ws ld→ld.length≤1→line + ld.count 10 = b→
    ∃ (x5' x21':Option AV) (hp':Hp) (k' line':Nat) (ld':List Nat),forM (stE 5) zsn (l.map fun k:Nat=>AV.int (k:Int)) ((loc.set 5 x5).set 21 x21) hp = some (.nx,(loc.set 5 x5').set 21 x21',hp')∧
      hp'.H N = some (.list (acc++zic (zg7 b T)))∧Lex hp' a m p txt k' line' []∧txt.drop k' = ld'∧Ws ld'∧ld'.length≤1∧line' + ld'.count 10 = line + (txt.drop k).count 10
  | [],l,x5,x21,hp,acc,k,line,b,ld,hlT,hT,hacc,L,hN,hH,hd,hw,hld,hb=>by
    have:l = []:=List.length_eq_zero_iff.1 hlT
    subst this
    simp only [zbe,List.append_nil] at hd
    exact ⟨x5,x21,hp,k,line,ld,rfl,by simpa [zhj,zhi,zic] using hH,L,hd,hw,hld,by rw [hd]⟩
  | (v,y,s) ::T,l,x5,x21,hp,acc,k,line,b,ld,hlT,hT,hacc,L,hN,hH,hd,hw,hld,hb=>by
    obtain ⟨j,l',rfl⟩:∃ j l',l = j ::l':=by
      cases l with
      | nil=>simp at hlT
      | cons j l'=>exact ⟨j,l',rfl⟩
    simp only [List.length_cons] at hlT hacc
    obtain ⟨t1,t2,t3⟩:=hT _ (List.mem_cons_self ..)
    simp only at t1 t2 t3
    subst t2
    have hd':txt.drop k = ld++(zd1 v 0++s ::zbe T):=hd
    obtain ⟨hp1,k1,line1,e1,e2,e3,e4,e5⟩:=zpg L hw hld t1 t3 hd'
    rw [if_neg (by decide)] at e3
    have hv10:(zd1 v 0).count 10 = 0:=by
      simp only [zd1,List.count_append,List.count_cons,List.count_nil]
      rw [zf8 fun c hc=>(t1.c c hc).2.1]
      rfl
    have hline:line1 = b:=by
      rw [e3,hd'] at e4
      simp only [List.count_append,List.count_cons,List.count_nil,hv10] at e4
      lia
    have ham:=L.am; have hmp:=L.mp; have hpn:=L.pn
    have es:stE 5 (.int (j:Int)) ((loc.set 5 x5).set 21 x21) hp = some ((loc.set 5 (some (.int j))).set 21 x21,hp):=by
      rw [zf2 (by simp [hl]),List.set_comm _ _ (by decide),List.set_set]
    have g19:∀ z,((loc.set 5 (some (.int j))).set 21 z)[19]? = some (some (.loc m)):=fun z=>(zer (by decide)).trans ((zer (by decide)).trans h19)
    have g20:∀ z,((loc.set 5 (some (.int j))).set 21 z)[20]? = some (some (.loc N)):=fun z=>(zer (by decide)).trans ((zer (by decide)).trans h20)
    have g21:((loc.set 5 (some (.int j))).set 21 (some (.str v)))[21]? = some (some (.str v)):=List.getElem?_set_self (by simp [hl])
    have s1:asgS (zcj 0 zau (lcl 19) zaf) (stE 21) ((loc.set 5 (some (.int j))).set 21 x21) hp = some (.nx,(loc.set 5 (some (.int j))).set 21 (some (.str v)),hp1):=by
      refine zaz (zdf (zbl (g19 _)) L.inst rfl e1) ?_
      rw [zf2 (by simp [hl]),List.set_set]
    have hH1:hp1.H N = some (.list acc):=by rw [e5.h N hN (by lia) (by lia),hH]
    have ga:attE 0 0 (lcl 19) ((loc.set 5 (some (.int j))).set 21 (some (.str v))) hp1 = some (.int (b:Nat),hp1):=by
      rw [← hline]
      exact zei (zbl (g19 _)) (zg0 e2.hm rfl) rfl
    have ea:=zdz (.tup [.str v,.int (b:Nat)]) hH1 (by lia)
    have eb:zsn ((loc.set 5 (some (.int j))).set 21 x21) hp = _:=zao s1 (za2 (zcu (zc8 (zbl (g20 _)) (zd0 hH1) (zai (zgr (zai (zbl g21) (zai ga rfl)) (by simp)) rfl) ea)))
    have L2:Lex (hp1.put N (.list (acc++[.tup [.str v,.int (b:Nat)]]))) a m p txt k1 line1 []:=e2.keep (za1 _ _ (by lia)) (za1 _ _ (by lia)) (by rw [za1 _ _ (by lia),e2.hpb]) (Nat.le_refl _)
    have hws:Ws [s]:=by
      intro c hc
      simp only [List.mem_cons,List.not_mem_nil,or_false] at hc
      subst hc
      rcases t3 with e | e <;> rw [e] <;> decide
    have hcs:line1 + [s].count 10 = b + if s = 10 then 1 else 0:=by
      rw [hline]
      rcases t3 with e | e <;> subst e <;> rfl
    obtain ⟨x5',x21',hp',k',line',ld',f1,f2,f3,f4,f5,f6,f7⟩:=zsm h19 h20 hl hpN T l' (some (.int j)) (some (.str v)) _ _ k1 line1 _ [s] (by lia) (fun z hz=>hT z (List.mem_cons_of_mem _ hz)) (by simp; lia) L2 (Nat.lt_of_lt_of_le hN e5.n) (zcb _ _ _) e3 hws (by simp) hcs
    refine ⟨x5',x21',hp',k',line',ld',zeh es eb f1,?_,f3,f4,f5,f6,f7.trans e4⟩
    rw [f2]
    simp [zhj,zhi,zic]
end
theorem zq7:∀ (n:Nat) (l:List Nat),(∀ i,i < n→i∈l)→l.length = n→l.Perm (List.range n):=by
  intro n
  induction n with
  | zero =>
    intro l _ h
    rw [List.length_eq_zero_iff.1 h]; exact .refl _
  | succ n ih =>
    intro l ha h
    have hn:=ha n (by lia)
    have p1:=List.perm_cons_erase hn
    have hl:=List.length_erase_of_mem hn
    have p2:=ih (l.erase n) (fun i hi=>(List.mem_erase_of_ne (by lia)).2 (ha i (by lia))) (by lia)
    rw [List.range_succ]
    exact p1.trans ((p2.cons n).trans (List.perm_append_singleton n _).symm)
section
variable {ord:List Nat} {w:Nat→List Nat}
theorem zlv:∀ (h:List Nat) (b:Nat) (T:List (List Nat × Nat × Nat)),h≠[]→zg7 b (zbx ord w h++T) = h.map (fun p=>(w (oOf ord p),b))++zg7 (b + 1) T
  | [],_,_,h=>absurd rfl h
  | [p],b,T,_=>by simp [zcg,zcf,zce,zhj,zhi]
  | p ::q ::r,b,T,_=>by
    have ih:=zlv (q ::r) b T (by simp)
    simp only [zcg,zcf,zce,List.cons_append,zhj,zhi,List.map_cons] at ih ⊢
    rw [if_neg (by decide),Nat.add_zero]
    congr 1
theorem zkd:∀ (T:List (List Nat × Nat × Nat)) (b:Nat),(zg7 b T).map (·.1) = T.map (·.1)
  | [],_=>rfl
  | (v,y,s) ::T,b=>by simp only [zhj,zhi,List.map_cons,zkd T]
theorem znv:∀ (T:List (List Nat × Nat × Nat)) (b:Nat),(zg7 b T).length = T.length
  | [],_=>rfl
  | (v,y,s) ::T,b=>by simp only [zhj,zhi,List.length_cons,znv T]
theorem zkx:∀ (h:List Nat),(zbx ord w h).map (·.1) = h.map fun p=>w (oOf ord p)
  | []=>rfl
  | [p]=>rfl
  | p ::q ::r=>by
    have:=zkx (q ::r)
    simp only [zcg,zcf,zce,List.map_cons] at this ⊢
    rw [this]
theorem zqd:∀ (P:List (List Nat)),(P.flatMap (zbx ord w)).map (·.1) = P.flatten.map fun p=>w (oOf ord p):=by
  intro P
  induction P with
  | nil =>
    exact rfl
  | cons h P ih =>
    rw [List.flatMap_cons,List.map_append,zkx,ih,List.flatten_cons,List.map_append]
theorem zqc (P:List (List Nat)):(P.flatMap (zbx ord w)).length = P.flatten.length:=by
  have:=congrArg List.length (zqd (ord:=ord) (w:=w) P)
  simpa only [List.length_map] using this
theorem zkw:∀ (h:List Nat),∀ x∈zbx ord w h,∃ p∈h,x.1 = w (oOf ord p)∧x.2.1 = 0∧(x.2.2 = 10∨x.2.2 = 32)
  | [],x,hx=>by simp [zcg,zcf,zce] at hx
  | [p],x,hx=>by
    simp only [zcg,zcf,zce,List.mem_cons,List.not_mem_nil,or_false] at hx
    subst hx
    exact ⟨p,by simp,rfl,rfl,.inl rfl⟩
  | p ::q ::r,x,hx=>by
    simp only [zcg,zcf,zce] at hx
    rcases List.mem_cons.1 hx with rfl | hx
    · exact ⟨p,by simp,rfl,rfl,.inr rfl⟩
    · obtain ⟨z,hz,e⟩:=zkw (q ::r) x hx
      exact ⟨z,List.mem_cons_of_mem _ hz,e⟩
theorem zl2 (hw:∀ p,p < 6→∀ c∈w (oOf ord p),c≠10):∀ (h:List Nat),h≠[]→(∀ p∈h,p < 6)→(zbe (zbx ord w h)).count 10 = 1
  | [],h,_=>absurd rfl h
  | [p],_,h6=>by
    simp only [zcg,zcf,zce,zbe,zd1,List.count_append,List.count_cons,List.count_nil,zf8 (hw p (h6 p (by simp)))]
    rfl
  | p ::q ::r,_,h6=>by
    have ih:=zl2 hw (q ::r) (by simp) fun z hz=>h6 z (List.mem_cons_of_mem _ hz)
    simp only [zcg,zcf,zce,zbe,zd1,List.count_append,List.count_cons,List.count_nil,zf8 (hw p (h6 p (by simp)))] at ih ⊢
    rw [ih]
    rfl
theorem zrm (hw:∀ p,p < 6→∀ c∈w (oOf ord p),c≠10):∀ (P:List (List Nat)),(∀ h∈P,h≠[]∧∀ p∈h,p < 6)→(zhl ord w P).count 10 = P.length:=by
  intro P
  induction P with
  | nil =>
    intro _
    exact rfl
  | cons h P ih =>
    intro hP
    have ih:=ih fun z hz=>hP z (by simp [hz])
    have h1:=zl2 hw h (hP h (by simp)).1 (hP h (by simp)).2
    simp only [zhl] at ih ⊢
    rw [List.flatMap_cons,zgs,List.count_append,ih,h1,List.length_cons]
    lia
theorem ztn (hw:∀ p,p < 6→(w (oOf ord p)).length≤8):∀ (P:List (List Nat)),(∀ h∈P,h.length≤2∧∀ p∈h,p < 6)→(zhl ord w P).length≤30 * P.length:=by
  intro P
  induction P with
  | nil =>
    intro _
    simp [zhl,zbe]
  | cons h P ih =>
    intro hP
    have ih:=ih fun z hz=>hP z (by simp [hz])
    have h1:=zmo hw h (hP h (by simp)).2
    have h2:=(hP h (by simp)).1
    simp only [zhl] at ih ⊢
    rw [List.flatMap_cons,zgs,List.length_append,List.length_cons]
    lia
theorem zs1 (inj:∀ p q,p < 6→q < 6→w (oOf ord p) = w (oOf ord q)→p = q) {p:Nat} (hp:p < 6):∀ (P:List (List Nat)) (b:Nat),(∀ h∈P,h≠[]∧∀ p∈h,p < 6)→p∈P.flatten→
    (((zg7 b (P.flatMap (zbx ord w))).filter fun x=>decide (x.1 = w (oOf ord p))).map (·.2))[0]? = some (b + zb0 P p):=by
  intro P
  induction P with
  | nil =>
    intro b _ hm
    simp at hm
  | cons h P ih =>
    intro b hP hm
    obtain ⟨hne,h6⟩:=hP h (by simp)
    rw [List.flatMap_cons,zlv h b _ hne,List.filter_append,List.map_append]
    have hhr:zb0 (h ::P) p = if h.contains p then 0 else zb0 P p + 1:=by
      simp only [zb0,List.findIdx_cons]
      cases h.contains p <;> rfl
    by_cases hin:p∈h
    · rw [hhr,if_pos (by simpa using hin),Nat.add_zero]
      have:((h.map fun q=>(w (oOf ord q),b)).filter fun x=>decide (x.1 = w (oOf ord p))).map (·.2)≠[]:=by
        intro e
        have hmem:(w (oOf ord p),b)∈(h.map fun q=>(w (oOf ord q),b)).filter fun x=>decide (x.1 = w (oOf ord p)):=List.mem_filter.2 ⟨List.mem_map.2 ⟨p,hin,rfl⟩,by simp⟩
        rw [List.map_eq_nil_iff] at e
        rw [e] at hmem
        simp at hmem
      have hall:∀ x∈((h.map fun q=>(w (oOf ord q),b)).filter fun x=>decide (x.1 = w (oOf ord p))).map (·.2),x = b:=by
        intro x hx
        obtain ⟨y,hy,rfl⟩:=List.mem_map.1 hx
        obtain ⟨q,_,rfl⟩:=List.mem_map.1 (List.mem_filter.1 hy).1
        rfl
      generalize ((h.map fun q=>(w (oOf ord q),b)).filter fun x=>decide (x.1 = w (oOf ord p))).map (·.2) = l at *
      cases l with
      | nil=>exact absurd rfl this
      | cons x l=>rw [hall x (by simp)]; rfl
    · rw [hhr,if_neg (by simpa using hin)]
      have:((h.map fun q=>(w (oOf ord q),b)).filter fun x=>decide (x.1 = w (oOf ord p))) = []:=by
        rw [List.filter_eq_nil_iff]
        intro x hx
        obtain ⟨q,hq,rfl⟩:=List.mem_map.1 hx
        simp only [decide_eq_true_eq]
        intro e
        exact hin (inj q p (h6 q hq) hp e ▸ hq)
      rw [this]
      have ih:=ih (b + 1) (fun z hz=>hP z (by simp [hz])) (by
        rw [List.flatten_cons] at hm
        exact (List.mem_append.1 hm).resolve_left hin)
      simp only [List.map_nil,List.nil_append]
      rw [ih]
      congr 1
      lia
end
section
variable {loc:Loc} {hp:Hp}
inductive st_readerR (loc:Loc) (hp:Hp) (page:List Nat):Prop
  | mk (a:Nat) (m:Nat) (p:Nat) (hp':Hp) (q1:asgS (zas zeg (zac (lcl 17) zaf)) (stE 19) loc hp = some (.nx,loc.set 19 (some (.loc m)),hp')) (q2:Lex hp' a m p page 0 1 []):st_readerR loc hp page
theorem zsc {page:List Nat} (h17:loc[17]? = some (some (.str page))) (hl:loc.length = 24) (hpl:page.length≤5000):st_readerR loc hp page:=by
  obtain ⟨hp',e1,e2,e3⟩:=zp3 page hpl hp
  exact ⟨_,_,_,hp',zaz (zav (zai (zbl h17) rfl) e1) (zf2 (by lia)),e2⟩
inductive st_seenR (loc:Loc) (hp:Hp) (a:Nat) (m:Nat) (p:Nat) (N:Nat) (T:List (List Nat × Nat × Nat)):Prop
  | mk (x5':Option AV) (x21':Option AV) (hp':Hp) (k':Nat) (line':Nat) (ld':List Nat) (q1:forS (valI (zas zbh (zac (cst (.int 6)) zaf))) (stE 5) zsn loc hp = some (.nx,(loc.set 5 x5').set 21 x21',hp')) (q2:hp'.H N = some (.list (zic (zg7 1 T)))) (q3:Lex hp' a m p (zbe T) k' line' []) (q4:(zbe T).drop k' = ld') (q5:Ws ld') (q6:ld'.length≤1) (q7:line' + ld'.count 10 = 1 + (zbe T).count 10):st_seenR loc hp a m p N T
theorem zyj {a m p N:Nat} {T:List (List Nat × Nat × Nat)} (hT6:T.length = 6) (hT:∀ x∈T,WordOk x.1∧x.2.1 = 0∧(x.2.2 = 10∨x.2.2 = 32)) (h19:loc[19]? = some (some (.loc m))) (h20:loc[20]? = some (some (.loc N))) (hl:loc.length = 24) (hpN:p < N) (hN:N < hp.N)
    (L:Lex hp a m p (zbe T) 0 1 []) (hH:hp.H N = some (.list [])) (x5 x21:Option AV) (h5:loc[5]? = some x5) (h21:loc[21]? = some x21):st_seenR loc hp a m p N T:=by
  obtain ⟨x5',x21',hp',k',line',ld',f1,f2,f3,f4,f5,f6,f7⟩:=zsm h19 h20 hl hpN T (List.range 6) x5 x21 hp [] 0 1 1 [] (by simp [hT6]) hT (by simp [hT6]) L hN hH rfl (by intro c hc; simp at hc) (by simp) rfl
  rw [zf5 h5,zf5 h21] at f1
  exact ⟨x5',x21',hp',k',line',ld',zfn (zb5 (zav (zai rfl rfl) rfl) (zbs (b:=6) (by lia))) f1,by simpa using f2,f3,f4,f5,f6,f7⟩
theorem zr9 (l:List (List Nat)) (h:∀ v∈l,Ok v) (hp:Hp):neA (.fl (l.map .str)) (.fl (l.map .str)) hp = some (.bool false,hp):=by
  have h1:=znh (fun v=>AV.str v) (fun v=>PyData.str ⟨v.toArray⟩) l fun v hv=>zjr (h v hv)
  have e:toPy (.fl (l.map .str)) = some (.list (l.map fun v=>PyData.str ⟨v.toArray⟩)):=by
    have h2:zg5 (l.map AV.str) = some (l.map fun v=>PyData.str ⟨v.toArray⟩):=h1
    simp only [zez,ze1,zey,zex,ze0,h2,Option.map_some]
  refine zih e ?_ ?_ hp
  · have:=zdh 0 (l.map fun v=>PyData.str ⟨v.toArray⟩) fun x hx=>by
      obtain ⟨k,_,rfl⟩:=List.mem_map.1 hx; simp [PyData.depth]
    simp only [PyData.depth]; lia
  · simp only [PyData.eqv]
    refine zef _ fun d hd=>?_
    obtain ⟨k,_,rfl⟩:=List.mem_map.1 hd
    simp [PyData.eqv]
theorem zlp {m:ME} {l:List (List Nat)} (hl:l.length≤60) (h1:m loc hp = some (.fl (l.map .str),hp)):zhh (zac m zaf) loc hp = some ((zek l).map .str,hp):=by
  have hc:zac m zaf loc hp = some ([.fl (l.map .str)],hp):=zai h1 rfl
  have e:=zl7 (fun x:List Nat=>x) l
  rw [List.map_id'] at e
  have e':zl8 (l.map AV.str) = some l:=e
  exact bE hc (bE e' (if_pos hl))
theorem zwr {α:Type} (le:α→α→Bool) (x:α):∀ (l:List α) (y:α),y∈insG le x l→y = x∨y∈l:=by
  intro l
  induction l with
  | nil =>
    intro y h
    simp [zfx,zfw] at h; exact .inl h
  | cons z r ih =>
    intro y h
    simp only [zfx,zfw] at h
    split at h
    · rcases List.mem_cons.1 h with e | e
      · exact .inl e
      · exact .inr e
    · rcases List.mem_cons.1 h with e | e
      · exact .inr (by simp [e])
      · exact (ih y e).imp id fun e=>by simp [e]
theorem zvx:∀ (l:List (List Nat)) (y:List Nat),y∈zek l→y∈l:=by
  intro l
  induction l with
  | nil =>
    intro y h
    simp [zek] at h
  | cons x r ih =>
    intro y h
    rw [zek,zn6] at h
    rcases zwr _ _ _ _ h with e | e
    · simp [e]
    · simp [ih y e]
theorem zsg {w:Nat→List Nat} (W:Words w) {S:List (List Nat × Nat)} (hS6:S.length≤10) (hperm:(S.map (·.1)).Perm ((List.range 6).map w)) (h3:loc[3]? = some (some (za9 w))) (h20:loc[20]? = some (some (.fl (zic S)))) (r:MS) :
    iteS (tru (bin neA (flz (zhh (zac (flz (zbo 2 [] (valI (lcl 20)) (tupT 2 (zd4 (stE 0) (zd4 (stE 1) nilT))) (cstB true) (lcl 0))) zaf))) (flz (zhh (zac (lcl 3) zaf))))) r nilS loc hp = some (.nx,loc,hp):=by
  have c:=zuz (fun x:List Nat × Nat=>AV.str x.1) (fun x=>AV.int (x.2:Nat)) (fun _=>true) (fun x=>AV.str x.1) (tests:=cstB true) (elt:=lcl 0) (frees:=[]) (loc:=loc) (ite:=valI (lcl 20)) (hp:=hp) S (zb5 (zbl h20) rfl) (by lia) fun x _=>⟨rfl,fun _=>rfl⟩
  rw [zcr] at c
  have c':flz (zbo 2 [] (valI (lcl 20)) (tupT 2 (zd4 (stE 0) (zd4 (stE 1) nilT))) (cstB true) (lcl 0)) loc hp = some (.fl ((S.map (·.1)).map .str),hp):=by
    rw [zbw c]; simp
  have e1:=zlp (by simp; lia) c'
  have h3':lcl 3 loc hp = some (.fl (((List.range 6).map w).map .str),hp):=by
    rw [zbl h3,za9]; simp
  have e2:=zlp (by simp) h3'
  rw [zmd hperm] at e1
  refine zdb (zb2 (zam (zbw e1) (zbw e2) (zr9 _ ?_ hp))) rfl
  intro v hv
  obtain ⟨k,hk,rfl⟩:=List.mem_map.1 (zvx _ _ hv)
  exact fun c hc=>((W.ok k (List.mem_range.1 hk)).c c hc).1
theorem zvu {w:Nat→List Nat} (W:Words w) {S:List (List Nat × Nat)} {f:Nat→Nat} (hS6:S.length≤10) (hSw:∀ x∈S,Ok x.1) (hf:∀ k,k < 6→((S.filter fun x=>decide (x.1 = w k)).map (·.2))[0]? = some (f k))
    (h3:loc[3]? = some (some (za9 w))) (h20:loc[20]? = some (some (.fl (zic S)))) (hl:loc.length = 24) :
    asgS (flz (zbo 1 [20] (valI (lcl 3)) (stE 0) (cstB true) (bin zaq (flz (zbo 2 [0] (valI (lcl 1)) (tupT 2 (zd4 (stE 0) (zd4 (stE 1) nilT))) (tru (bin eqA (lcl 0) (lcl 2))) (lcl 1))) (cst (.int 0))))) (stE 22) loc hp = some (.nx,loc.set 22 (some (.fl ((List.range 6).map fun k=>AV.int (f k:Nat)))),hp):=by
  have c:=zd2 (fun k:Nat=>AV.str (w k)) (fun _=>true) (fun k=>AV.int (f k:Nat)) (tests:=cstB true) (elt:=bin zaq (flz (zbo 2 [0] (valI (lcl 1)) (tupT 2 (zd4 (stE 0) (zd4 (stE 1) nilT))) (tru (bin eqA (lcl 0) (lcl 2))) (lcl 1))) (cst (.int 0))) (frees:=[20]) (loc:=loc) (ite:=valI (lcl 3)) (hp:=hp) (List.range 6)
    (zb5 (zbl h3) rfl) (by simp) (fun k hk=>⟨rfl,fun _=>by
      have hk6:=List.mem_range.1 hk
      rw [zjg h20]
      have c2:=zuz (fun x:List Nat × Nat=>AV.str x.1) (fun x=>AV.int (x.2:Nat)) (fun x=>decide (x.1 = w k)) (fun x=>AV.int (x.2:Nat)) (tests:=tru (bin eqA (lcl 0) (lcl 2))) (elt:=lcl 1) (frees:=[0]) (loc:=[some (.str (w k)),some (.fl (zic S))]) (ite:=valI (lcl 1)) (hp:=hp) S (zb5 (x:=.fl (zic S)) rfl rfl) (by lia)
        fun x hx=>⟨zb2 (zam rfl rfl (zhw (hSw x hx) (fun c hc=>((W.ok k hk6).c c hc).1) hp)),fun _=>rfl⟩
      refine zam (zbw c2) rfl (zc3 (i:=0) (by lia) ?_)
      have:=hf k hk6
      rw [List.getElem?_map] at this ⊢
      rw [Option.map_eq_some_iff] at this
      obtain ⟨x,x1,x2⟩:=this
      rw [x1]; simp [x2]⟩)
  rw [zcr] at c
  exact zaz (zbw c) (zf2 (by lia))
end
noncomputable def zi8 (f:Nat→Nat):AV:=.fl ((List.range 6).map fun k=>AV.int (f k:Nat))
theorem zz1 (a:Nat):∀ l:List Nat,cntL (.int a) (l.map fun j:Nat=>AV.int j) = some (l.count a):=by
  intro l
  induction l with
  | nil =>
    exact rfl
  | cons b l ih =>
    rw [List.map_cons,zu4,eqS_i,List.count_cons]
    simp only [ih,Option.map_some]
    by_cases h:b = a
    · subst h; simp
    · have h1:((b:Int) == (a:Int)) = false:=by rw [beq_eq_false_iff_ne]; lia
      have h2:(b == a) = false:=by simpa using h
      rw [h1,h2]; rfl
theorem zzc {m:Int}:∀ r:List Int,(∀ y∈r,y≤m)→maxI r = none∨∃ y,maxI r = some y∧y≤m:=by
  intro r
  induction r with
  | nil=>intro _; exact .inl rfl
  | cons z r ih =>
    intro hr
    right
    have hz:=hr z (.head _)
    simp only [maxI]
    rcases ih fun y hy=>hr y (.tail _ hy) with e | ⟨y,e,hy⟩
    · rw [e]; exact ⟨z,rfl,hz⟩
    · rw [e]
      refine ⟨_,rfl,?_⟩
      split <;> lia
theorem zzd {m:Int}:∀ l:List Int,(∀ x∈l,x≤m)→m∈l→maxI l = some m:=by
  intro l
  induction l with
  | nil =>
    intro _ h
    simp at h
  | cons x r ih =>
    intro hle hm
    have hx:=hle x (by simp)
    have hr:∀ y∈r,y≤m:=fun y hy=>hle y (by simp [hy])
    have hc:=zzc r hr
    by_cases hmr:m∈r
    · simp only [maxI,ih hr hmr]
      split
      · rfl
      · congr 1; lia
    · have:x = m:=by
        rcases List.mem_cons.1 hm with e | e
        · exact e.symm
        · exact absurd e hmr
      subst this
      simp only [maxI]
      rcases hc with e | ⟨y,e,hy⟩
      · rw [e]
      · rw [e]
        show some (if x < y then y else x) = some x
        rw [if_neg (by lia)]
section
variable {loc:Loc} {hp:Hp} {A:Nat→Nat→Bool} {f:Nat→Nat}
theorem zn8 (f:Nat→Nat):zi8 f = .fl (((List.range 6).map f).map fun j:Nat=>AV.int j):=by simp [zi8]
theorem zsf (hcnt:∀ k,k < 6→((List.range 6).map f).count (f k)≤2) (h22:loc[22]? = some (some (zi8 f))) (r:MS) :
    iteS (tru (bin neA (flz (zbo 1 [22] (valI (lcl 22)) (stE 0) (tru (bin gtA (zcc "list" zks (lcl 1) (zac (lcl 0) zaf)) (cst (.int 2)))) (lcl 0))) (flz (lstE zaf)))) r nilS loc hp = some (.nx,loc,hp):=by
  have c:=zd2 (fun k:Nat=>AV.int (f k:Nat)) (fun k=>decide (2 < (((List.range 6).map f).count (f k):Int))) (fun k=>AV.int (f k:Nat)) (tests:=tru (bin gtA (zcc "list" zks (lcl 1) (zac (lcl 0) zaf)) (cst (.int 2)))) (elt:=lcl 0) (frees:=[22]) (loc:=loc) (ite:=valI (lcl 22)) (hp:=hp) (List.range 6)
    (zb5 (zbl h22) rfl) (by simp) (fun k _=>by
      rw [zjg h22]
      have e:zks [zi8 f,.int (f k:Nat)] hp = some (.int (((List.range 6).map f).count (f k):Nat),hp):=by
        rw [zn8]
        exact congrArg (Option.map fun j:Nat=>(AV.int (j:Int),hp)) (zz1 (f k) ((List.range 6).map f))
      exact ⟨zb2 (zam (zc8 rfl rfl (zai rfl rfl) e) rfl rfl),fun _=>rfl⟩)
  have hnil:(List.range 6).filter (fun k=>decide (2 < (((List.range 6).map f).count (f k):Int))) = []:=by
    rw [List.filter_eq_nil_iff]
    intro k hk
    have:=hcnt k (List.mem_range.1 hk)
    simp only [decide_eq_true_eq]
    lia
  rw [hnil] at c
  exact zdb (zb2 (zam (zbw c) (zig _ hp) (zhu [] hp))) rfl
theorem zw0 {α:Type} (g:α→AV) {test:MB} {fr:Loc} (X:AV):∀ (l:List α) (o:Option AV),(∀ x∈l,test (some X ::some (g x) ::fr) hp = some (false,hp))→∃ o',ziz (stE 1) test fr (l.map g) [some X,o] hp = some ([some X,o'],hp):=by
  intro l
  induction l with
  | nil =>
    intro o _
    exact ⟨o,rfl⟩
  | cons x l ih =>
    intro o h
    obtain ⟨o',e⟩:=ih (some (g x)) fun y hy=>h y (by simp [hy])
    have e1:stE 1 (g x) [some X,o] hp = some ([some X,some (g x)],hp):=rfl
    have e2:=h x (by simp)
    refine ⟨o',?_⟩
    exact bE e2 e
theorem zu1 {α β:Type} (g:α→AV) (g2:β→AV) {test:MB} {fr:Loc} {mi2:Loc→Hp→Option (List AV × Hp)} (l2:List β):∀ (l:List α) (o1 o2:Option AV),(∀ x∈l,∀ o2,mi2 (some (g x) ::o2 ::fr) hp = some (l2.map g2,hp))→(∀ x∈l,∀ y∈l2,test (some (g x) ::some (g2 y) ::fr) hp = some (false,hp))→
    zhx (stE 0) mi2 (stE 1) test fr (l.map g) [o1,o2] hp = some hp:=by
  intro l
  induction l with
  | nil =>
    intro _ _ _ _
    exact rfl
  | cons x l ih =>
    intro o1 o2 h1 h2
    obtain ⟨o',e⟩:=zw0 g2 (g x) l2 o2 (h2 x (by simp))
    have e1:stE 0 (g x) [o1,o2] hp = some ([some (g x),o2],hp):=rfl
    have e2:=h1 x (by simp) o2
    exact bE e2 (bE e (ih (some (g x)) o' (fun y hy=>h1 y (by simp [hy])) (fun y hy=>h2 y (by simp [hy]))))
theorem zse (hup:∀ i j,i < 6→j < 6→A i j = true→f i < f j) (h11:loc[11]? = some (some (za3 A))) (h22:loc[22]? = some (some (zi8 f))) (r:MS) :
    iteS (tru (bin neA (flz (zl4 2 [11,22] (valI (zas zbh (zac (cst (.int 6)) zaf))) (stE 0) (valI (zas zbh (zac (cst (.int 6)) zaf))) (stE 1) (andB (tru (bin zaq (bin zaq (lcl 2) (lcl 0)) (lcl 1))) (andB (tru (bin geA (bin zaq (lcl 3) (lcl 0)) (bin zaq (lcl 3) (lcl 1)))) (cstB true))))) (flz (lstE zaf)))) r nilS loc hp = some (.nx,loc,hp):=by
  have er:∀ L:Loc,valI (zas zbh (zac (cst (.int 6)) zaf)) L hp = some ((List.range 6).map fun i:Nat=>AV.int (i:Int),hp):=fun L=>zb5 (zav (zai rfl rfl) rfl) (zbs (b:=6) (by lia))
  have c:zl4 2 [11,22] (valI (zas zbh (zac (cst (.int 6)) zaf))) (stE 0) (valI (zas zbh (zac (cst (.int 6)) zaf))) (stE 1) (andB (tru (bin zaq (bin zaq (lcl 2) (lcl 0)) (lcl 1))) (andB (tru (bin geA (bin zaq (lcl 3) (lcl 0)) (bin zaq (lcl 3) (lcl 1)))) (cstB true))) loc hp = some ([],hp):=by
    have co:=zu1 (hp:=hp) (fun i:Nat=>AV.int (i:Int)) (fun i:Nat=>AV.int (i:Int)) (test:=andB (tru (bin zaq (bin zaq (lcl 2) (lcl 0)) (lcl 1))) (andB (tru (bin geA (bin zaq (lcl 3) (lcl 0)) (bin zaq (lcl 3) (lcl 1)))) (cstB true))) (fr:=[some (za3 A),some (zi8 f)]) (mi2:=valI (zas zbh (zac (cst (.int 6)) zaf))) (List.range 6) (List.range 6) none none
      (fun _ _ o2=>er _) (fun i hi j hj=>by
        have hi6:=List.mem_range.1 hi
        have hj6:=List.mem_range.1 hj
        have t1:tru (bin zaq (bin zaq (lcl 2) (lcl 0)) (lcl 1)) [some (.int (i:Int)),some (.int (j:Int)),some (za3 A),some (zi8 f)] hp = some (A i j,hp):=zb2 (zga hi6 hj6 rfl rfl rfl)
        have t2:tru (bin geA (bin zaq (lcl 3) (lcl 0)) (bin zaq (lcl 3) (lcl 1))) [some (.int (i:Int)),some (.int (j:Int)),some (za3 A),some (zi8 f)] hp = some (decide ((f j:Int)≤(f i:Int)),hp) :=
          zb2 (zam (zam (x:=zi8 f) rfl rfl (zc3 (by lia) (zck _ hi6))) (zam (x:=zi8 f) rfl rfl (zc3 (by lia) (zck _ hj6))) rfl)
        cases ha:A i j
        · rw [ha] at t1
          exact zxb t1
        · rw [ha] at t1
          have:=hup i j hi6 hj6 ha
          rw [decide_eq_false (by lia)] at t2
          exact zxa t1 (zxb t2))
    simp only [zl4,er loc,Option.bind_eq_bind,Option.bind_some,ztl h11 h22]
    have hr2:List.replicate 2 (none:Option AV) = [none,none]:=rfl
    rw [hr2,co]
    rfl
  exact zdb (zb2 (zam (zbw c) (zig _ hp) (zhu [] hp))) rfl
theorem zsd {a m p k line:Nat} {txt ld:List Nat} {X:List AV} (L:Lex hp a m p txt k line []) (hd:txt.drop k = ld) (hw:Ws ld) (hld:ld.length≤1) (hX:X.length≤100) (hc:line + ld.count 10 = 1 + X.length) (h19:loc[19]? = some (some (.loc m))) (h16:loc[16]? = some (some (.fl X))) (r:MS) :
    ∃ hp',iteS (orB (tru (bin neA (zcj 0 zau (lcl 19) zaf) (cst (.str [])))) (orB (tru (bin neA (attE 0 0 (lcl 19)) (bin addA (zas lenF (zac (lcl 16) zaf)) (cst (.int 1))))) (cstB false))) r nilS loc hp = some (.nx,loc,hp'):=by
  obtain ⟨hp',e1,e2,e3⟩:=gt_0 L hw hd (by lia)
  rw [hc] at e2
  have ok0:Ok []:=by intro c hc; simp at hc
  have g2:zcj 0 zau (lcl 19) zaf loc hp = some (.str [],hp'):=zdf (zbl h19) L.inst rfl e1
  have t2:tru (bin neA (zcj 0 zau (lcl 19) zaf) (cst (.str []))) loc hp = some (false,hp'):=by
    have:=zb2 (zam g2 (show cst (.str []) loc hp' = some (.str [],hp') from rfl) (zkn ok0 ok0 hp'))
    rw [this]; simp
  have g3:attE 0 0 (lcl 19) loc hp' = some (.int ((1 + X.length:Nat):Int),hp'):=zei (zbl h19) (zg0 e2.hm rfl) rfl
  have g4:bin addA (zas lenF (zac (lcl 16) zaf)) (cst (.int 1)) loc hp' = some (.int ((X.length:Int) + 1),hp'):=zam (zav (zai (zbl h16) rfl) (zho (by lia))) rfl rfl
  have t3:tru (bin neA (attE 0 0 (lcl 19)) (bin addA (zas lenF (zac (lcl 16) zaf)) (cst (.int 1)))) loc hp' = some (false,hp'):=by
    have:=zb2 (zam g3 g4 (zts _ _ hp'))
    rw [this,decide_eq_true (by lia)]
    rfl
  exact ⟨hp',zdb (or_f t2 (or_f t3 rfl)) rfl⟩
theorem zvv (h11:loc[11]? = some (some (za3 A))) (hl:loc.length = 24) :
    asgS (flz (zbo 1 [11] (valI (zas zbh (zac (cst (.int 6)) zaf))) (stE 0) (cstB true) (flz (zbo 1 [0,1] (valI (zas zbh (zac (lcl 0) zaf))) (stE 0) (andB (notB (tru (bin zaq (bin zaq (lcl 2) (lcl 1)) (lcl 0)))) (andB (notB (tru (bin zaq (bin zaq (lcl 2) (lcl 0)) (lcl 1)))) (cstB true))) (lcl 0))))) (stE 23) loc hp = some (.nx,loc.set 23 (some (zfj (incP A))),hp):=by
  have c:=zd2 (fun i:Nat=>AV.int (i:Int)) (fun _=>true) (fun i=>AV.fl ((aptP (incP A) i).map fun j:Nat=>AV.int j)) (tests:=cstB true) (elt:=flz (zbo 1 [0,1] (valI (zas zbh (zac (lcl 0) zaf))) (stE 0) (andB (notB (tru (bin zaq (bin zaq (lcl 2) (lcl 1)) (lcl 0)))) (andB (notB (tru (bin zaq (bin zaq (lcl 2) (lcl 0)) (lcl 1)))) (cstB true))) (lcl 0))) (frees:=[11]) (loc:=loc) (ite:=valI (zas zbh (zac (cst (.int 6)) zaf))) (hp:=hp) (List.range 6)
    (zb5 (zav (zai rfl rfl) rfl) (zbs (b:=6) (by lia))) (by simp) (fun i hi=>⟨rfl,fun _=>by
      have hi6:=List.mem_range.1 hi
      rw [zjg h11]
      have c2:=zd2 (fun j:Nat=>AV.int (j:Int)) (fun j=>!A i j && (!A j i && true)) (fun j=>AV.int (j:Int)) (tests:=andB (notB (tru (bin zaq (bin zaq (lcl 2) (lcl 1)) (lcl 0)))) (andB (notB (tru (bin zaq (bin zaq (lcl 2) (lcl 0)) (lcl 1)))) (cstB true))) (elt:=lcl 0) (frees:=[0,1]) (loc:=[some (.int (i:Int)),some (za3 A)]) (ite:=valI (zas zbh (zac (lcl 0) zaf))) (hp:=hp) (List.range i)
        (zb5 (zav (zai rfl rfl) rfl) (zbs (b:=i) (by lia))) (by simp; lia) (fun j hj=>by
          have hj6:=List.mem_range.1 hj
          exact ⟨zlg (zpy (zb2 (zga (i:=i) (k:=j) hi6 (by lia) rfl rfl rfl))) (zlg (zpy (zb2 (zga (i:=j) (k:=i) (by lia) hi6 rfl rfl rfl))) rfl),fun _=>rfl⟩)
      have e:(List.range i).filter (fun j=>!A i j && (!A j i && true)) = aptP (incP A) i:=by
        rw [aptP]
        refine List.filter_congr fun j _=>?_
        rw [incP,Bool.and_true]
      rw [e] at c2
      exact zbw c2⟩)
  rw [zcr] at c
  exact zaz (zbw c) (zf2 (by lia))
theorem zsb {X:List AV} (hX:X.length≤100) (hle:∀ k,k < 6→f k≤X.length) (hex:∃ k,k < 6∧f k = X.length) (hmm:mmP (incP A) 6 [5,4,3,2,1,0] + X.length = 6) (h16:loc[16]? = some (some (.fl X))) (h22:loc[22]? = some (some (zi8 f))) (h23:loc[23]? = some (some (zfj (incP A)))) :
    ∃ hp',retS (zu5 eqA eqA (zas ztw (zac (lcl 22) zaf)) (zas lenF (zac (lcl 16) zaf)) (bin subA (cst (.int 6)) (zas zcm (zac (lcl 23) zaf)))) loc hp = some (.rt (.bool true),loc,hp'):=by
  obtain ⟨hp',e1,e2⟩:=zmp (incP A) hp
  have hm:ztw [zi8 f] hp = some (.int (X.length:Nat),hp):=by
    have h1:maxI (((List.range 6).map f).map fun j:Nat=>(j:Int)) = some (X.length:Int):=by
      refine zzd _ (fun x hx=>?_) ?_
      · obtain ⟨y,hy,rfl⟩:=List.mem_map.1 hx
        obtain ⟨k,hk,rfl⟩:=List.mem_map.1 hy
        have:=hle k (List.mem_range.1 hk)
        lia
      · obtain ⟨k,k1,k2⟩:=hex
        exact List.mem_map.2 ⟨f k,List.mem_map.2 ⟨k,List.mem_range.2 k1,rfl⟩,by rw [k2]⟩
    rw [zn8]
    show (zma (((List.range 6).map f).map fun j:Nat=>AV.int j)).bind (fun ns=>(maxI ns).map fun m=>(AV.int m,hp)) = _
    rw [zl9]
    exact congrArg (Option.map fun m=>(AV.int m,hp)) h1
  have g1:zas ztw (zac (lcl 22) zaf) loc hp = some (.int (X.length:Nat),hp):=zav (zai (zbl h22) rfl) hm
  have g2:zas lenF (zac (lcl 16) zaf) loc hp = some (.int (X.length:Nat),hp):=zav (zai (zbl h16) rfl) (zho (by lia))
  have g3:bin subA (cst (.int 6)) (zas zcm (zac (lcl 23) zaf)) loc hp = some (.int (X.length:Nat),hp'):=by
    refine zam rfl (zav (zai (zbl h23) rfl) e1) ?_
    exact congrArg (fun z=>some (AV.int z,hp')) (show (6:Int) - (mmP (incP A) 6 [5,4,3,2,1,0]:Nat) = (X.length:Int) by lia)
  have q1:eqA (.int (X.length:Nat)) (.int (X.length:Nat)) hp = some (.bool true,hp):=by rw [zpa]; simp
  have q2:eqA (.int (X.length:Nat)) (.int (X.length:Nat)) hp' = some (.bool true,hp'):=by rw [zpa]; simp
  refine ⟨hp',zdp ?_⟩
  exact bE g1 (bE g2 (bE q1 (bE g3 q2)))
end
noncomputable abbrev vU (us:List Nat):AV:=.fl (us.map fun u:Nat=>AV.int u)
noncomputable abbrev vL (us:List Nat):AV:=.fl ((List.range 6).map fun k=>AV.str (ldU us k))
noncomputable abbrev vQ (ord:List Nat) (P:List (List Nat)):AV:=.fl (P.map (zaw ord))
noncomputable abbrev vS (us ord:List Nat) (P:List (List Nat)):AV:=.fl (zic (zg7 1 (P.flatMap (zbx ord (wdU us)))))
noncomputable abbrev vH (ord:List Nat) (P:List (List Nat)):AV:=zi8 fun k=>1 + zb0 P (ord.idxOf k)
noncomputable abbrev vA (us:List Nat):AV:=zfj (incP (relU us))
noncomputable abbrev no:Option AV:=none
noncomputable abbrev rF:MS:=seqS (retS (cst (.bool false))) nilS
theorem zea {s1 s2:MS} {loc loc1:Loc} {hp hp1:Hp} {v:AV} (h:s1 loc hp = some (.nx,loc1,hp1)) (h2:∃ loc' hp',s2 loc1 hp1 = some (.rt v,loc',hp')):∃ loc' hp',seqS s1 s2 loc hp = some (.rt v,loc',hp'):=by
  obtain ⟨loc',hp',e⟩:=h2
  exact ⟨loc',hp',zao h e⟩
theorem run_ex {np n:Nat} {args:List AV} {s:MS} {hp:Hp} {v:AV} (hl:args.length = np) (h:∃ loc' hp',s (args.map some++List.replicate (n - np) none) hp = some (.rt v,loc',hp')):∃ hp',runF np n s args hp = some (v,hp'):=by
  obtain ⟨loc',hp',e⟩:=h
  exact ⟨hp',zdv hl e⟩
structure Facts (us ord:List Nat) (P:List (List Nat)):Prop where
  hP:∀ h∈P,h≠[]∧h.length≤2∧∀ p∈h,p < 6
  hPl:P.length≤6
  pl:(zhl ord (wdU us) P).length≤5000
  T6:(P.flatMap (zbx ord (wdU us))).length = 6
  hT:∀ x∈P.flatMap (zbx ord (wdU us)),WordOk x.1∧x.2.1 = 0∧(x.2.2 = 10∨x.2.2 = 32)
  S10:(zg7 1 (P.flatMap (zbx ord (wdU us)))).length≤10
  perm:((zg7 1 (P.flatMap (zbx ord (wdU us)))).map (·.1)).Perm ((List.range 6).map (wdU us))
  hSw:∀ x∈zg7 1 (P.flatMap (zbx ord (wdU us))),Ok x.1
  hf:∀ k,k < 6→(((zg7 1 (P.flatMap (zbx ord (wdU us)))).filter fun x=>decide (x.1 = wdU us k)).map (·.2))[0]? = some (1 + zb0 P (ord.idxOf k))
  hcnt:∀ k,k < 6→((List.range 6).map fun k=>1 + zb0 P (ord.idxOf k)).count (1 + zb0 P (ord.idxOf k))≤2
  hup:∀ i j,i < 6→j < 6→relU us i j = true→1 + zb0 P (ord.idxOf i) < 1 + zb0 P (ord.idxOf j)
  cnt:(zhl ord (wdU us) P).count 10 = P.length
  hle:∀ k,k < 6→1 + zb0 P (ord.idxOf k)≤P.length
  hex:∃ k,k < 6∧1 + zb0 P (ord.idxOf k) = P.length
theorem zwx (us:List Nat) {ord:List Nat} {P:List (List Nat)} (h:Perm6 ord) (PO:PlanOk (relB (relU us) (oOf ord)) P):Facts us ord P:=by
  have W:=zng us
  have hflat:=zq7 6 P.flatten PO.all PO.len
  have h6:∀ z∈P,∀ p∈z,p < 6:=fun z hz p hp=>List.mem_range.1 (hflat.mem_iff.1 (List.mem_flatten.2 ⟨z,hz,hp⟩))
  have hne:∀ z∈P,z≠[]:=fun z hz e=>by have:=(PO.two z hz).2; rw [e] at this; simp at this
  have hPl:P.length≤6:=by have:=PO.mm; lia
  have hw8:∀ p,p < 6→(wdU us (oOf ord p)).length≤8:=fun p _=>zj1 us _
  have hT:∀ x∈P.flatMap (zbx ord (wdU us)),WordOk x.1∧x.2.1 = 0∧(x.2.2 = 10∨x.2.2 = 32):=fun x hx=>by
    obtain ⟨z,hz,hx⟩:=List.mem_flatMap.1 hx
    obtain ⟨p,hp,e1,e2,e3⟩:=zkw z x hx
    exact ⟨by rw [e1]; exact W.ok _ (h.o_lt (h6 z hz p hp)),e2,e3⟩
  have inj:∀ p q,p < 6→q < 6→wdU us (oOf ord p) = wdU us (oOf ord q)→p = q:=fun p q hp hq e=>h.o_inj hp hq (W.inj _ _ (h.o_lt hp) (h.o_lt hq) e)
  have hord:(List.range 6).map (oOf ord) = ord:=by
    conv=>rhs; rw [h.ord_eq]
    rfl
  refine ⟨fun z hz=>⟨hne z hz,(PO.two z hz).1,h6 z hz⟩,hPl,?_,?_,hT,?_,?_,fun x hx=>?_,fun k hk=>?_,fun k hk=>?_,fun i j hi hj hr=>?_,?_,fun k hk=>?_,?_⟩
  · have:=ztn hw8 P fun z hz=>⟨(PO.two z hz).1,h6 z hz⟩
    lia
  · rw [zqc,PO.len]
  · rw [znv,zqc,PO.len]; lia
  · rw [zkd,zqd]
    have e:P.flatten.map (fun p=>wdU us (oOf ord p)) = (P.flatten.map (oOf ord)).map (wdU us):=by rw [List.map_map]; rfl
    rw [e]
    refine List.Perm.map _ ?_
    have:=hflat.map (oOf ord)
    rw [hord] at this
    exact this.trans h.perm
  · have hx1:x.1∈(zg7 1 (P.flatMap (zbx ord (wdU us)))).map (·.1):=List.mem_map.2 ⟨x,hx,rfl⟩
    rw [zkd] at hx1
    obtain ⟨y,hy,e⟩:=List.mem_map.1 hx1
    rw [← e]
    exact fun c hc=>((hT y hy).1.c c hc).1
  · have:=zs1 inj (h.idx_lt hk) P 1 (fun z hz=>⟨hne z hz,h6 z hz⟩) (PO.all _ (h.idx_lt hk))
    rw [h.o_idx hk] at this
    exact this
  · have hp:=h.idx_lt hk
    have hperm:((List.range 6).map fun k=>1 + zb0 P (ord.idxOf k)).Perm ((List.range 6).map fun p=>1 + zb0 P p):=by
      have e:(List.range 6).map (fun p=>1 + zb0 P p) = ord.map fun k=>1 + zb0 P (ord.idxOf k):=by
        conv=>rhs; rw [← hord]
        rw [List.map_map]
        refine List.map_congr_left fun p hp=>?_
        simp only [Function.comp_apply]
        rw [hord,h.idx_o (List.mem_range.1 hp)]
      rw [e]
      exact (h.perm.map _).symm
    rw [hperm.count_eq,List.count_eq_countP,List.countP_map,List.countP_eq_length_filter]
    have:=PO.cnt _ hp
    refine Nat.le_trans (Nat.le_of_eq ?_) this
    congr 1
    refine List.filter_congr fun q _=>?_
    simp only [Function.comp_apply]
    rw [Bool.eq_iff_iff,beq_iff_eq,beq_iff_eq]
    lia
  · have e:relB (relU us) (oOf ord) (ord.idxOf i) (ord.idxOf j) = true:=by
      simp only [relB,h.idx_lt hi,h.idx_lt hj,decide_true,Bool.true_and,h.o_idx hi,h.o_idx hj]; exact hr
    have:=PO.up _ _ (h.idx_lt hi) (h.idx_lt hj) e
    lia
  · exact zrm (fun p hp c hc=>((W.ok _ (h.o_lt hp)).c c hc).2.1) P fun z hz=>⟨hne z hz,h6 z hz⟩
  · have:=PO.hl _ (h.idx_lt hk); lia
  · obtain ⟨p,p1,p2⟩:=PO.last
    exact ⟨oOf ord p,h.o_lt p1,by rw [h.idx_o p1]; lia⟩
theorem plain (ns:List Int) (hns:ns.length≤63):∃ hp',zxg [.fl (ns.map .int)] hp0 = some (.bool true,hp'):=by
  refine run_ex rfl ?_
  obtain ⟨us,hp1,s,hu,U1⟩:=zsa (loc:=[some (AV.fl (ns.map .int)),no,no,no,no,no,no,no,no,no,no,no,no,no,no,no,no,no,no,no,no,no,no,no]) (hp:=hp0) ns hns rfl rfl
  refine zea s ?_; clear s
  refine zea (zvt hu rfl rfl) ?_
  refine zea (zvp (us:=us) rfl rfl) ?_
  refine zea (zaz rfl rfl) ?_
  obtain ⟨x5,s⟩:=zyi (loc:=[some (AV.fl (ns.map .int)),some (vU us),some (vL us),some (za9 (wdU us)),some (AV.str []),no,no,no,no,no,no,no,no,no,no,no,no,no,no,no,no,no,no,no]) (hp:=hp1) hu rfl rfl rfl rfl none rfl
  refine zea s ?_; clear s
  obtain ⟨a1,m1,p1,hp2,s,L1,_⟩:=zqp (loc:=[some (AV.fl (ns.map .int)),some (vU us),some (vL us),some (za9 (wdU us)),some (AV.str (zdj us)),x5,no,no,no,no,no,no,no,no,no,no,no,no,no,no,no,no,no,no]) (hp:=hp1) (us:=us) rfl rfl
  refine zea s ?_; clear s
  obtain ⟨hp3,k3,line3,ld3,s,L3,d3,w3,c3,n3⟩:=zyh (loc:=[some (AV.fl (ns.map .int)),some (vU us),some (vL us),some (za9 (wdU us)),some (AV.str (zdj us)),x5,some (AV.loc m1),no,no,no,no,no,no,no,no,no,no,no,no,no,no,no,no,no]) rfl rfl L1
  refine zea s ?_; clear s L1
  obtain ⟨hp4,s,L4⟩:=zsk (loc:=[some (AV.fl (ns.map .int)),some (vU us),some (vL us),some (za9 (wdU us)),some (AV.str (zdj us)),x5,some (AV.loc m1),some (za9 (wdU us)),no,no,no,no,no,no,no,no,no,no,no,no,no,no,no,no]) rfl rfl rfl rfl L3 d3 w3 c3 n3 rF
  refine zea s ?_; clear s L3
  obtain ⟨hp5,s,U5⟩:=zvs (loc:=[some (AV.fl (ns.map .int)),some (vU us),some (vL us),some (za9 (wdU us)),some (AV.str (zdj us)),x5,some (AV.loc m1),some (za9 (wdU us)),no,no,no,no,no,no,no,no,no,no,no,no,no,no,no,no]) (hp:=hp4) (us:=us) rfl rfl
  have L5:=L4.upp U5
  refine zea s ?_; clear s L4
  refine zea (zvw (us:=us) rfl rfl) ?_
  obtain ⟨hp6,s,U6⟩:=zqq (loc:=[some (AV.fl (ns.map .int)),some (vU us),some (vL us),some (za9 (wdU us)),some (AV.str (zdj us)),x5,some (AV.loc m1),some (za9 (wdU us)),some (zep us),some (za3 (relU us)),no,no,no,no,no,no,no,no,no,no,no,no,no,no]) (hp:=hp5) (us:=us) rfl rfl
  have L6:=L5.upp U6
  refine zea s ?_; clear s L5
  refine zea (st_due (us:=us) rfl rfl) ?_
  refine zea (zsj (A:=relU us) rfl rfl rF) ?_
  have am:=L6.am; have mp:=L6.mp; have pn:=L6.pn
  refine zea (zaz (zfl (zc9 (xs:=[]) rfl (by simp))) rfl) ?_
  obtain ⟨x13,x14,s⟩:=zvr (loc:=[some (AV.fl (ns.map .int)),some (vU us),some (vL us),some (za9 (wdU us)),some (AV.str (zdj us)),x5,some (AV.loc m1),some (za9 (wdU us)),some (zep us),some (za3 (relU us)),some (zgo us),some (za3 (relU us)),some (AV.loc hp6.N),no,no,no,no,no,no,no,no,no,no,no]) (hp:=hp6.new (.list [])) (A:=relU us) rfl rfl rfl none none rfl rfl (zfr _ _)
  refine zea s ?_; clear s
  have L8:=((L6.new (.list [])).keep (hp':=(hp6.new (.list [])).put hp6.N (.list ((List.range 6).map fun i=>AV.fl ((nxs (covK (relU us)) i).map fun j:Nat=>AV.int j)))) (za1 _ _ (by lia)) (za1 _ _ (by lia)) (by rw [za1 _ _ (by lia),(L6.new (.list [])).hpb]) (Nat.le_refl _))
  have hN8:((hp6.new (.list [])).put hp6.N (.list ((List.range 6).map fun i=>AV.fl ((nxs (covK (relU us)) i).map fun j:Nat=>AV.int j)))).H hp6.N = _:=zcb _ _ _
  generalize (hp6.new (.list [])).put hp6.N (.list ((List.range 6).map fun i=>AV.fl ((nxs (covK (relU us)) i).map fun j:Nat=>AV.int j))) = hp8 at *
  refine zea (zhb rfl hN8) ?_
  have L9:=L8.keep (hp':=hp8.free hp6.N) (zb8 _ (by lia)) (zb8 _ (by lia)) (by rw [zb8 _ (by lia),L8.hpb]) (Nat.le_refl _)
  generalize hp8.free hp6.N = hp9 at *
  obtain ⟨ord,hp10,s,Lb,U10⟩:=zvq (loc:=[some (AV.fl (ns.map .int)),some (vU us),some (vL us),some (za9 (wdU us)),some (AV.str (zdj us)),x5,some (AV.loc m1),some (za9 (wdU us)),some (zep us),some (za3 (relU us)),some (zgo us),some (za3 (relU us)),some (zc7 (covK (relU us))),x13,x14,no,no,no,no,no,no,no,no,no]) (hp:=hp9) (zoq us) rfl rfl
  have L10:=L9.upp U10
  refine zea s ?_; clear s L9 L8
  have h:=zjh (zoq us) Lb
  have PO:=zla (zoi (zoq us) Lb).leaf
  have W:=zng us
  refine zea (zsi h rfl rF) ?_
  obtain ⟨hp11,s,L11⟩:=zyk (loc:=[some (AV.fl (ns.map .int)),some (vU us),some (vL us),some (za9 (wdU us)),some (AV.str (zdj us)),x5,some (AV.loc m1),some (za9 (wdU us)),some (zep us),some (za3 (relU us)),some (zgo us),some (za3 (relU us)),some (zc7 (covK (relU us))),x13,x14,some (zdr ord),no,no,no,no,no,no,no,no]) (A:=relU us) h W PO L10 rfl rfl rfl rfl rfl
  refine zea s ?_; clear s L10
  obtain ⟨hp12,s⟩:=zsh (loc:=[some (AV.fl (ns.map .int)),some (vU us),some (vL us),some (za9 (wdU us)),some (AV.str (zdj us)),x5,some (AV.loc m1),some (za9 (wdU us)),some (zep us),some (za3 (relU us)),some (zgo us),some (za3 (relU us)),some (zc7 (covK (relU us))),x13,x14,some (zdr ord),some (vQ ord (zc2 (relB (relU us) (oOf ord)) 7 [])),no,no,no,no,no,no,no]) (A:=relU us) h PO L11 rfl rfl rfl rfl rF
  refine zea s ?_; clear s L11
  refine zea (zaz rfl rfl) ?_
  have F:=zwx us h PO
  have hmm0:mmP (incP (relU us)) 6 [5,4,3,2,1,0] + (zc2 (relB (relU us) (oOf ord)) 7 []).length = 6:=by rw [zzb h]; exact PO.mm
  clear PO Lb
  generalize zc2 (relB (relU us) (oOf ord)) 7 [] = P at *
  obtain ⟨x18,s⟩:=zyl (loc:=[some (AV.fl (ns.map .int)),some (vU us),some (vL us),some (za9 (wdU us)),some (AV.str (zdj us)),x5,some (AV.loc m1),some (za9 (wdU us)),some (zep us),some (za3 (relU us)),some (zgo us),some (za3 (relU us)),some (zc7 (covK (relU us))),x13,x14,some (zdr ord),some (vQ ord P),some (AV.str []),no,no,no,no,no,no]) (hp:=hp12) rfl rfl (fun p hp=>h.o_lt hp) (fun p _=>zj1 us _) P F.hP F.hPl rfl rfl none rfl
  refine zea s ?_; clear s
  obtain ⟨a2,m2,p2,hp13,s,L13⟩:=zsc (loc:=[some (AV.fl (ns.map .int)),some (vU us),some (vL us),some (za9 (wdU us)),some (AV.str (zdj us)),x5,some (AV.loc m1),some (za9 (wdU us)),some (zep us),some (za3 (relU us)),some (zgo us),some (za3 (relU us)),some (zc7 (covK (relU us))),x13,x14,some (zdr ord),some (vQ ord P),some (AV.str (zhl ord (wdU us) P)),x18,no,no,no,no,no]) (hp:=hp12) rfl rfl F.pl
  refine zea s ?_; clear s
  have am2:=L13.am; have mp2:=L13.mp; have pn2:=L13.pn
  refine zea (zaz (zfl (zc9 (xs:=[]) rfl (by simp))) rfl) ?_
  obtain ⟨y5,x21,hp15,k15,line15,ld15,s,H15,L15,d15,w15,c15,n15⟩:=zyj (loc:=[some (AV.fl (ns.map .int)),some (vU us),some (vL us),some (za9 (wdU us)),some (AV.str (zdj us)),x5,some (AV.loc m1),some (za9 (wdU us)),some (zep us),some (za3 (relU us)),some (zgo us),some (za3 (relU us)),some (zc7 (covK (relU us))),x13,x14,some (zdr ord),some (vQ ord P),some (AV.str (zhl ord (wdU us) P)),x18,some (AV.loc m2),some (AV.loc hp13.N),no,no,no]) (hp:=hp13.new (.list [])) (T:=P.flatMap (zbx ord (wdU us))) F.T6 F.hT rfl rfl rfl pn2 (Nat.lt_succ_self _) (L13.new _) (zfr _ _) x5 none rfl rfl
  refine zea s ?_; clear s L13
  refine zea (zhb rfl H15) ?_
  have L16:=L15.keep (hp':=hp15.free hp13.N) (zb8 _ (by lia)) (zb8 _ (by lia)) (by rw [zb8 _ (by lia),L15.hpb]) (Nat.le_refl _)
  generalize hp15.free hp13.N = hp16 at *
  refine zea (zsg W F.S10 F.perm rfl rfl rF) ?_
  refine zea (zvu (f:=fun k=>1 + zb0 P (ord.idxOf k)) W F.S10 F.hSw F.hf rfl rfl rfl) ?_
  refine zea (zsf (f:=fun k=>1 + zb0 P (ord.idxOf k)) F.hcnt rfl rF) ?_
  refine zea (zse (A:=relU us) (f:=fun k=>1 + zb0 P (ord.idxOf k)) F.hup rfl rfl rF) ?_
  obtain ⟨hp17,s⟩:=zsd (loc:=[some (AV.fl (ns.map .int)),some (vU us),some (vL us),some (za9 (wdU us)),some (AV.str (zdj us)),y5,some (AV.loc m1),some (za9 (wdU us)),some (zep us),some (za3 (relU us)),some (zgo us),some (za3 (relU us)),some (zc7 (covK (relU us))),x13,x14,some (zdr ord),some (vQ ord P),some (AV.str (zhl ord (wdU us) P)),x18,some (AV.loc m2),some (vS us ord P),x21,some (vH ord P),no]) (X:=P.map (zaw ord)) L16 d15 w15 c15 (by rw [List.length_map]; have:=F.hPl; lia) (by rw [List.length_map]; exact n15.trans (by have:=F.cnt; simp only [zhl] at this; lia)) rfl rfl rF
  refine zea s ?_; clear s
  refine zea (zvv (A:=relU us) rfl rfl) ?_
  obtain ⟨hp18,s⟩:=zsb (loc:=[some (AV.fl (ns.map .int)),some (vU us),some (vL us),some (za9 (wdU us)),some (AV.str (zdj us)),y5,some (AV.loc m1),some (za9 (wdU us)),some (zep us),some (za3 (relU us)),some (zgo us),some (za3 (relU us)),some (zc7 (covK (relU us))),x13,x14,some (zdr ord),some (vQ ord P),some (AV.str (zhl ord (wdU us) P)),x18,some (AV.loc m2),some (vS us ord P),x21,some (vH ord P),some (vA us)]) (hp:=hp17) (A:=relU us) (f:=fun k=>1 + zb0 P (ord.idxOf k)) (X:=P.map (zaw ord)) (by rw [List.length_map]; have:=F.hPl; lia) (by intro k hk; rw [List.length_map]; exact F.hle k hk) (by obtain ⟨k,k1,k2⟩:=F.hex; exact ⟨k,k1,by rw [List.length_map]; exact k2⟩) (by rw [List.length_map]; exact hmm0) rfl rfl rfl
  exact ⟨_,_,zb6 s⟩
end Mine
end
section
open PySem PySem.W PyProof.Rows
namespace Mine
theorem zth (as ds:List WData):PySem.Challenge.rw_pg0248_01.row.claim.post as (WData.bool true) ds = true:=by
  kernel_rfl
theorem zwm:OpenLaw.wellSaid PySem.Challenge.rw_pg0248_01 = true:=by kernel_rfl
theorem holds_of (plain:∀ ns:List Int,ns.length≤63→∃ hp',zxg [.fl (ns.map .int)] hp0 = some (.bool true,hp')):PySem.Challenge.rw_pg0248_01.Holds:=by
  refine holds_law zwm fun said=>?_
  refine holds_open (q:=qv) (loose:=[Str.ofString "Whitespace"]) (Xt:=fun s=>xlAt qv [] s && recOk (RowW.records PySem.Challenge.rw_pg0248_01.row.toRowW) s) (XP:=XL qv []) (Yf:=Hk.obs) (Ya:=Hk.val) (YP:=Hk.says) (N:=2848) left0 Hk.of Hk.keeps (fun s e=>xl_of s (Bool.and_eq_true_iff.mp e).1) XL.keeps (by rfl) (by rfl) (by rfl) (fun s e=>recFacts_of (Bool.and_eq_true_iff.mp e).2) (by rfl) said (by decide +kernel) ⟨rfl,rfl,rfl,rfl,rfl,by decide +kernel⟩ ?hw ?hc
  case hw=>w_witness2
  intro w s₀ s₁ mg mb G Y fa o pm cd doc dV kV ho hd hcd hD hmg hg args vals as hpre hlay hrd hwl hlo
  have KX:=km_in_of Y
  have hT8:=km_tabs_of Y
  refine Ground.open G ?_
  intro T B D TE TW
  have hT9:TabsAt ([(170,166)]:List (Addr × Addr)) s₁.heap:=List.forall_mem_cons.mpr ⟨⟨codeHd_of_K (c:=170) (P:=166) KX (by kernel_rfl),hT8 166 (.head _)⟩,fun _ h=>nomatch h⟩
  have hfa:fa = 229:=by
    have:=mg_of KX T.g (n:="law") (v:=.ref 229) (by rfl)
    rw [show mg _ = _ from hmg] at this
    cases (this); rfl
  subst hfa
  clear ho hd hcd hD B D TE TW
  wrow_args hpre hlay hrd hwl hlo
  rename_i ns hs hlay0 hLl hr1 hl2 as4 as3 a ws as0 hL ra w1 r0 hI hr hc1 hc2
  obtain ⟨hp',e⟩:=plain ns (by lia)
  have ha:s₁.heap.get? a = some (listOf ws.toArray 0):=by
    obtain ⟨ob,e1,e2,n,e3⟩:=hL
    cases w1 with
    | list e4 r =>
      rw [e4] at e1; replace e1:=Option.some.inj e1; subst e1; cases (e3)
      exact e4
  refine wpAny_mono (zyp hT9 KX T hg ha hI e) (fun v s' h=>?_) fun _ _ h=>h.elim
  obtain ⟨h1,h2,h3,h4,h5,h6⟩:=h
  subst h1
  refine ⟨.inl ⟨.bool true,.bool true,[],rfl,fun _=>rfl,.bool true,?_,?_⟩,⟨fun b o e=>?_,h3⟩,h4,?_⟩
  · exact zth _ _
  · exact fun _=>⟨List.nodup_nil,fun _ h=>nomatch h⟩
  · by_cases hb:b = 166
    · subst hb
      obtain ⟨hc,ht⟩:=hT9 _ (.head _)
      obtain ⟨ps,hps⟩:=h6
      obtain ⟨oc,vs,file,tf,flags,tg,inF,text,tt,e1,r1,r2,r3,r⟩:=hc
      rw [show s₁.heap.get? 166 = _ from ht] at e
      replace e:=Option.some.inj e; subst e
      exact .inr (.inl ⟨⟨_,oc,vs,e1,r1,r2,r3⟩,rfl,#[],ps,rfl,by rw [hps]; simp [tabObj]⟩)
    · exact .inl (h2 b o e hb)
  · exact .of_eq (by first | exact h5 | exact h5.trans hg.symm)
end Mine
end
set_option maxRecDepth 100000 in
theorem PySem.Challenge.cw_pg0248_01_holds : PySem.Challenge.rw_pg0248_01.Holds :=
  Mine.holds_of Mine.plain
