import PyProof.Rows.All
import PyProof.SumAny
import Wide.FinOn
import OpenK.AllK
import Wide.All
import PySem.Challenge.RW_xl0024_01
set_option Elab.async false
set_option rowWalk.seconds 0
set_option compiler.extract_closed false
section
open PySem PySem.W PyProof.Rows
set_option maxRecDepth 100000
namespace Mine
structure FD (s : Option Stmt) where
  nm : Str
  a : Arguments
  b : List Stmt
  dl : List Expr
  rt : Option Expr
  tp : List TypeParam
  sc : Scope
  ts : Option Scope
  bd : Str
  ps : Pos
  e : s = some (.FunctionDef nm a b dl rt tp sc ts bd ps)
noncomputable def topAt (i : Nat) : Option Stmt := PySem.Challenge.pw_xl0024_01.main.body[i]?
noncomputable def metAt (j : Nat) : Option Stmt := match topAt 6 with
  | some (.ClassDef _ _ _ b _ _ _ _ _ _ _) => b[j]?
  | _ => none
set_option maxHeartbeats 4000000 in
@[reducible] noncomputable def f38 : FD (topAt 1) := ⟨_, _, _, _, _, _, _, _, _, _, rfl⟩
set_option maxHeartbeats 4000000 in
@[reducible] noncomputable def f45 : FD (topAt 3) := ⟨_, _, _, _, _, _, _, _, _, _, rfl⟩
set_option maxHeartbeats 4000000 in
@[reducible] noncomputable def f62 : FD (metAt 0) := ⟨_, _, _, _, _, _, _, _, _, _, rfl⟩
set_option maxHeartbeats 4000000 in
@[reducible] noncomputable def f69 : FD (metAt 1) := ⟨_, _, _, _, _, _, _, _, _, _, rfl⟩
set_option maxHeartbeats 4000000 in
@[reducible] noncomputable def f77 : FD (metAt 2) := ⟨_, _, _, _, _, _, _, _, _, _, rfl⟩
set_option maxHeartbeats 4000000 in
@[reducible] noncomputable def f85 : FD (metAt 3) := ⟨_, _, _, _, _, _, _, _, _, _, rfl⟩
set_option maxHeartbeats 4000000 in
@[reducible] noncomputable def f92 : FD (metAt 4) := ⟨_, _, _, _, _, _, _, _, _, _, rfl⟩
set_option maxHeartbeats 4000000 in
@[reducible] noncomputable def f99 : FD (metAt 5) := ⟨_, _, _, _, _, _, _, _, _, _, rfl⟩
set_option maxHeartbeats 4000000 in
@[reducible] noncomputable def f107 : FD (metAt 6) := ⟨_, _, _, _, _, _, _, _, _, _, rfl⟩
set_option maxHeartbeats 4000000 in
@[reducible] noncomputable def f114 : FD (metAt 7) := ⟨_, _, _, _, _, _, _, _, _, _, rfl⟩
set_option maxHeartbeats 4000000 in
@[reducible] noncomputable def f122 : FD (metAt 8) := ⟨_, _, _, _, _, _, _, _, _, _, rfl⟩
set_option maxHeartbeats 4000000 in
@[reducible] noncomputable def f141 : FD (topAt 9) := ⟨_, _, _, _, _, _, _, _, _, _, rfl⟩
set_option maxHeartbeats 4000000 in
@[reducible] noncomputable def f148 : FD (topAt 10) := ⟨_, _, _, _, _, _, _, _, _, _, rfl⟩
set_option maxHeartbeats 4000000 in
@[reducible] noncomputable def f155 : FD (topAt 11) := ⟨_, _, _, _, _, _, _, _, _, _, rfl⟩
set_option maxHeartbeats 4000000 in
@[reducible] noncomputable def f162 : FD (topAt 12) := ⟨_, _, _, _, _, _, _, _, _, _, rfl⟩
set_option maxHeartbeats 4000000 in
@[reducible] noncomputable def f169 : FD (topAt 13) := ⟨_, _, _, _, _, _, _, _, _, _, rfl⟩
set_option maxHeartbeats 4000000 in
@[reducible] noncomputable def f179 : FD (topAt 66) := ⟨_, _, _, _, _, _, _, _, _, _, rfl⟩
set_option maxHeartbeats 4000000 in
@[reducible] noncomputable def f186 : FD (topAt 67) := ⟨_, _, _, _, _, _, _, _, _, _, rfl⟩
set_option maxHeartbeats 4000000 in
@[reducible] noncomputable def f191 : FD (topAt 69) := ⟨_, _, _, _, _, _, _, _, _, _, rfl⟩
set_option maxHeartbeats 4000000 in
@[reducible] noncomputable def f198 : FD (topAt 70) := ⟨_, _, _, _, _, _, _, _, _, _, rfl⟩
set_option maxHeartbeats 4000000 in
@[reducible] noncomputable def f205 : FD (topAt 71) := ⟨_, _, _, _, _, _, _, _, _, _, rfl⟩
set_option maxHeartbeats 4000000 in
@[reducible] noncomputable def f212 : FD (topAt 72) := ⟨_, _, _, _, _, _, _, _, _, _, rfl⟩
set_option maxHeartbeats 4000000 in
@[reducible] noncomputable def f217 : FD (topAt 73) := ⟨_, _, _, _, _, _, _, _, _, _, rfl⟩
set_option maxHeartbeats 4000000 in
@[reducible] noncomputable def f222 : FD (topAt 74) := ⟨_, _, _, _, _, _, _, _, _, _, rfl⟩
set_option maxHeartbeats 4000000 in
@[reducible] noncomputable def f227 : FD (topAt 75) := ⟨_, _, _, _, _, _, _, _, _, _, rfl⟩
set_option maxHeartbeats 4000000 in
@[reducible] noncomputable def f232 : FD (topAt 76) := ⟨_, _, _, _, _, _, _, _, _, _, rfl⟩
noncomputable def o2 : Params → Obj := fun (P : Params) => Obj.mk Value.none Option.none (Data.dict #[DictEntry.mk (PyData.keyHash P (Str.ofString "\x69mport.loaded._sre")) (Value.str (Str.ofString "\x69mport.loaded._sre") 183) (Value.bool Bool.true), DictEntry.mk (PyData.keyHash P (Str.ofString "class._frozen_importlib.BuiltinImporter")) (Value.str (Str.ofString "class._frozen_importlib.BuiltinImporter") 185) (Value.ref 14), DictEntry.mk (PyData.keyHash P (Str.ofString "watched.\x69mport")) (Value.str (Str.ofString "watched.\x69mport") 206) (Value.ref 18), DictEntry.mk (PyData.keyHash P (Str.ofString "class._frozen_importlib.ModuleSpec")) (Value.str (Str.ofString "class._frozen_importlib.ModuleSpec") 216) (Value.ref 22), DictEntry.mk (PyData.keyHash P (Str.ofString "sys.modules.booked-epoch")) (Value.str (Str.ofString "sys.modules.booked-epoch") 245) (Value.int 3 0), DictEntry.mk (PyData.keyHash P (Str.ofString "\x69mport.later-laid._sre")) (Value.str (Str.ofString "\x69mport.later-laid._sre") 270) (Value.bool Bool.true), DictEntry.mk (PyData.keyHash P (Str.ofString "watched.library")) (Value.str (Str.ofString "watched.library") 272) (Value.ref 27), DictEntry.mk (PyData.keyHash P (Str.ofString "watched.library-objects")) (Value.str (Str.ofString "watched.library-objects") 0) (Value.str (Str.ofString "\x0c") 0), DictEntry.mk (PyData.keyHash P (Str.ofString "watched.library-deep._sre")) (Value.str (Str.ofString "watched.library-deep._sre") 273) (Value.str (Str.ofString "\x04\x00\x00\x0b\x04\x00\x00\x0b\x04\x00\x00\x03\x04\x00\x00\x0b\x08\x04dict\x02") 0)] 9) #[]
noncomputable def o3 : Params → Obj := fun (P : Params) => Obj.mk (Value.type "dict") Option.none (Data.dict #[DictEntry.mk (PyData.keyHash P (Str.ofString "__name__")) (Value.str (Str.ofString "__name__") 165) (Value.str (Str.ofString "law_xl0024_01") 687), DictEntry.mk (PyData.keyHash P (Str.ofString "__doc__")) (Value.str (Str.ofString "__doc__") 166) Value.none, DictEntry.mk (PyData.keyHash P (Str.ofString "__package__")) (Value.str (Str.ofString "__package__") 167) Value.none, DictEntry.mk (PyData.keyHash P (Str.ofString "__loader__")) (Value.str (Str.ofString "__loader__") 168) (Value.builtin "__main__.__loader__#opaque"), DictEntry.mk (PyData.keyHash P (Str.ofString "__spec__")) (Value.str (Str.ofString "__spec__") 169) Value.none, DictEntry.mk (PyData.keyHash P (Str.ofString "__annotations__")) (Value.str (Str.ofString "__annotations__") 170) (Value.ref 6), DictEntry.mk (PyData.keyHash P (Str.ofString "__builtins__")) (Value.str (Str.ofString "__builtins__") 171) (Value.ref 4), DictEntry.mk (PyData.keyHash P (Str.ofString "__file__")) (Value.str (Str.ofString "__file__") 173) (Value.str (Str.ofString "/claim/cut.py") 172), DictEntry.mk (PyData.keyHash P (Str.ofString "__cached__")) (Value.str (Str.ofString "__cached__") 174) Value.none, DictEntry.mk (PyData.keyHash P (Str.ofString "_sre")) (Value.str (Str.ofString "_sre") 275) (Value.ref 12), DictEntry.mk (PyData.keyHash P (Str.ofString "_wall")) (Value.str (Str.ofString "_wall") 288) (Value.ref 38), DictEntry.mk (PyData.keyHash P (Str.ofString "_strip_exception_details")) (Value.str (Str.ofString "_strip_exception_details") 300) (Value.ref 45), DictEntry.mk (PyData.keyHash P (Str.ofString "EMPTYSTRING")) (Value.str (Str.ofString "EMPTYSTRING") 304) (Value.str (Str.ofString "") 303), DictEntry.mk (PyData.keyHash P (Str.ofString "_Accumulator")) (Value.str (Str.ofString "_Accumulator") 400) (Value.ref 125), DictEntry.mk (PyData.keyHash P (Str.ofString "IPV4_RE")) (Value.str (Str.ofString "IPV4_RE") 432) (Value.ref 134), DictEntry.mk (PyData.keyHash P (Str.ofString "is_HDN")) (Value.str (Str.ofString "is_HDN") 439) (Value.ref 141), DictEntry.mk (PyData.keyHash P (Str.ofString "domain_match")) (Value.str (Str.ofString "domain_match") 448) (Value.ref 148), DictEntry.mk (PyData.keyHash P (Str.ofString "liberal_is_HDN")) (Value.str (Str.ofString "liberal_is_HDN") 455) (Value.ref 155), DictEntry.mk (PyData.keyHash P (Str.ofString "user_domain_match")) (Value.str (Str.ofString "user_domain_match") 464) (Value.ref 162), DictEntry.mk (PyData.keyHash P (Str.ofString "reach")) (Value.str (Str.ofString "reach") 473) (Value.ref 169), DictEntry.mk (PyData.keyHash P (Str.ofString "ENDMARKER")) (Value.str (Str.ofString "ENDMARKER") 477) (Value.int 0 476), DictEntry.mk (PyData.keyHash P (Str.ofString "LPAR")) (Value.str (Str.ofString "LPAR") 479) (Value.int 7 478), DictEntry.mk (PyData.keyHash P (Str.ofString "RPAR")) (Value.str (Str.ofString "RPAR") 481) (Value.int 8 480), DictEntry.mk (PyData.keyHash P (Str.ofString "LSQB")) (Value.str (Str.ofString "LSQB") 483) (Value.int 9 482), DictEntry.mk (PyData.keyHash P (Str.ofString "RSQB")) (Value.str (Str.ofString "RSQB") 485) (Value.int 10 484), DictEntry.mk (PyData.keyHash P (Str.ofString "COLON")) (Value.str (Str.ofString "COLON") 487) (Value.int 11 486), DictEntry.mk (PyData.keyHash P (Str.ofString "COMMA")) (Value.str (Str.ofString "COMMA") 489) (Value.int 12 488), DictEntry.mk (PyData.keyHash P (Str.ofString "SEMI")) (Value.str (Str.ofString "SEMI") 491) (Value.int 13 490), DictEntry.mk (PyData.keyHash P (Str.ofString "PLUS")) (Value.str (Str.ofString "PLUS") 493) (Value.int 14 492), DictEntry.mk (PyData.keyHash P (Str.ofString "MINUS")) (Value.str (Str.ofString "MINUS") 495) (Value.int 15 494), DictEntry.mk (PyData.keyHash P (Str.ofString "STAR")) (Value.str (Str.ofString "STAR") 497) (Value.int 16 496), DictEntry.mk (PyData.keyHash P (Str.ofString "SLASH")) (Value.str (Str.ofString "SLASH") 499) (Value.int 17 498), DictEntry.mk (PyData.keyHash P (Str.ofString "VBAR")) (Value.str (Str.ofString "VBAR") 501) (Value.int 18 500), DictEntry.mk (PyData.keyHash P (Str.ofString "AMPER")) (Value.str (Str.ofString "AMPER") 503) (Value.int 19 502), DictEntry.mk (PyData.keyHash P (Str.ofString "LESS")) (Value.str (Str.ofString "LESS") 505) (Value.int 20 504), DictEntry.mk (PyData.keyHash P (Str.ofString "GREATER")) (Value.str (Str.ofString "GREATER") 507) (Value.int 21 506), DictEntry.mk (PyData.keyHash P (Str.ofString "EQUAL")) (Value.str (Str.ofString "EQUAL") 509) (Value.int 22 508), DictEntry.mk (PyData.keyHash P (Str.ofString "DOT")) (Value.str (Str.ofString "DOT") 511) (Value.int 23 510), DictEntry.mk (PyData.keyHash P (Str.ofString "PERCENT")) (Value.str (Str.ofString "PERCENT") 513) (Value.int 24 512), DictEntry.mk (PyData.keyHash P (Str.ofString "LBRACE")) (Value.str (Str.ofString "LBRACE") 515) (Value.int 25 514), DictEntry.mk (PyData.keyHash P (Str.ofString "RBRACE")) (Value.str (Str.ofString "RBRACE") 517) (Value.int 26 516), DictEntry.mk (PyData.keyHash P (Str.ofString "EQEQUAL")) (Value.str (Str.ofString "EQEQUAL") 519) (Value.int 27 518), DictEntry.mk (PyData.keyHash P (Str.ofString "NOTEQUAL")) (Value.str (Str.ofString "NOTEQUAL") 521) (Value.int 28 520), DictEntry.mk (PyData.keyHash P (Str.ofString "LESSEQUAL")) (Value.str (Str.ofString "LESSEQUAL") 523) (Value.int 29 522), DictEntry.mk (PyData.keyHash P (Str.ofString "GREATEREQUAL")) (Value.str (Str.ofString "GREATEREQUAL") 525) (Value.int 30 524), DictEntry.mk (PyData.keyHash P (Str.ofString "TILDE")) (Value.str (Str.ofString "TILDE") 527) (Value.int 31 526), DictEntry.mk (PyData.keyHash P (Str.ofString "CIRCUMFLEX")) (Value.str (Str.ofString "CIRCUMFLEX") 529) (Value.int 32 528), DictEntry.mk (PyData.keyHash P (Str.ofString "LEFTSHIFT")) (Value.str (Str.ofString "LEFTSHIFT") 531) (Value.int 33 530), DictEntry.mk (PyData.keyHash P (Str.ofString "RIGHTSHIFT")) (Value.str (Str.ofString "RIGHTSHIFT") 533) (Value.int 34 532), DictEntry.mk (PyData.keyHash P (Str.ofString "DOUBLESTAR")) (Value.str (Str.ofString "DOUBLESTAR") 535) (Value.int 35 534), DictEntry.mk (PyData.keyHash P (Str.ofString "PLUSEQUAL")) (Value.str (Str.ofString "PLUSEQUAL") 537) (Value.int 36 536), DictEntry.mk (PyData.keyHash P (Str.ofString "MINEQUAL")) (Value.str (Str.ofString "MINEQUAL") 539) (Value.int 37 538), DictEntry.mk (PyData.keyHash P (Str.ofString "STAREQUAL")) (Value.str (Str.ofString "STAREQUAL") 541) (Value.int 38 540), DictEntry.mk (PyData.keyHash P (Str.ofString "SLASHEQUAL")) (Value.str (Str.ofString "SLASHEQUAL") 543) (Value.int 39 542), DictEntry.mk (PyData.keyHash P (Str.ofString "PERCENTEQUAL")) (Value.str (Str.ofString "PERCENTEQUAL") 545) (Value.int 40 544), DictEntry.mk (PyData.keyHash P (Str.ofString "AMPEREQUAL")) (Value.str (Str.ofString "AMPEREQUAL") 547) (Value.int 41 546), DictEntry.mk (PyData.keyHash P (Str.ofString "VBAREQUAL")) (Value.str (Str.ofString "VBAREQUAL") 549) (Value.int 42 548), DictEntry.mk (PyData.keyHash P (Str.ofString "CIRCUMFLEXEQUAL")) (Value.str (Str.ofString "CIRCUMFLEXEQUAL") 551) (Value.int 43 550), DictEntry.mk (PyData.keyHash P (Str.ofString "LEFTSHIFTEQUAL")) (Value.str (Str.ofString "LEFTSHIFTEQUAL") 553) (Value.int 44 552), DictEntry.mk (PyData.keyHash P (Str.ofString "RIGHTSHIFTEQUAL")) (Value.str (Str.ofString "RIGHTSHIFTEQUAL") 555) (Value.int 45 554), DictEntry.mk (PyData.keyHash P (Str.ofString "DOUBLESTAREQUAL")) (Value.str (Str.ofString "DOUBLESTAREQUAL") 557) (Value.int 46 556), DictEntry.mk (PyData.keyHash P (Str.ofString "DOUBLESLASH")) (Value.str (Str.ofString "DOUBLESLASH") 559) (Value.int 47 558), DictEntry.mk (PyData.keyHash P (Str.ofString "DOUBLESLASHEQUAL")) (Value.str (Str.ofString "DOUBLESLASHEQUAL") 561) (Value.int 48 560), DictEntry.mk (PyData.keyHash P (Str.ofString "AT")) (Value.str (Str.ofString "AT") 563) (Value.int 49 562), DictEntry.mk (PyData.keyHash P (Str.ofString "ATEQUAL")) (Value.str (Str.ofString "ATEQUAL") 565) (Value.int 50 564), DictEntry.mk (PyData.keyHash P (Str.ofString "RARROW")) (Value.str (Str.ofString "RARROW") 567) (Value.int 51 566), DictEntry.mk (PyData.keyHash P (Str.ofString "ELLIPSIS")) (Value.str (Str.ofString "ELLIPSIS") 569) (Value.int 52 568), DictEntry.mk (PyData.keyHash P (Str.ofString "COLONEQUAL")) (Value.str (Str.ofString "COLONEQUAL") 571) (Value.int 53 570), DictEntry.mk (PyData.keyHash P (Str.ofString "EXCLAMATION")) (Value.str (Str.ofString "EXCLAMATION") 573) (Value.int 54 572), DictEntry.mk (PyData.keyHash P (Str.ofString "NT_OFFSET")) (Value.str (Str.ofString "NT_OFFSET") 575) (Value.int 256 574), DictEntry.mk (PyData.keyHash P (Str.ofString "EXACT_TOKEN_TYPES")) (Value.str (Str.ofString "EXACT_TOKEN_TYPES") 672) (Value.ref 170), DictEntry.mk (PyData.keyHash P (Str.ofString "ISNONTERMINAL")) (Value.str (Str.ofString "ISNONTERMINAL") 679) (Value.ref 179), DictEntry.mk (PyData.keyHash P (Str.ofString "ISEOF")) (Value.str (Str.ofString "ISEOF") 686) (Value.ref 186), DictEntry.mk (PyData.keyHash P (Str.ofString "_law_leads")) (Value.str (Str.ofString "_law_leads") 694) (Value.ref 191), DictEntry.mk (PyData.keyHash P (Str.ofString "_law_rings")) (Value.str (Str.ofString "_law_rings") 705) (Value.ref 198), DictEntry.mk (PyData.keyHash P (Str.ofString "_law_read")) (Value.str (Str.ofString "_law_read") 716) (Value.ref 205), DictEntry.mk (PyData.keyHash P (Str.ofString "_law_beside")) (Value.str (Str.ofString "_law_beside") 727) (Value.ref 212), DictEntry.mk (PyData.keyHash P (Str.ofString "_law_names")) (Value.str (Str.ofString "_law_names") 733) (Value.ref 217), DictEntry.mk (PyData.keyHash P (Str.ofString "_law_bare")) (Value.str (Str.ofString "_law_bare") 739) (Value.ref 222), DictEntry.mk (PyData.keyHash P (Str.ofString "_law_exchange")) (Value.str (Str.ofString "_law_exchange") 745) (Value.ref 227), DictEntry.mk (PyData.keyHash P (Str.ofString "law")) (Value.str (Str.ofString "law") 751) (Value.ref 232)] 81) #[]
noncomputable def o32 : Params → Obj := fun (P : Params) => Obj.mk (Value.type "tuple") Option.none (Data.seq #[]) #[]
noncomputable def o34 : Params → Obj := fun (P : Params) => Obj.mk (Value.type "tuple") Option.none (Data.seq #[Value.str (Str.ofString "k") 285]) #[]
noncomputable def o35 : Params → Obj := fun (P : Params) => Obj.mk (Value.type "tuple") Option.none (Data.seq #[]) #[]
noncomputable def o37 : Params → Obj := fun (P : Params) => Obj.mk (Value.type "code") Option.none (Data.fields #[Value.str (Str.ofString "_wall") 282, Value.str (Str.ofString "_wall") 283, Value.str (Str.ofString "/claim/cut.py") 284, Value.int 2 0, Value.int 1 0, Value.int 0 0, Value.int 0 0, Value.int 3 0, Value.ref 32, Value.bool Bool.true, Value.int 276 0, Value.ref 33, Value.none, Value.ref 34, Value.ref 35, Value.ref 36, Value.int 286 0, Value.int 2 0, Value.str (Str.ofString "/claim/cut.py") 287]) #[]
noncomputable def o38 : Params → Obj := fun (P : Params) => Obj.mk (Value.type "function") Option.none (Data.func (FuncData.mk (Str.ofString "_wall") (Str.ofString "_wall") f38.a (FuncBody.stmts f38.b) f38.sc 3 [] Value.none Value.none Value.none (Value.str (Str.ofString "__main__") 164) Option.none (Value.ref 37) Value.none 0)) #[]
noncomputable def o39 : Params → Obj := fun (P : Params) => Obj.mk (Value.type "tuple") Option.none (Data.seq #[]) #[]
noncomputable def o41 : Params → Obj := fun (P : Params) => Obj.mk (Value.type "tuple") Option.none (Data.seq #[Value.str (Str.ofString "msg") 294, Value.str (Str.ofString "start") 295, Value.str (Str.ofString "end") 296, Value.str (Str.ofString "i") 297]) #[]
noncomputable def o42 : Params → Obj := fun (P : Params) => Obj.mk (Value.type "tuple") Option.none (Data.seq #[]) #[]
noncomputable def o44 : Params → Obj := fun (P : Params) => Obj.mk (Value.type "code") Option.none (Data.fields #[Value.str (Str.ofString "_strip_exception_details") 291, Value.str (Str.ofString "_strip_exception_details") 292, Value.str (Str.ofString "/claim/cut.py") 293, Value.int 6 0, Value.int 1 0, Value.int 0 0, Value.int 0 0, Value.int 3 0, Value.ref 39, Value.bool Bool.true, Value.int 276 0, Value.ref 40, Value.none, Value.ref 41, Value.ref 42, Value.ref 43, Value.int 298 0, Value.int 6 0, Value.str (Str.ofString "/claim/cut.py") 299]) #[]
noncomputable def o45 : Params → Obj := fun (P : Params) => Obj.mk (Value.type "function") Option.none (Data.func (FuncData.mk (Str.ofString "_strip_exception_details") (Str.ofString "_strip_exception_details") f45.a (FuncBody.stmts f45.b) f45.sc 3 [] Value.none Value.none Value.none (Value.str (Str.ofString "cpy313.doctest") 289) Option.none (Value.ref 44) Value.none 0)) #[]
noncomputable def o46 : Params → Obj := fun (P : Params) => Obj.mk (Value.type "tuple") Option.none (Data.seq #[Value.type "list"]) #[]
noncomputable def o49 : Params → Obj := fun (P : Params) => Obj.mk (Value.type "cell") Option.none (Data.cell (Option.some (Value.ref 125))) #[]
noncomputable def o54 : Params → Obj := fun (P : Params) => Obj.mk (Value.type "tuple") Option.none (Data.seq #[Value.int 0 317]) #[]
noncomputable def o55 : Params → Obj := fun (P : Params) => Obj.mk (Value.type "tuple") Option.none (Data.seq #[Value.ref 49]) #[]
noncomputable def o56 : Params → Obj := fun (P : Params) => Obj.mk (Value.type "tuple") Option.none (Data.seq #[Value.str (Str.ofString "__class__") 321]) #[]
noncomputable def o58 : Params → Obj := fun (P : Params) => Obj.mk (Value.type "tuple") Option.none (Data.seq #[Value.str (Str.ofString "self") 322, Value.str (Str.ofString "initial_size") 323]) #[]
noncomputable def o59 : Params → Obj := fun (P : Params) => Obj.mk (Value.type "tuple") Option.none (Data.seq #[]) #[]
noncomputable def o61 : Params → Obj := fun (P : Params) => Obj.mk (Value.type "code") Option.none (Data.fields #[Value.str (Str.ofString "__init__") 318, Value.str (Str.ofString "_Accumulator.__init__") 319, Value.str (Str.ofString "/claim/cut.py") 320, Value.int 22 0, Value.int 2 0, Value.int 0 0, Value.int 0 0, Value.int 3 0, Value.ref 56, Value.bool Bool.true, Value.int 276 0, Value.ref 57, Value.none, Value.ref 58, Value.ref 59, Value.ref 60, Value.int 324 0, Value.int 22 0, Value.str (Str.ofString "/claim/cut.py") 325]) #[]
noncomputable def o62 : Params → Obj := fun (P : Params) => Obj.mk (Value.type "function") Option.none (Data.func (FuncData.mk (Str.ofString "__init__") (Str.ofString "_Accumulator.__init__") f62.a (FuncBody.stmts f62.b) f62.sc 3 [(Str.ofString "__class__", 49)] (Value.ref 54) Value.none Value.none (Value.str (Str.ofString "cpy313.email.header") 301) Option.none (Value.ref 61) (Value.ref 55) 0)) #[]
noncomputable def o63 : Params → Obj := fun (P : Params) => Obj.mk (Value.type "tuple") Option.none (Data.seq #[]) #[]
noncomputable def o65 : Params → Obj := fun (P : Params) => Obj.mk (Value.type "tuple") Option.none (Data.seq #[Value.str (Str.ofString "self") 330, Value.str (Str.ofString "fws") 331, Value.str (Str.ofString "string") 332]) #[]
noncomputable def o66 : Params → Obj := fun (P : Params) => Obj.mk (Value.type "tuple") Option.none (Data.seq #[]) #[]
noncomputable def o68 : Params → Obj := fun (P : Params) => Obj.mk (Value.type "code") Option.none (Data.fields #[Value.str (Str.ofString "push") 327, Value.str (Str.ofString "_Accumulator.push") 328, Value.str (Str.ofString "/claim/cut.py") 329, Value.int 26 0, Value.int 3 0, Value.int 0 0, Value.int 0 0, Value.int 3 0, Value.ref 63, Value.bool Bool.true, Value.int 276 0, Value.ref 64, Value.none, Value.ref 65, Value.ref 66, Value.ref 67, Value.int 333 0, Value.int 26 0, Value.str (Str.ofString "/claim/cut.py") 334]) #[]
noncomputable def o69 : Params → Obj := fun (P : Params) => Obj.mk (Value.type "function") Option.none (Data.func (FuncData.mk (Str.ofString "push") (Str.ofString "_Accumulator.push") f69.a (FuncBody.stmts f69.b) f69.sc 3 [] Value.none Value.none Value.none (Value.str (Str.ofString "cpy313.email.header") 301) Option.none (Value.ref 68) Value.none 0)) #[]
noncomputable def o70 : Params → Obj := fun (P : Params) => Obj.mk (Value.type "tuple") Option.none (Data.seq #[Value.int 0 336]) #[]
noncomputable def o71 : Params → Obj := fun (P : Params) => Obj.mk (Value.type "tuple") Option.none (Data.seq #[]) #[]
noncomputable def o73 : Params → Obj := fun (P : Params) => Obj.mk (Value.type "tuple") Option.none (Data.seq #[Value.str (Str.ofString "self") 340, Value.str (Str.ofString "i") 341, Value.str (Str.ofString "popped") 342]) #[]
noncomputable def o74 : Params → Obj := fun (P : Params) => Obj.mk (Value.type "tuple") Option.none (Data.seq #[]) #[]
noncomputable def o76 : Params → Obj := fun (P : Params) => Obj.mk (Value.type "code") Option.none (Data.fields #[Value.str (Str.ofString "pop_from") 337, Value.str (Str.ofString "_Accumulator.pop_from") 338, Value.str (Str.ofString "/claim/cut.py") 339, Value.int 29 0, Value.int 2 0, Value.int 0 0, Value.int 0 0, Value.int 3 0, Value.ref 71, Value.bool Bool.true, Value.int 276 0, Value.ref 72, Value.none, Value.ref 73, Value.ref 74, Value.ref 75, Value.int 343 0, Value.int 29 0, Value.str (Str.ofString "/claim/cut.py") 344]) #[]
noncomputable def o77 : Params → Obj := fun (P : Params) => Obj.mk (Value.type "function") Option.none (Data.func (FuncData.mk (Str.ofString "pop_from") (Str.ofString "_Accumulator.pop_from") f77.a (FuncBody.stmts f77.b) f77.sc 3 [] (Value.ref 70) Value.none Value.none (Value.str (Str.ofString "cpy313.email.header") 301) Option.none (Value.ref 76) Value.none 0)) #[]
noncomputable def o78 : Params → Obj := fun (P : Params) => Obj.mk (Value.type "tuple") Option.none (Data.seq #[Value.ref 49]) #[]
noncomputable def o79 : Params → Obj := fun (P : Params) => Obj.mk (Value.type "tuple") Option.none (Data.seq #[Value.str (Str.ofString "__class__") 349]) #[]
noncomputable def o81 : Params → Obj := fun (P : Params) => Obj.mk (Value.type "tuple") Option.none (Data.seq #[Value.str (Str.ofString "self") 350]) #[]
noncomputable def o82 : Params → Obj := fun (P : Params) => Obj.mk (Value.type "tuple") Option.none (Data.seq #[]) #[]
noncomputable def o84 : Params → Obj := fun (P : Params) => Obj.mk (Value.type "code") Option.none (Data.fields #[Value.str (Str.ofString "pop") 346, Value.str (Str.ofString "_Accumulator.pop") 347, Value.str (Str.ofString "/claim/cut.py") 348, Value.int 34 0, Value.int 1 0, Value.int 0 0, Value.int 0 0, Value.int 3 0, Value.ref 79, Value.bool Bool.true, Value.int 276 0, Value.ref 80, Value.none, Value.ref 81, Value.ref 82, Value.ref 83, Value.int 351 0, Value.int 34 0, Value.str (Str.ofString "/claim/cut.py") 352]) #[]
noncomputable def o85 : Params → Obj := fun (P : Params) => Obj.mk (Value.type "function") Option.none (Data.func (FuncData.mk (Str.ofString "pop") (Str.ofString "_Accumulator.pop") f85.a (FuncBody.stmts f85.b) f85.sc 3 [(Str.ofString "__class__", 49)] Value.none Value.none Value.none (Value.str (Str.ofString "cpy313.email.header") 301) Option.none (Value.ref 84) (Value.ref 78) 0)) #[]
noncomputable def o86 : Params → Obj := fun (P : Params) => Obj.mk (Value.type "tuple") Option.none (Data.seq #[]) #[]
noncomputable def o88 : Params → Obj := fun (P : Params) => Obj.mk (Value.type "tuple") Option.none (Data.seq #[Value.str (Str.ofString "self") 357]) #[]
noncomputable def o89 : Params → Obj := fun (P : Params) => Obj.mk (Value.type "tuple") Option.none (Data.seq #[]) #[]
noncomputable def o91 : Params → Obj := fun (P : Params) => Obj.mk (Value.type "code") Option.none (Data.fields #[Value.str (Str.ofString "__len__") 354, Value.str (Str.ofString "_Accumulator.__len__") 355, Value.str (Str.ofString "/claim/cut.py") 356, Value.int 39 0, Value.int 1 0, Value.int 0 0, Value.int 0 0, Value.int 3 0, Value.ref 86, Value.bool Bool.true, Value.int 276 0, Value.ref 87, Value.none, Value.ref 88, Value.ref 89, Value.ref 90, Value.int 358 0, Value.int 39 0, Value.str (Str.ofString "/claim/cut.py") 359]) #[]
noncomputable def o92 : Params → Obj := fun (P : Params) => Obj.mk (Value.type "function") Option.none (Data.func (FuncData.mk (Str.ofString "__len__") (Str.ofString "_Accumulator.__len__") f92.a (FuncBody.stmts f92.b) f92.sc 3 [] Value.none Value.none Value.none (Value.str (Str.ofString "cpy313.email.header") 301) Option.none (Value.ref 91) Value.none 0)) #[]
noncomputable def o93 : Params → Obj := fun (P : Params) => Obj.mk (Value.type "tuple") Option.none (Data.seq #[]) #[]
noncomputable def o95 : Params → Obj := fun (P : Params) => Obj.mk (Value.type "tuple") Option.none (Data.seq #[Value.str (Str.ofString "self") 364]) #[]
noncomputable def o96 : Params → Obj := fun (P : Params) => Obj.mk (Value.type "tuple") Option.none (Data.seq #[]) #[]
noncomputable def o98 : Params → Obj := fun (P : Params) => Obj.mk (Value.type "code") Option.none (Data.fields #[Value.str (Str.ofString "__str__") 361, Value.str (Str.ofString "_Accumulator.__str__") 362, Value.str (Str.ofString "/claim/cut.py") 363, Value.int 42 0, Value.int 1 0, Value.int 0 0, Value.int 0 0, Value.int 3 0, Value.ref 93, Value.bool Bool.true, Value.int 276 0, Value.ref 94, Value.none, Value.ref 95, Value.ref 96, Value.ref 97, Value.int 365 0, Value.int 42 0, Value.str (Str.ofString "/claim/cut.py") 366]) #[]
noncomputable def o99 : Params → Obj := fun (P : Params) => Obj.mk (Value.type "function") Option.none (Data.func (FuncData.mk (Str.ofString "__str__") (Str.ofString "_Accumulator.__str__") f99.a (FuncBody.stmts f99.b) f99.sc 3 [] Value.none Value.none Value.none (Value.str (Str.ofString "cpy313.email.header") 301) Option.none (Value.ref 98) Value.none 0)) #[]
noncomputable def o100 : Params → Obj := fun (P : Params) => Obj.mk (Value.type "tuple") Option.none (Data.seq #[Value.none]) #[]
noncomputable def o101 : Params → Obj := fun (P : Params) => Obj.mk (Value.type "tuple") Option.none (Data.seq #[]) #[]
noncomputable def o103 : Params → Obj := fun (P : Params) => Obj.mk (Value.type "tuple") Option.none (Data.seq #[Value.str (Str.ofString "self") 371, Value.str (Str.ofString "startval") 372]) #[]
noncomputable def o104 : Params → Obj := fun (P : Params) => Obj.mk (Value.type "tuple") Option.none (Data.seq #[]) #[]
noncomputable def o106 : Params → Obj := fun (P : Params) => Obj.mk (Value.type "code") Option.none (Data.fields #[Value.str (Str.ofString "reset") 368, Value.str (Str.ofString "_Accumulator.reset") 369, Value.str (Str.ofString "/claim/cut.py") 370, Value.int 45 0, Value.int 2 0, Value.int 0 0, Value.int 0 0, Value.int 3 0, Value.ref 101, Value.bool Bool.true, Value.int 276 0, Value.ref 102, Value.none, Value.ref 103, Value.ref 104, Value.ref 105, Value.int 373 0, Value.int 45 0, Value.str (Str.ofString "/claim/cut.py") 374]) #[]
noncomputable def o107 : Params → Obj := fun (P : Params) => Obj.mk (Value.type "function") Option.none (Data.func (FuncData.mk (Str.ofString "reset") (Str.ofString "_Accumulator.reset") f107.a (FuncBody.stmts f107.b) f107.sc 3 [] (Value.ref 100) Value.none Value.none (Value.str (Str.ofString "cpy313.email.header") 301) Option.none (Value.ref 106) Value.none 0)) #[]
noncomputable def o108 : Params → Obj := fun (P : Params) => Obj.mk (Value.type "tuple") Option.none (Data.seq #[]) #[]
noncomputable def o110 : Params → Obj := fun (P : Params) => Obj.mk (Value.type "tuple") Option.none (Data.seq #[Value.str (Str.ofString "self") 379]) #[]
noncomputable def o111 : Params → Obj := fun (P : Params) => Obj.mk (Value.type "tuple") Option.none (Data.seq #[]) #[]
noncomputable def o113 : Params → Obj := fun (P : Params) => Obj.mk (Value.type "code") Option.none (Data.fields #[Value.str (Str.ofString "is_onlyws") 376, Value.str (Str.ofString "_Accumulator.is_onlyws") 377, Value.str (Str.ofString "/claim/cut.py") 378, Value.int 51 0, Value.int 1 0, Value.int 0 0, Value.int 0 0, Value.int 3 0, Value.ref 108, Value.bool Bool.true, Value.int 276 0, Value.ref 109, Value.none, Value.ref 110, Value.ref 111, Value.ref 112, Value.int 380 0, Value.int 51 0, Value.str (Str.ofString "/claim/cut.py") 381]) #[]
noncomputable def o114 : Params → Obj := fun (P : Params) => Obj.mk (Value.type "function") Option.none (Data.func (FuncData.mk (Str.ofString "is_onlyws") (Str.ofString "_Accumulator.is_onlyws") f114.a (FuncBody.stmts f114.b) f114.sc 3 [] Value.none Value.none Value.none (Value.str (Str.ofString "cpy313.email.header") 301) Option.none (Value.ref 113) Value.none 0)) #[]
noncomputable def o115 : Params → Obj := fun (P : Params) => Obj.mk (Value.type "tuple") Option.none (Data.seq #[Value.ref 49]) #[]
noncomputable def o116 : Params → Obj := fun (P : Params) => Obj.mk (Value.type "tuple") Option.none (Data.seq #[Value.str (Str.ofString "__class__") 386]) #[]
noncomputable def o118 : Params → Obj := fun (P : Params) => Obj.mk (Value.type "tuple") Option.none (Data.seq #[Value.str (Str.ofString "self") 387]) #[]
noncomputable def o119 : Params → Obj := fun (P : Params) => Obj.mk (Value.type "tuple") Option.none (Data.seq #[]) #[]
noncomputable def o121 : Params → Obj := fun (P : Params) => Obj.mk (Value.type "code") Option.none (Data.fields #[Value.str (Str.ofString "part_count") 383, Value.str (Str.ofString "_Accumulator.part_count") 384, Value.str (Str.ofString "/claim/cut.py") 385, Value.int 54 0, Value.int 1 0, Value.int 0 0, Value.int 0 0, Value.int 3 0, Value.ref 116, Value.bool Bool.true, Value.int 276 0, Value.ref 117, Value.none, Value.ref 118, Value.ref 119, Value.ref 120, Value.int 388 0, Value.int 54 0, Value.str (Str.ofString "/claim/cut.py") 389]) #[]
noncomputable def o122 : Params → Obj := fun (P : Params) => Obj.mk (Value.type "function") Option.none (Data.func (FuncData.mk (Str.ofString "part_count") (Str.ofString "_Accumulator.part_count") f122.a (FuncBody.stmts f122.b) f122.sc 3 [(Str.ofString "__class__", 49)] Value.none Value.none Value.none (Value.str (Str.ofString "cpy313.email.header") 301) Option.none (Value.ref 121) (Value.ref 115) 0)) #[]
noncomputable def o123 : Params → Obj := fun (P : Params) => Obj.mk (Value.type "tuple") Option.none (Data.seq #[Value.str (Str.ofString "_initial_size") 391]) #[]
noncomputable def o124 : Params → Obj := fun (P : Params) => Obj.mk (Value.type "dict") Option.none (Data.dict #[DictEntry.mk (PyData.keyHash P (Str.ofString "__module__")) (Value.str (Str.ofString "__module__") 312) (Value.str (Str.ofString "cpy313.email.header") 301), DictEntry.mk (PyData.keyHash P (Str.ofString "__firstlineno__")) (Value.str (Str.ofString "__firstlineno__") 316) (Value.int 20 315), DictEntry.mk (PyData.keyHash P (Str.ofString "__init__")) (Value.str (Str.ofString "__init__") 326) (Value.ref 62), DictEntry.mk (PyData.keyHash P (Str.ofString "push")) (Value.str (Str.ofString "push") 335) (Value.ref 69), DictEntry.mk (PyData.keyHash P (Str.ofString "pop_from")) (Value.str (Str.ofString "pop_from") 345) (Value.ref 77), DictEntry.mk (PyData.keyHash P (Str.ofString "pop")) (Value.str (Str.ofString "pop") 353) (Value.ref 85), DictEntry.mk (PyData.keyHash P (Str.ofString "__len__")) (Value.str (Str.ofString "__len__") 360) (Value.ref 92), DictEntry.mk (PyData.keyHash P (Str.ofString "__str__")) (Value.str (Str.ofString "__str__") 367) (Value.ref 99), DictEntry.mk (PyData.keyHash P (Str.ofString "reset")) (Value.str (Str.ofString "reset") 375) (Value.ref 107), DictEntry.mk (PyData.keyHash P (Str.ofString "is_onlyws")) (Value.str (Str.ofString "is_onlyws") 382) (Value.ref 114), DictEntry.mk (PyData.keyHash P (Str.ofString "part_count")) (Value.str (Str.ofString "part_count") 390) (Value.ref 122), DictEntry.mk (PyData.keyHash P (Str.ofString "__static_attributes__")) (Value.str (Str.ofString "__static_attributes__") 392) (Value.ref 123), DictEntry.mk (PyData.keyHash P (Str.ofString "__dict__")) (Value.str (Str.ofString "__dict__") 395) (Value.ref 126), DictEntry.mk (PyData.keyHash P (Str.ofString "__weakref__")) (Value.str (Str.ofString "__weakref__") 397) (Value.ref 127), DictEntry.mk (PyData.keyHash P (Str.ofString "__doc__")) (Value.str (Str.ofString "__doc__") 398) Value.none] 5) #[]
noncomputable def o125 : Params → Obj := fun (P : Params) => Obj.mk (Value.type "type") Option.none (Data.cls (ClassData.mk (Str.ofString "_Accumulator") [Value.type "list"] [Value.ref 125, Value.type "list", Value.type "object"] 124 (Str.ofString "_Accumulator") Bool.true [] [] Bool.false Option.none Bool.false)) #[Option.some (Value.ref 46), Option.none, Option.some (Value.str (Str.ofString "_Accumulator") 305), Option.some (Value.str (Str.ofString "_Accumulator") 313), Option.some (Value.builtin "list.__new__"), Option.some (Value.bool Bool.true)]
noncomputable def o126 : Params → Obj := fun (P : Params) => Obj.mk (Value.type "getset_descriptor") Option.none (Data.fields #[Value.str (Str.ofString "__dict__") 394, Value.ref 125, Value.builtin "function.__dict__", Value.builtin "function.__dict__#set"]) #[]
noncomputable def o127 : Params → Obj := fun (P : Params) => Obj.mk (Value.type "getset_descriptor") Option.none (Data.fields #[Value.str (Str.ofString "__weakref__") 396, Value.ref 125, Value.builtin "ExceptionGroup.__weakref__", Value.none]) #[]
noncomputable def o133 : Params → Obj := fun (P : Params) => Obj.mk (Value.type "tuple") Option.none (Data.seq #[Value.int 14 0, Value.int 8 0, Value.int 1 0, Value.int 2 0, Value.int 4294967295 0, Value.int 1 0, Value.int 1 0, Value.int 46 0, Value.int 0 0, Value.int 16 0, Value.int 46 0, Value.int 24 0, Value.int 9 0, Value.int 1 0, Value.int 4294967295 0, Value.int 13 0, Value.int 4 0, Value.int 8 0, Value.int 0 0, Value.int 0 0, Value.int 1 0, Value.int 6 0, Value.int 5 0, Value.int 1 0]) #[]
noncomputable def o134 : Params → Obj := fun (P : Params) => Obj.mk (Value.type "re.Pattern") Option.none (Data.fields #[Value.str (Str.ofString "\\.\\d+$") 404, Value.int 256 431, Value.int 0 0, Value.none, Value.none, Value.ref 133, Value.int 0 0]) #[]
noncomputable def o135 : Params → Obj := fun (P : Params) => Obj.mk (Value.type "tuple") Option.none (Data.seq #[]) #[]
noncomputable def o137 : Params → Obj := fun (P : Params) => Obj.mk (Value.type "tuple") Option.none (Data.seq #[Value.str (Str.ofString "text") 436]) #[]
noncomputable def o138 : Params → Obj := fun (P : Params) => Obj.mk (Value.type "tuple") Option.none (Data.seq #[]) #[]
noncomputable def o140 : Params → Obj := fun (P : Params) => Obj.mk (Value.type "code") Option.none (Data.fields #[Value.str (Str.ofString "is_HDN") 433, Value.str (Str.ofString "is_HDN") 434, Value.str (Str.ofString "/claim/cut.py") 435, Value.int 58 0, Value.int 1 0, Value.int 0 0, Value.int 0 0, Value.int 3 0, Value.ref 135, Value.bool Bool.true, Value.int 276 0, Value.ref 136, Value.none, Value.ref 137, Value.ref 138, Value.ref 139, Value.int 437 0, Value.int 58 0, Value.str (Str.ofString "/claim/cut.py") 438]) #[]
noncomputable def o141 : Params → Obj := fun (P : Params) => Obj.mk (Value.type "function") Option.none (Data.func (FuncData.mk (Str.ofString "is_HDN") (Str.ofString "is_HDN") f141.a (FuncBody.stmts f141.b) f141.sc 3 [] Value.none Value.none Value.none (Value.str (Str.ofString "cpy313.http.cookiejar") 401) Option.none (Value.ref 140) Value.none 0)) #[]
noncomputable def o142 : Params → Obj := fun (P : Params) => Obj.mk (Value.type "tuple") Option.none (Data.seq #[]) #[]
noncomputable def o144 : Params → Obj := fun (P : Params) => Obj.mk (Value.type "tuple") Option.none (Data.seq #[Value.str (Str.ofString "A") 443, Value.str (Str.ofString "B") 444, Value.str (Str.ofString "i") 445]) #[]
noncomputable def o145 : Params → Obj := fun (P : Params) => Obj.mk (Value.type "tuple") Option.none (Data.seq #[]) #[]
noncomputable def o147 : Params → Obj := fun (P : Params) => Obj.mk (Value.type "code") Option.none (Data.fields #[Value.str (Str.ofString "domain_match") 440, Value.str (Str.ofString "domain_match") 441, Value.str (Str.ofString "/claim/cut.py") 442, Value.int 66 0, Value.int 2 0, Value.int 0 0, Value.int 0 0, Value.int 3 0, Value.ref 142, Value.bool Bool.true, Value.int 276 0, Value.ref 143, Value.none, Value.ref 144, Value.ref 145, Value.ref 146, Value.int 446 0, Value.int 66 0, Value.str (Str.ofString "/claim/cut.py") 447]) #[]
noncomputable def o148 : Params → Obj := fun (P : Params) => Obj.mk (Value.type "function") Option.none (Data.func (FuncData.mk (Str.ofString "domain_match") (Str.ofString "domain_match") f148.a (FuncBody.stmts f148.b) f148.sc 3 [] Value.none Value.none Value.none (Value.str (Str.ofString "cpy313.http.cookiejar") 401) Option.none (Value.ref 147) Value.none 0)) #[]
noncomputable def o149 : Params → Obj := fun (P : Params) => Obj.mk (Value.type "tuple") Option.none (Data.seq #[]) #[]
noncomputable def o151 : Params → Obj := fun (P : Params) => Obj.mk (Value.type "tuple") Option.none (Data.seq #[Value.str (Str.ofString "text") 452]) #[]
noncomputable def o152 : Params → Obj := fun (P : Params) => Obj.mk (Value.type "tuple") Option.none (Data.seq #[]) #[]
noncomputable def o154 : Params → Obj := fun (P : Params) => Obj.mk (Value.type "code") Option.none (Data.fields #[Value.str (Str.ofString "liberal_is_HDN") 449, Value.str (Str.ofString "liberal_is_HDN") 450, Value.str (Str.ofString "/claim/cut.py") 451, Value.int 81 0, Value.int 1 0, Value.int 0 0, Value.int 0 0, Value.int 3 0, Value.ref 149, Value.bool Bool.true, Value.int 276 0, Value.ref 150, Value.none, Value.ref 151, Value.ref 152, Value.ref 153, Value.int 453 0, Value.int 81 0, Value.str (Str.ofString "/claim/cut.py") 454]) #[]
noncomputable def o155 : Params → Obj := fun (P : Params) => Obj.mk (Value.type "function") Option.none (Data.func (FuncData.mk (Str.ofString "liberal_is_HDN") (Str.ofString "liberal_is_HDN") f155.a (FuncBody.stmts f155.b) f155.sc 3 [] Value.none Value.none Value.none (Value.str (Str.ofString "cpy313.http.cookiejar") 401) Option.none (Value.ref 154) Value.none 0)) #[]
noncomputable def o156 : Params → Obj := fun (P : Params) => Obj.mk (Value.type "tuple") Option.none (Data.seq #[]) #[]
noncomputable def o158 : Params → Obj := fun (P : Params) => Obj.mk (Value.type "tuple") Option.none (Data.seq #[Value.str (Str.ofString "A") 459, Value.str (Str.ofString "B") 460, Value.str (Str.ofString "initial_dot") 461]) #[]
noncomputable def o159 : Params → Obj := fun (P : Params) => Obj.mk (Value.type "tuple") Option.none (Data.seq #[]) #[]
noncomputable def o161 : Params → Obj := fun (P : Params) => Obj.mk (Value.type "code") Option.none (Data.fields #[Value.str (Str.ofString "user_domain_match") 456, Value.str (Str.ofString "user_domain_match") 457, Value.str (Str.ofString "/claim/cut.py") 458, Value.int 85 0, Value.int 2 0, Value.int 0 0, Value.int 0 0, Value.int 3 0, Value.ref 156, Value.bool Bool.true, Value.int 276 0, Value.ref 157, Value.none, Value.ref 158, Value.ref 159, Value.ref 160, Value.int 462 0, Value.int 85 0, Value.str (Str.ofString "/claim/cut.py") 463]) #[]
noncomputable def o162 : Params → Obj := fun (P : Params) => Obj.mk (Value.type "function") Option.none (Data.func (FuncData.mk (Str.ofString "user_domain_match") (Str.ofString "user_domain_match") f162.a (FuncBody.stmts f162.b) f162.sc 3 [] Value.none Value.none Value.none (Value.str (Str.ofString "cpy313.http.cookiejar") 401) Option.none (Value.ref 161) Value.none 0)) #[]
noncomputable def o163 : Params → Obj := fun (P : Params) => Obj.mk (Value.type "tuple") Option.none (Data.seq #[]) #[]
noncomputable def o165 : Params → Obj := fun (P : Params) => Obj.mk (Value.type "tuple") Option.none (Data.seq #[Value.str (Str.ofString "h") 468, Value.str (Str.ofString "i") 469, Value.str (Str.ofString "b") 470]) #[]
noncomputable def o166 : Params → Obj := fun (P : Params) => Obj.mk (Value.type "tuple") Option.none (Data.seq #[]) #[]
noncomputable def o168 : Params → Obj := fun (P : Params) => Obj.mk (Value.type "code") Option.none (Data.fields #[Value.str (Str.ofString "reach") 465, Value.str (Str.ofString "reach") 466, Value.str (Str.ofString "/claim/cut.py") 467, Value.int 98 0, Value.int 1 0, Value.int 0 0, Value.int 0 0, Value.int 3 0, Value.ref 163, Value.bool Bool.true, Value.int 276 0, Value.ref 164, Value.none, Value.ref 165, Value.ref 166, Value.ref 167, Value.int 471 0, Value.int 98 0, Value.str (Str.ofString "/claim/cut.py") 472]) #[]
noncomputable def o169 : Params → Obj := fun (P : Params) => Obj.mk (Value.type "function") Option.none (Data.func (FuncData.mk (Str.ofString "reach") (Str.ofString "reach") f169.a (FuncBody.stmts f169.b) f169.sc 3 [] Value.none Value.none Value.none (Value.str (Str.ofString "cpy313.http.cookiejar") 401) Option.none (Value.ref 168) Value.none 0)) #[]
noncomputable def o170 : Params → Obj := fun (P : Params) => Obj.mk (Value.type "dict") Option.none (Data.dict #[DictEntry.mk (PyData.keyHash P (Str.ofString "!")) (Value.str (Str.ofString "!") 576) (Value.int 54 572), DictEntry.mk (PyData.keyHash P (Str.ofString "!=")) (Value.str (Str.ofString "!=") 578) (Value.int 28 520), DictEntry.mk (PyData.keyHash P (Str.ofString "%")) (Value.str (Str.ofString "%") 580) (Value.int 24 512), DictEntry.mk (PyData.keyHash P (Str.ofString "%=")) (Value.str (Str.ofString "%=") 582) (Value.int 40 544), DictEntry.mk (PyData.keyHash P (Str.ofString "&")) (Value.str (Str.ofString "&") 584) (Value.int 19 502), DictEntry.mk (PyData.keyHash P (Str.ofString "&=")) (Value.str (Str.ofString "&=") 586) (Value.int 41 546), DictEntry.mk (PyData.keyHash P (Str.ofString "(")) (Value.str (Str.ofString "(") 588) (Value.int 7 478), DictEntry.mk (PyData.keyHash P (Str.ofString ")")) (Value.str (Str.ofString ")") 590) (Value.int 8 480), DictEntry.mk (PyData.keyHash P (Str.ofString "*")) (Value.str (Str.ofString "*") 592) (Value.int 16 496), DictEntry.mk (PyData.keyHash P (Str.ofString "**")) (Value.str (Str.ofString "**") 594) (Value.int 35 534), DictEntry.mk (PyData.keyHash P (Str.ofString "**=")) (Value.str (Str.ofString "**=") 596) (Value.int 46 556), DictEntry.mk (PyData.keyHash P (Str.ofString "*=")) (Value.str (Str.ofString "*=") 598) (Value.int 38 540), DictEntry.mk (PyData.keyHash P (Str.ofString "+")) (Value.str (Str.ofString "+") 600) (Value.int 14 492), DictEntry.mk (PyData.keyHash P (Str.ofString "+=")) (Value.str (Str.ofString "+=") 602) (Value.int 36 536), DictEntry.mk (PyData.keyHash P (Str.ofString ",")) (Value.str (Str.ofString ",") 604) (Value.int 12 488), DictEntry.mk (PyData.keyHash P (Str.ofString "-")) (Value.str (Str.ofString "-") 606) (Value.int 15 494), DictEntry.mk (PyData.keyHash P (Str.ofString "-=")) (Value.str (Str.ofString "-=") 608) (Value.int 37 538), DictEntry.mk (PyData.keyHash P (Str.ofString "->")) (Value.str (Str.ofString "->") 610) (Value.int 51 566), DictEntry.mk (PyData.keyHash P (Str.ofString ".")) (Value.str (Str.ofString ".") 612) (Value.int 23 510), DictEntry.mk (PyData.keyHash P (Str.ofString "...")) (Value.str (Str.ofString "...") 614) (Value.int 52 568), DictEntry.mk (PyData.keyHash P (Str.ofString "/")) (Value.str (Str.ofString "/") 616) (Value.int 17 498), DictEntry.mk (PyData.keyHash P (Str.ofString "//")) (Value.str (Str.ofString "//") 618) (Value.int 47 558), DictEntry.mk (PyData.keyHash P (Str.ofString "//=")) (Value.str (Str.ofString "//=") 620) (Value.int 48 560), DictEntry.mk (PyData.keyHash P (Str.ofString "/=")) (Value.str (Str.ofString "/=") 622) (Value.int 39 542), DictEntry.mk (PyData.keyHash P (Str.ofString ":")) (Value.str (Str.ofString ":") 624) (Value.int 11 486), DictEntry.mk (PyData.keyHash P (Str.ofString ":=")) (Value.str (Str.ofString ":=") 626) (Value.int 53 570), DictEntry.mk (PyData.keyHash P (Str.ofString ";")) (Value.str (Str.ofString ";") 628) (Value.int 13 490), DictEntry.mk (PyData.keyHash P (Str.ofString "<")) (Value.str (Str.ofString "<") 630) (Value.int 20 504), DictEntry.mk (PyData.keyHash P (Str.ofString "<<")) (Value.str (Str.ofString "<<") 632) (Value.int 33 530), DictEntry.mk (PyData.keyHash P (Str.ofString "<<=")) (Value.str (Str.ofString "<<=") 634) (Value.int 44 552), DictEntry.mk (PyData.keyHash P (Str.ofString "<=")) (Value.str (Str.ofString "<=") 636) (Value.int 29 522), DictEntry.mk (PyData.keyHash P (Str.ofString "=")) (Value.str (Str.ofString "=") 638) (Value.int 22 508), DictEntry.mk (PyData.keyHash P (Str.ofString "==")) (Value.str (Str.ofString "==") 640) (Value.int 27 518), DictEntry.mk (PyData.keyHash P (Str.ofString ">")) (Value.str (Str.ofString ">") 642) (Value.int 21 506), DictEntry.mk (PyData.keyHash P (Str.ofString ">=")) (Value.str (Str.ofString ">=") 644) (Value.int 30 524), DictEntry.mk (PyData.keyHash P (Str.ofString ">>")) (Value.str (Str.ofString ">>") 645) (Value.int 34 532), DictEntry.mk (PyData.keyHash P (Str.ofString ">>=")) (Value.str (Str.ofString ">>=") 646) (Value.int 45 554), DictEntry.mk (PyData.keyHash P (Str.ofString "@")) (Value.str (Str.ofString "@") 647) (Value.int 49 562), DictEntry.mk (PyData.keyHash P (Str.ofString "@=")) (Value.str (Str.ofString "@=") 648) (Value.int 50 564), DictEntry.mk (PyData.keyHash P (Str.ofString "[")) (Value.str (Str.ofString "[") 649) (Value.int 9 482), DictEntry.mk (PyData.keyHash P (Str.ofString "]")) (Value.str (Str.ofString "]") 650) (Value.int 10 484), DictEntry.mk (PyData.keyHash P (Str.ofString "^")) (Value.str (Str.ofString "^") 651) (Value.int 32 528), DictEntry.mk (PyData.keyHash P (Str.ofString "^=")) (Value.str (Str.ofString "^=") 652) (Value.int 43 550), DictEntry.mk (PyData.keyHash P (Str.ofString "{")) (Value.str (Str.ofString "{") 653) (Value.int 25 514), DictEntry.mk (PyData.keyHash P (Str.ofString "|")) (Value.str (Str.ofString "|") 654) (Value.int 18 500), DictEntry.mk (PyData.keyHash P (Str.ofString "|=")) (Value.str (Str.ofString "|=") 655) (Value.int 42 548), DictEntry.mk (PyData.keyHash P (Str.ofString "}")) (Value.str (Str.ofString "}") 656) (Value.int 26 516), DictEntry.mk (PyData.keyHash P (Str.ofString "~")) (Value.str (Str.ofString "~") 657) (Value.int 31 526)] 48) #[]
noncomputable def o173 : Params → Obj := fun (P : Params) => Obj.mk (Value.type "tuple") Option.none (Data.seq #[]) #[]
noncomputable def o175 : Params → Obj := fun (P : Params) => Obj.mk (Value.type "tuple") Option.none (Data.seq #[Value.str (Str.ofString "x") 676]) #[]
noncomputable def o176 : Params → Obj := fun (P : Params) => Obj.mk (Value.type "tuple") Option.none (Data.seq #[]) #[]
noncomputable def o178 : Params → Obj := fun (P : Params) => Obj.mk (Value.type "code") Option.none (Data.fields #[Value.str (Str.ofString "ISNONTERMINAL") 673, Value.str (Str.ofString "ISNONTERMINAL") 674, Value.str (Str.ofString "/claim/cut.py") 675, Value.int 158 0, Value.int 1 0, Value.int 0 0, Value.int 0 0, Value.int 3 0, Value.ref 173, Value.bool Bool.true, Value.int 276 0, Value.ref 174, Value.none, Value.ref 175, Value.ref 176, Value.ref 177, Value.int 677 0, Value.int 158 0, Value.str (Str.ofString "/claim/cut.py") 678]) #[]
noncomputable def o179 : Params → Obj := fun (P : Params) => Obj.mk (Value.type "function") Option.none (Data.func (FuncData.mk (Str.ofString "ISNONTERMINAL") (Str.ofString "ISNONTERMINAL") f179.a (FuncBody.stmts f179.b) f179.sc 3 [] Value.none Value.none Value.none (Value.str (Str.ofString "cpy313.token") 474) Option.none (Value.ref 178) Value.none 0)) #[]
noncomputable def o180 : Params → Obj := fun (P : Params) => Obj.mk (Value.type "tuple") Option.none (Data.seq #[]) #[]
noncomputable def o182 : Params → Obj := fun (P : Params) => Obj.mk (Value.type "tuple") Option.none (Data.seq #[Value.str (Str.ofString "x") 683]) #[]
noncomputable def o183 : Params → Obj := fun (P : Params) => Obj.mk (Value.type "tuple") Option.none (Data.seq #[]) #[]
noncomputable def o185 : Params → Obj := fun (P : Params) => Obj.mk (Value.type "code") Option.none (Data.fields #[Value.str (Str.ofString "ISEOF") 680, Value.str (Str.ofString "ISEOF") 681, Value.str (Str.ofString "/claim/cut.py") 682, Value.int 160 0, Value.int 1 0, Value.int 0 0, Value.int 0 0, Value.int 3 0, Value.ref 180, Value.bool Bool.true, Value.int 276 0, Value.ref 181, Value.none, Value.ref 182, Value.ref 183, Value.ref 184, Value.int 684 0, Value.int 160 0, Value.str (Str.ofString "/claim/cut.py") 685]) #[]
noncomputable def o186 : Params → Obj := fun (P : Params) => Obj.mk (Value.type "function") Option.none (Data.func (FuncData.mk (Str.ofString "ISEOF") (Str.ofString "ISEOF") f186.a (FuncBody.stmts f186.b) f186.sc 3 [] Value.none Value.none Value.none (Value.str (Str.ofString "cpy313.token") 474) Option.none (Value.ref 185) Value.none 0)) #[]
noncomputable def o187 : Params → Obj := fun (P : Params) => Obj.mk (Value.type "tuple") Option.none (Data.seq #[]) #[]
noncomputable def o190 : Params → Obj := fun (P : Params) => Obj.mk (Value.type "code") Option.none (Data.fields #[Value.str (Str.ofString "_law_leads") 689, Value.str (Str.ofString "_law_leads") 690, Value.str (Str.ofString "/claim/cut.py") 691, Value.int 163 0, Value.int 4 0, Value.int 0 0, Value.int 0 0, Value.int 3 0, Value.ref 187, Value.bool Bool.true, Value.int 276 0, Value.ref 188, Value.none, Value.none, Value.none, Value.ref 189, Value.int 692 0, Value.int 163 0, Value.str (Str.ofString "/claim/cut.py") 693]) #[]
noncomputable def o191 : Params → Obj := fun (P : Params) => Obj.mk (Value.type "function") Option.none (Data.func (FuncData.mk (Str.ofString "_law_leads") (Str.ofString "_law_leads") f191.a (FuncBody.stmts f191.b) f191.sc 3 [] Value.none Value.none Value.none (Value.str (Str.ofString "law_xl0024_01") 687) Option.none (Value.ref 190) Value.none 0)) #[]
noncomputable def o192 : Params → Obj := fun (P : Params) => Obj.mk (Value.type "tuple") Option.none (Data.seq #[]) #[]
noncomputable def o194 : Params → Obj := fun (P : Params) => Obj.mk (Value.type "tuple") Option.none (Data.seq #[Value.str (Str.ofString "leads") 698, Value.str (Str.ofString "seen") 699, Value.str (Str.ofString "count") 700, Value.str (Str.ofString "start") 701, Value.str (Str.ofString "one") 702]) #[]
noncomputable def o195 : Params → Obj := fun (P : Params) => Obj.mk (Value.type "tuple") Option.none (Data.seq #[]) #[]
noncomputable def o197 : Params → Obj := fun (P : Params) => Obj.mk (Value.type "code") Option.none (Data.fields #[Value.str (Str.ofString "_law_rings") 695, Value.str (Str.ofString "_law_rings") 696, Value.str (Str.ofString "/claim/cut.py") 697, Value.int 167 0, Value.int 1 0, Value.int 0 0, Value.int 0 0, Value.int 3 0, Value.ref 192, Value.bool Bool.true, Value.int 276 0, Value.ref 193, Value.none, Value.ref 194, Value.ref 195, Value.ref 196, Value.int 703 0, Value.int 167 0, Value.str (Str.ofString "/claim/cut.py") 704]) #[]
noncomputable def o198 : Params → Obj := fun (P : Params) => Obj.mk (Value.type "function") Option.none (Data.func (FuncData.mk (Str.ofString "_law_rings") (Str.ofString "_law_rings") f198.a (FuncBody.stmts f198.b) f198.sc 3 [] Value.none Value.none Value.none (Value.str (Str.ofString "law_xl0024_01") 687) Option.none (Value.ref 197) Value.none 0)) #[]
noncomputable def o199 : Params → Obj := fun (P : Params) => Obj.mk (Value.type "tuple") Option.none (Data.seq #[]) #[]
noncomputable def o201 : Params → Obj := fun (P : Params) => Obj.mk (Value.type "tuple") Option.none (Data.seq #[Value.str (Str.ofString "text") 709, Value.str (Str.ofString "top") 710, Value.str (Str.ofString "name") 711, Value.str (Str.ofString "signs") 712, Value.str (Str.ofString "up") 713]) #[]
noncomputable def o202 : Params → Obj := fun (P : Params) => Obj.mk (Value.type "tuple") Option.none (Data.seq #[]) #[]
noncomputable def o204 : Params → Obj := fun (P : Params) => Obj.mk (Value.type "code") Option.none (Data.fields #[Value.str (Str.ofString "_law_read") 706, Value.str (Str.ofString "_law_read") 707, Value.str (Str.ofString "/claim/cut.py") 708, Value.int 183 0, Value.int 2 0, Value.int 0 0, Value.int 0 0, Value.int 3 0, Value.ref 199, Value.bool Bool.true, Value.int 276 0, Value.ref 200, Value.none, Value.ref 201, Value.ref 202, Value.ref 203, Value.int 714 0, Value.int 183 0, Value.str (Str.ofString "/claim/cut.py") 715]) #[]
noncomputable def o205 : Params → Obj := fun (P : Params) => Obj.mk (Value.type "function") Option.none (Data.func (FuncData.mk (Str.ofString "_law_read") (Str.ofString "_law_read") f205.a (FuncBody.stmts f205.b) f205.sc 3 [] Value.none Value.none Value.none (Value.str (Str.ofString "law_xl0024_01") 687) Option.none (Value.ref 204) Value.none 0)) #[]
noncomputable def o206 : Params → Obj := fun (P : Params) => Obj.mk (Value.type "tuple") Option.none (Data.seq #[]) #[]
noncomputable def o208 : Params → Obj := fun (P : Params) => Obj.mk (Value.type "tuple") Option.none (Data.seq #[Value.str (Str.ofString "text") 720, Value.str (Str.ofString "rising") 721, Value.str (Str.ofString "own") 722, Value.str (Str.ofString "k") 723, Value.str (Str.ofString "told") 724]) #[]
noncomputable def o209 : Params → Obj := fun (P : Params) => Obj.mk (Value.type "tuple") Option.none (Data.seq #[]) #[]
noncomputable def o211 : Params → Obj := fun (P : Params) => Obj.mk (Value.type "code") Option.none (Data.fields #[Value.str (Str.ofString "_law_beside") 717, Value.str (Str.ofString "_law_beside") 718, Value.str (Str.ofString "/claim/cut.py") 719, Value.int 192 0, Value.int 3 0, Value.int 0 0, Value.int 0 0, Value.int 3 0, Value.ref 206, Value.bool Bool.true, Value.int 276 0, Value.ref 207, Value.none, Value.ref 208, Value.ref 209, Value.ref 210, Value.int 725 0, Value.int 192 0, Value.str (Str.ofString "/claim/cut.py") 726]) #[]
noncomputable def o212 : Params → Obj := fun (P : Params) => Obj.mk (Value.type "function") Option.none (Data.func (FuncData.mk (Str.ofString "_law_beside") (Str.ofString "_law_beside") f212.a (FuncBody.stmts f212.b) f212.sc 3 [] Value.none Value.none Value.none (Value.str (Str.ofString "law_xl0024_01") 687) Option.none (Value.ref 211) Value.none 0)) #[]
noncomputable def o213 : Params → Obj := fun (P : Params) => Obj.mk (Value.type "tuple") Option.none (Data.seq #[]) #[]
noncomputable def o216 : Params → Obj := fun (P : Params) => Obj.mk (Value.type "code") Option.none (Data.fields #[Value.str (Str.ofString "_law_names") 728, Value.str (Str.ofString "_law_names") 729, Value.str (Str.ofString "/claim/cut.py") 730, Value.int 198 0, Value.int 3 0, Value.int 0 0, Value.int 0 0, Value.int 3 0, Value.ref 213, Value.bool Bool.true, Value.int 276 0, Value.ref 214, Value.none, Value.none, Value.none, Value.ref 215, Value.int 731 0, Value.int 198 0, Value.str (Str.ofString "/claim/cut.py") 732]) #[]
noncomputable def o217 : Params → Obj := fun (P : Params) => Obj.mk (Value.type "function") Option.none (Data.func (FuncData.mk (Str.ofString "_law_names") (Str.ofString "_law_names") f217.a (FuncBody.stmts f217.b) f217.sc 3 [] Value.none Value.none Value.none (Value.str (Str.ofString "law_xl0024_01") 687) Option.none (Value.ref 216) Value.none 0)) #[]
noncomputable def o218 : Params → Obj := fun (P : Params) => Obj.mk (Value.type "tuple") Option.none (Data.seq #[]) #[]
noncomputable def o221 : Params → Obj := fun (P : Params) => Obj.mk (Value.type "code") Option.none (Data.fields #[Value.str (Str.ofString "_law_bare") 734, Value.str (Str.ofString "_law_bare") 735, Value.str (Str.ofString "/claim/cut.py") 736, Value.int 212 0, Value.int 2 0, Value.int 0 0, Value.int 0 0, Value.int 3 0, Value.ref 218, Value.bool Bool.true, Value.int 276 0, Value.ref 219, Value.none, Value.none, Value.none, Value.ref 220, Value.int 737 0, Value.int 212 0, Value.str (Str.ofString "/claim/cut.py") 738]) #[]
noncomputable def o222 : Params → Obj := fun (P : Params) => Obj.mk (Value.type "function") Option.none (Data.func (FuncData.mk (Str.ofString "_law_bare") (Str.ofString "_law_bare") f222.a (FuncBody.stmts f222.b) f222.sc 3 [] Value.none Value.none Value.none (Value.str (Str.ofString "law_xl0024_01") 687) Option.none (Value.ref 221) Value.none 0)) #[]
noncomputable def o223 : Params → Obj := fun (P : Params) => Obj.mk (Value.type "tuple") Option.none (Data.seq #[]) #[]
noncomputable def o226 : Params → Obj := fun (P : Params) => Obj.mk (Value.type "code") Option.none (Data.fields #[Value.str (Str.ofString "_law_exchange") 740, Value.str (Str.ofString "_law_exchange") 741, Value.str (Str.ofString "/claim/cut.py") 742, Value.int 216 0, Value.int 2 0, Value.int 0 0, Value.int 0 0, Value.int 3 0, Value.ref 223, Value.bool Bool.true, Value.int 276 0, Value.ref 224, Value.none, Value.none, Value.none, Value.ref 225, Value.int 743 0, Value.int 216 0, Value.str (Str.ofString "/claim/cut.py") 744]) #[]
noncomputable def o227 : Params → Obj := fun (P : Params) => Obj.mk (Value.type "function") Option.none (Data.func (FuncData.mk (Str.ofString "_law_exchange") (Str.ofString "_law_exchange") f227.a (FuncBody.stmts f227.b) f227.sc 3 [] Value.none Value.none Value.none (Value.str (Str.ofString "law_xl0024_01") 687) Option.none (Value.ref 226) Value.none 0)) #[]
noncomputable def o228 : Params → Obj := fun (P : Params) => Obj.mk (Value.type "tuple") Option.none (Data.seq #[]) #[]
noncomputable def o231 : Params → Obj := fun (P : Params) => Obj.mk (Value.type "code") Option.none (Data.fields #[Value.str (Str.ofString "law") 746, Value.str (Str.ofString "law") 747, Value.str (Str.ofString "/claim/cut.py") 748, Value.int 223 0, Value.int 1 0, Value.int 0 0, Value.int 0 0, Value.int 3 0, Value.ref 228, Value.bool Bool.true, Value.int 276 0, Value.ref 229, Value.none, Value.none, Value.none, Value.ref 230, Value.int 749 0, Value.int 223 0, Value.str (Str.ofString "/claim/cut.py") 750]) #[]
noncomputable def o232 : Params → Obj := fun (P : Params) => Obj.mk (Value.type "function") Option.none (Data.func (FuncData.mk (Str.ofString "law") (Str.ofString "law") f232.a (FuncBody.stmts f232.b) f232.sc 3 [] Value.none Value.none Value.none (Value.str (Str.ofString "law_xl0024_01") 687) Option.none (Value.ref 231) Value.none 0)) #[]
noncomputable def K : Params → Frag := fun P => (nat_lit 2, o2 P) :: (nat_lit 3, o3 P) :: (nat_lit 32, o32 P) :: (nat_lit 34, o34 P) :: (nat_lit 35, o35 P) :: (nat_lit 37, o37 P) :: (nat_lit 38, o38 P) :: (nat_lit 39, o39 P) :: (nat_lit 41, o41 P) :: (nat_lit 42, o42 P) :: (nat_lit 44, o44 P) :: (nat_lit 45, o45 P) :: (nat_lit 46, o46 P) :: (nat_lit 49, o49 P) :: (nat_lit 54, o54 P) :: (nat_lit 55, o55 P) :: (nat_lit 56, o56 P) :: (nat_lit 58, o58 P) :: (nat_lit 59, o59 P) :: (nat_lit 61, o61 P) :: (nat_lit 62, o62 P) :: (nat_lit 63, o63 P) :: (nat_lit 65, o65 P) :: (nat_lit 66, o66 P) :: (nat_lit 68, o68 P) :: (nat_lit 69, o69 P) :: (nat_lit 70, o70 P) :: (nat_lit 71, o71 P) :: (nat_lit 73, o73 P) :: (nat_lit 74, o74 P) :: (nat_lit 76, o76 P) :: (nat_lit 77, o77 P) :: (nat_lit 78, o78 P) :: (nat_lit 79, o79 P) :: (nat_lit 81, o81 P) :: (nat_lit 82, o82 P) :: (nat_lit 84, o84 P) :: (nat_lit 85, o85 P) :: (nat_lit 86, o86 P) :: (nat_lit 88, o88 P) :: (nat_lit 89, o89 P) :: (nat_lit 91, o91 P) :: (nat_lit 92, o92 P) :: (nat_lit 93, o93 P) :: (nat_lit 95, o95 P) :: (nat_lit 96, o96 P) :: (nat_lit 98, o98 P) :: (nat_lit 99, o99 P) :: (nat_lit 100, o100 P) :: (nat_lit 101, o101 P) :: (nat_lit 103, o103 P) :: (nat_lit 104, o104 P) :: (nat_lit 106, o106 P) :: (nat_lit 107, o107 P) :: (nat_lit 108, o108 P) :: (nat_lit 110, o110 P) :: (nat_lit 111, o111 P) :: (nat_lit 113, o113 P) :: (nat_lit 114, o114 P) :: (nat_lit 115, o115 P) :: (nat_lit 116, o116 P) :: (nat_lit 118, o118 P) :: (nat_lit 119, o119 P) :: (nat_lit 121, o121 P) :: (nat_lit 122, o122 P) :: (nat_lit 123, o123 P) :: (nat_lit 124, o124 P) :: (nat_lit 125, o125 P) :: (nat_lit 126, o126 P) :: (nat_lit 127, o127 P) :: (nat_lit 133, o133 P) :: (nat_lit 134, o134 P) :: (nat_lit 135, o135 P) :: (nat_lit 137, o137 P) :: (nat_lit 138, o138 P) :: (nat_lit 140, o140 P) :: (nat_lit 141, o141 P) :: (nat_lit 142, o142 P) :: (nat_lit 144, o144 P) :: (nat_lit 145, o145 P) :: (nat_lit 147, o147 P) :: (nat_lit 148, o148 P) :: (nat_lit 149, o149 P) :: (nat_lit 151, o151 P) :: (nat_lit 152, o152 P) :: (nat_lit 154, o154 P) :: (nat_lit 155, o155 P) :: (nat_lit 156, o156 P) :: (nat_lit 158, o158 P) :: (nat_lit 159, o159 P) :: (nat_lit 161, o161 P) :: (nat_lit 162, o162 P) :: (nat_lit 163, o163 P) :: (nat_lit 165, o165 P) :: (nat_lit 166, o166 P) :: (nat_lit 168, o168 P) :: (nat_lit 169, o169 P) :: (nat_lit 170, o170 P) :: (nat_lit 173, o173 P) :: (nat_lit 175, o175 P) :: (nat_lit 176, o176 P) :: (nat_lit 178, o178 P) :: (nat_lit 179, o179 P) :: (nat_lit 180, o180 P) :: (nat_lit 182, o182 P) :: (nat_lit 183, o183 P) :: (nat_lit 185, o185 P) :: (nat_lit 186, o186 P) :: (nat_lit 187, o187 P) :: (nat_lit 190, o190 P) :: (nat_lit 191, o191 P) :: (nat_lit 192, o192 P) :: (nat_lit 194, o194 P) :: (nat_lit 195, o195 P) :: (nat_lit 197, o197 P) :: (nat_lit 198, o198 P) :: (nat_lit 199, o199 P) :: (nat_lit 201, o201 P) :: (nat_lit 202, o202 P) :: (nat_lit 204, o204 P) :: (nat_lit 205, o205 P) :: (nat_lit 206, o206 P) :: (nat_lit 208, o208 P) :: (nat_lit 209, o209 P) :: (nat_lit 211, o211 P) :: (nat_lit 212, o212 P) :: (nat_lit 213, o213 P) :: (nat_lit 216, o216 P) :: (nat_lit 217, o217 P) :: (nat_lit 218, o218 P) :: (nat_lit 221, o221 P) :: (nat_lit 222, o222 P) :: (nat_lit 223, o223 P) :: (nat_lit 226, o226 P) :: (nat_lit 227, o227 P) :: (nat_lit 228, o228 P) :: (nat_lit 231, o231 P) :: (nat_lit 232, o232 P) :: []
noncomputable def kas : List Nat := [nat_lit 2, nat_lit 3, nat_lit 32, nat_lit 34, nat_lit 35, nat_lit 37, nat_lit 38, nat_lit 39, nat_lit 41, nat_lit 42, nat_lit 44, nat_lit 45, nat_lit 46, nat_lit 49, nat_lit 54, nat_lit 55, nat_lit 56, nat_lit 58, nat_lit 59, nat_lit 61, nat_lit 62, nat_lit 63, nat_lit 65, nat_lit 66, nat_lit 68, nat_lit 69, nat_lit 70, nat_lit 71, nat_lit 73, nat_lit 74, nat_lit 76, nat_lit 77, nat_lit 78, nat_lit 79, nat_lit 81, nat_lit 82, nat_lit 84, nat_lit 85, nat_lit 86, nat_lit 88, nat_lit 89, nat_lit 91, nat_lit 92, nat_lit 93, nat_lit 95, nat_lit 96, nat_lit 98, nat_lit 99, nat_lit 100, nat_lit 101, nat_lit 103, nat_lit 104, nat_lit 106, nat_lit 107, nat_lit 108, nat_lit 110, nat_lit 111, nat_lit 113, nat_lit 114, nat_lit 115, nat_lit 116, nat_lit 118, nat_lit 119, nat_lit 121, nat_lit 122, nat_lit 123, nat_lit 124, nat_lit 125, nat_lit 126, nat_lit 127, nat_lit 133, nat_lit 134, nat_lit 135, nat_lit 137, nat_lit 138, nat_lit 140, nat_lit 141, nat_lit 142, nat_lit 144, nat_lit 145, nat_lit 147, nat_lit 148, nat_lit 149, nat_lit 151, nat_lit 152, nat_lit 154, nat_lit 155, nat_lit 156, nat_lit 158, nat_lit 159, nat_lit 161, nat_lit 162, nat_lit 163, nat_lit 165, nat_lit 166, nat_lit 168, nat_lit 169, nat_lit 170, nat_lit 173, nat_lit 175, nat_lit 176, nat_lit 178, nat_lit 179, nat_lit 180, nat_lit 182, nat_lit 183, nat_lit 185, nat_lit 186, nat_lit 187, nat_lit 190, nat_lit 191, nat_lit 192, nat_lit 194, nat_lit 195, nat_lit 197, nat_lit 198, nat_lit 199, nat_lit 201, nat_lit 202, nat_lit 204, nat_lit 205, nat_lit 206, nat_lit 208, nat_lit 209, nat_lit 211, nat_lit 212, nat_lit 213, nat_lit 216, nat_lit 217, nat_lit 218, nat_lit 221, nat_lit 222, nat_lit 223, nat_lit 226, nat_lit 227, nat_lit 228, nat_lit 231, nat_lit 232]
noncomputable def loo : List Str := [Str.ofString "_wall", Str.ofString "_strip_exception_details", Str.ofString "EMPTYSTRING", Str.ofString "_Accumulator", Str.ofString "IPV4_RE", Str.ofString "is_HDN", Str.ofString "domain_match", Str.ofString "liberal_is_HDN", Str.ofString "user_domain_match", Str.ofString "reach", Str.ofString "ENDMARKER", Str.ofString "LPAR", Str.ofString "RPAR", Str.ofString "LSQB", Str.ofString "RSQB", Str.ofString "COLON", Str.ofString "COMMA", Str.ofString "SEMI", Str.ofString "PLUS", Str.ofString "MINUS", Str.ofString "STAR", Str.ofString "SLASH", Str.ofString "VBAR", Str.ofString "AMPER", Str.ofString "LESS", Str.ofString "GREATER", Str.ofString "EQUAL", Str.ofString "DOT", Str.ofString "PERCENT", Str.ofString "LBRACE", Str.ofString "RBRACE", Str.ofString "EQEQUAL", Str.ofString "NOTEQUAL", Str.ofString "LESSEQUAL", Str.ofString "GREATEREQUAL", Str.ofString "TILDE", Str.ofString "CIRCUMFLEX", Str.ofString "LEFTSHIFT", Str.ofString "RIGHTSHIFT", Str.ofString "DOUBLESTAR", Str.ofString "PLUSEQUAL", Str.ofString "MINEQUAL", Str.ofString "STAREQUAL", Str.ofString "SLASHEQUAL", Str.ofString "PERCENTEQUAL", Str.ofString "AMPEREQUAL", Str.ofString "VBAREQUAL", Str.ofString "CIRCUMFLEXEQUAL", Str.ofString "LEFTSHIFTEQUAL", Str.ofString "RIGHTSHIFTEQUAL", Str.ofString "DOUBLESTAREQUAL", Str.ofString "DOUBLESLASH", Str.ofString "DOUBLESLASHEQUAL", Str.ofString "AT", Str.ofString "ATEQUAL", Str.ofString "RARROW", Str.ofString "ELLIPSIS", Str.ofString "COLONEQUAL", Str.ofString "EXCLAMATION", Str.ofString "NT_OFFSET", Str.ofString "EXACT_TOKEN_TYPES", Str.ofString "ISNONTERMINAL", Str.ofString "ISEOF", Str.ofString "_law_leads", Str.ofString "_law_rings", Str.ofString "_law_read", Str.ofString "_law_beside", Str.ofString "_law_names", Str.ofString "_law_bare", Str.ofString "_law_exchange"]
noncomputable def q1 : Program := view PySem.Challenge.pw_xl0024_01 [0, 76]
end Mine
end
section
open PySem PySem.W PyProof.Rows
set_option maxRecDepth 100000
namespace Mine
noncomputable def toBT : List Obj → Nat → BT → Option BT
  | [], _, t => some t
  | o :: r, n, t => match ((t.ins n o).get n).isSome with
    | true => toBT r (n + 1) (t.ins n o)
    | false => none
theorem toBT_abs {life : Life} : ∀ (l : List Obj) (n : Nat) (t t' : BT), toBT l n t = some t' → absHeap t' (n + l.length) life = ⟨(absHeap t n life).objs ++ l.toArray, life⟩
  | [], n, t, t', h => by
    cases Option.some.inj h
    simp [absHeap]
  | o :: r, n, t, t', h => by
    unfold toBT at h
    split at h
    · rename_i e
      have := toBT_abs (life := life) r (n + 1) _ t' h
      rw [absHeap_ins e] at this
      rw [List.length_cons, show n + (r.length + 1) = n + 1 + r.length by omega, this]
      simp [Heap.push]
    · cases h
noncomputable def ofSh (s : Shared) : Option SharedT := (toBT s.heap.objs.toList 0 .nil).map fun t => ⟨t, s.heap.objs.size, s.heap.life, s.gens, s.drawn, s.toks, s.os⟩
theorem ofSh_abs {s : Shared} {t : SharedT} (h : ofSh s = some t) : t.abs = s := by
  obtain ⟨b, h1, rfl⟩ := Option.map_eq_some_iff.mp h
  have := toBT_abs (life := s.heap.life) _ _ _ _ h1
  obtain ⟨⟨objs, life⟩, gens, drawn, toks, os⟩ := s
  show (⟨absHeap b objs.size life, gens, drawn, toks, os⟩ : Shared) = _
  rw [Nat.zero_add, Array.length_toList] at this
  rw [this]
  simp [absHeap, BT.list]
noncomputable def topRunT (tb : String → Option Builtin) (p : Program) (w : World) (n₀ : Nat) (ann : Option Value) : Nat → SharedT → Thread → Option SharedT
  | 0, _, _ => none
  | n + 1, s, t => match through t with
    | true => some s
    | false => match stepOk n₀ ann t with
      | false => none
      | true => match stepT (denote tb) p w s t with
        | some (s', t') => topRunT tb p w n₀ ann n s' t'
        | none => none
theorem topRunT_of {tb : String → Option Builtin} {p : Program} {w : World} {n₀ : Nat} {ann : Option Value} : ∀ {n : Nat} {s r : SharedT} {t : Thread}, topRunT tb p w n₀ ann n s t = some r → topRun tb p w n₀ ann n s.abs t = some r.abs
  | 0, _, _, _, h => by cases h
  | n + 1, s, r, t, h => by
    unfold topRunT at h
    unfold topRun
    split at h
    · cases Option.some.inj h; rename_i e; rw [e]
    · rename_i e; rw [e]
      split at h
      · cases h
      · rename_i e'; rw [e']
        split at h
        · rename_i s' t' e2
          dsimp only
          rw [stepT_spec e2]
          exact topRunT_of h
        · cases h
noncomputable def topFromT (tb : String → Option Builtin) (p : Program) (w : World) (N : Nat) (s₀ : Shared) : Option Shared :=
  match s₀.heap.isNs mainGlobals && s₀.gens.size == 0 with
  | true => (ofSh s₀).bind fun t₀ => (topRunT tb p w s₀.heap.objs.size (s₀.heap.nsMap mainGlobals "__annotations__") N t₀ (topStub p)).bind fun t₁ =>
    match staticsOk (importedModules p.main.body) s₀.heap t₁.abs.heap && namesBound p t₁.abs.heap && gensDone t₁.abs && laidKept s₀.heap t₁.abs.heap with
    | true => some t₁.abs
    | false => none
  | false => none
theorem topFromT_of {tb : String → Option Builtin} {p : Program} {w : World} {N : Nat} {s₀ s : Shared} (h : topFromT tb p w N s₀ = some s) : topFrom tb p w N s₀ = some s := by
  unfold topFromT at h
  unfold topFrom
  split at h
  · rename_i e
    rw [e]
    obtain ⟨t₀, h1, h2⟩ := Option.bind_eq_some_iff.mp h
    obtain ⟨t₁, h3, h4⟩ := Option.bind_eq_some_iff.mp h2
    have := topRunT_of h3
    rw [ofSh_abs h1] at this
    dsimp only
    rw [this]
    exact h4
  · cases h
theorem left_of {α : Type} {p q : Program} {loose : List Str} {Xt : Shared → Bool} {Yf : Shared → α} {Ya : World → α} {N : Nat} {g0 : Bool} (row : String)
    (hf : ∀ w : World, ((fencedOpening treeTable p (w.withFollow row false) N).bind (topFromT treeTable p (w.withFollow row false) N)).map (fun s => (openSeen q loose (importedModules p.main.body) Xt g0 s, Yf s)) = some (openGood q loose, Ya (w.withFollow row false)))
    (ht : ∀ w : World, ((fencedOpening treeTable p (w.withFollow row true) N).bind (topFromT treeTable p (w.withFollow row true) N)).map (fun s => (openSeen q loose (importedModules p.main.body) Xt g0 s, Yf s)) = some (openGood q loose, Ya (w.withFollow row true))) :
    LeftO p q loose Xt Yf Ya N g0 := by
  have go : ∀ w : World, ((fencedOpening treeTable p w N).bind (topFromT treeTable p w N)).map (fun s => (openSeen q loose (importedModules p.main.body) Xt g0 s, Yf s)) = some (openGood q loose, Ya w) → (openEnds treeTable p w N).map (fun s => (openSeen q loose (importedModules p.main.body) Xt g0 s, Yf s)) = some (openGood q loose, Ya w) := by
    intro w h
    obtain ⟨s, h1, h2⟩ := Option.map_eq_some_iff.mp h
    obtain ⟨s₀, h3, h4⟩ := Option.bind_eq_some_iff.mp h1
    unfold openEnds
    rw [h3]
    show (topFrom treeTable p w N s₀).map _ = _
    rw [topFromT_of h4]
    exact congrArg some h2
  exact byRow2 row (P := fun w => (openEnds treeTable p w N).map (fun s => (openSeen q loose (importedModules p.main.body) Xt g0 s, Yf s)) = some (openGood q loose, Ya w)) (fun w => go _ (hf w)) (fun w => go _ (ht w))
end Mine
end
section
open PySem PySem.W PyProof.Rows
set_option maxRecDepth 100000
namespace Mine
theorem leftm_false (w : World) : ((fencedOpening treeTable PySem.Challenge.pw_xl0024_01 (w.withFollow "special-get-raises" false) 5242).bind (topFromT treeTable PySem.Challenge.pw_xl0024_01 (w.withFollow "special-get-raises" false) 5242)).map (fun s => (openSeen q1 loo (importedModules PySem.Challenge.pw_xl0024_01.main.body) (fun s => xlAt q1 [] s && recOk (RowW.records PySem.Challenge.rw_xl0024_01.row.toRowW) s) true s, (kas.map s.heap.get?, [87, 94].map s.heap.get?))) = some (openGood q1 loo, ((K (w.withFollow "special-get-raises" false).params).map (fun p => some p.2), [87, 94].map fun _ => some (tabObj #[]))) := by kernel_rfl
end Mine
end
section
open PySem PySem.W PyProof.Rows
set_option maxRecDepth 100000
namespace Mine
theorem leftm_true (w : World) : ((fencedOpening treeTable PySem.Challenge.pw_xl0024_01 (w.withFollow "special-get-raises" true) 5242).bind (topFromT treeTable PySem.Challenge.pw_xl0024_01 (w.withFollow "special-get-raises" true) 5242)).map (fun s => (openSeen q1 loo (importedModules PySem.Challenge.pw_xl0024_01.main.body) (fun s => xlAt q1 [] s && recOk (RowW.records PySem.Challenge.rw_xl0024_01.row.toRowW) s) true s, (kas.map s.heap.get?, [87, 94].map s.heap.get?))) = some (openGood q1 loo, ((K (w.withFollow "special-get-raises" true).params).map (fun p => some p.2), [87, 94].map fun _ => some (tabObj #[]))) := by kernel_rfl
end Mine
end
section
set_option maxRecDepth 100000
namespace Mine
namespace Re
open PySem.Sre
noncomputable def C : Array Nat := #[14, 8, 1, 2, 4294967295, 1, 1, 46, 0, 16, 46, 24, 9, 1, 4294967295, 13, 4, 8, 0, 0, 1, 6, 5, 1]
noncomputable def S (T : Array Nat) (pc pos : Nat) (fr : List Frame) (wt : Nat) (an : Option Bool) (st hd : Nat) (ou : Bool) (seen : Seen) (oc : Option Outcome) : M :=
  { code := C, text := T, lim := T.size, start := st, lastStart := T.size, wholeText := false, mustAdvance := false, pc := pc, pos := pos, handed := hd, outermost := ou, marks := #[], lastmark := -1, lastindex := -1, loops := #[], inner := none, frames := fr, weight := wt, answer := an, seen := seen, outcome := oc }
variable {T : Array Nat} {pc pos st hd wt : Nat} {fr : List Frame} {ou : Bool} {seen : Seen}
theorem lit_out (h : T.size ≤ pos) : ∃ seen', (S T 9 pos fr wt none st hd ou seen none).step = S T 9 pos fr wt (some false) st hd ou seen' none := by
  refine ⟨seen.add 16, ?_⟩
  show (if pos ≥ T.size then _ else _) = _
  rw [if_pos h]; rfl
theorem lit_no (h : pos < T.size) (hc : T.getD pos 0 ≠ 46) : ∃ seen', (S T 9 pos fr wt none st hd ou seen none).step = S T 9 pos fr wt (some false) st hd ou seen' none := by
  refine ⟨seen.add 16, ?_⟩
  show (if pos ≥ T.size then _ else match (Except.ok (T.getD pos 0 == 46, seen.add 16) : Except String (Bool × Seen)) with | .error why => _ | .ok (false, seen) => _ | .ok (true, seen) => _) = _
  rw [if_neg (by omega), show (T.getD pos 0 == 46) = false from by simpa using hc]; rfl
theorem lit_yes (h : pos < T.size) (hc : T.getD pos 0 = 46) : ∃ seen', (S T 9 pos fr wt none st hd ou seen none).step = S T 11 (pos + 1) fr wt none st hd ou seen' none := by
  refine ⟨seen.add 16, ?_⟩
  show (if pos ≥ T.size then _ else match (Except.ok (T.getD pos 0 == 46, seen.add 16) : Except String (Bool × Seen)) with | .error why => _ | .ok (false, seen) => _ | .ok (true, seen) => _) = _
  rw [if_neg (by omega), show (T.getD pos 0 == 46) = true from by simpa using hc]; rfl
/-- how many figures stand from p on, n looked at -/
noncomputable def dig (T : Array Nat) : (n p : Nat) → Nat
  | 0, _ => 0
  | n + 1, p => if isDigit (T.getD p 0) then dig T n (p + 1) + 1 else 0
theorem run_eq : ∀ (n p found : Nat) (seen : Seen), ∃ seen', run C T 15 n p found seen = .ok (found + dig T n p, seen')
  | 0, p, found, seen => ⟨seen, rfl⟩
  | n + 1, p, found, seen => by
    have e : run C T 15 (n + 1) p found seen = (match inSet C (T.getD p 0) 24 17 true seen with | .ok (yes, seen) => if yes then run C T 15 n (p + 1) (found + 1) seen else .ok (found, seen) | .error e => .error e) := by
      show (Bind.bind (inSet C (T.getD p 0) 24 17 true seen) _) = _
      cases inSet C (T.getD p 0) 24 17 true seen <;> rfl
    have e2 : ∃ seen', inSet C (T.getD p 0) 24 17 true seen = .ok (isDigit (T.getD p 0), seen') := by
      cases hd : isDigit (T.getD p 0) with
      | true =>
        refine ⟨(seen.add 8).add 55, ?_⟩
        show (Bind.bind ((Except.ok (isDigit (T.getD p 0)) : Except String Bool).map (· != (0 % 2 == 1))) _) = _
        rw [hd]; rfl
      | false =>
        refine ⟨((seen.add 8).add 55).add 0, ?_⟩
        show (Bind.bind ((Except.ok (isDigit (T.getD p 0)) : Except String Bool).map (· != (0 % 2 == 1))) _) = _
        rw [hd]; rfl
    obtain ⟨s1, e2⟩ := e2
    rw [e, e2]
    cases hd : isDigit (T.getD p 0) with
    | true =>
      obtain ⟨s2, e3⟩ := run_eq n (p + 1) (found + 1) s1
      refine ⟨s2, ?_⟩
      simp only [if_true, dig, hd]
      rw [e3]
      congr 2; omega
    | false =>
      refine ⟨s1, ?_⟩
      have e0 : dig T (n + 1) p = 0 := by show (if isDigit (T.getD p 0) then _ else 0) = 0; rw [hd]; rfl
      rw [e0]; rfl
theorem rep_room (h : T.size < pos + 1) : ∃ seen', (S T 11 pos fr wt none st hd ou seen none).step = S T 11 pos fr wt (some false) st hd ou seen' none := by
  refine ⟨seen.add 24, ?_⟩
  show (if ((1 : Nat) : Int) > (T.size : Int) - (pos : Int) then _ else _) = _
  rw [if_pos (by omega)]; rfl
theorem rep_none (h : pos + 1 ≤ T.size) (hm : T.size ≤ 16777216) (hd0 : dig T (T.size - pos) pos = 0) : ∃ seen', (S T 11 pos fr wt none st hd ou seen none).step = S T 11 pos fr wt (some false) st hd ou seen' none := by
  obtain ⟨s2, e⟩ := run_eq (T := T) (T.size - pos) pos 0 ((seen.add 24).add 13)
  refine ⟨s2, ?_⟩
  show (if ((1 : Nat) : Int) > (T.size : Int) - (pos : Int) then _ else match run C T 15 (min 4294967295 ((T.size : Int) - (pos : Int)).toNat) pos 0 ((seen.add 24).add 13) with | .error why => _ | .ok (n, seen) => _) = _
  rw [if_neg (by omega), show min 4294967295 ((T.size : Int) - (pos : Int)).toNat = T.size - pos from by omega, e, hd0]
  rfl
noncomputable def gb (pos cnt : Nat) (ou : Bool) : Frame := { wait := .giveBack, pc := 11, pos := pos, outermost := ou, count := (cnt : Int), kept := { lastmark := -1, lastindex := -1, whole := false, marks := #[] } }
theorem rep_some (h : pos + 1 ≤ T.size) (hm : T.size ≤ 16777216) (hw : wt + 1 ≤ 16777216) {d : Nat} (hd0 : dig T (T.size - pos) pos = d + 1) :
    ∃ seen', (S T 11 pos fr wt none st hd ou seen none).step = S T 21 (pos + (d + 1)) (gb (pos + (d + 1)) (d + 1) ou :: fr) (wt + 1) none st (pos + (d + 1)) ou seen' none := by
  obtain ⟨s2, e⟩ := run_eq (T := T) (T.size - pos) pos 0 ((seen.add 24).add 13)
  refine ⟨s2, ?_⟩
  show (if ((1 : Nat) : Int) > (T.size : Int) - (pos : Int) then _ else match run C T 15 (min 4294967295 ((T.size : Int) - (pos : Int)).toNat) pos 0 ((seen.add 24).add 13) with | .error why => _ | .ok (n, seen) => _) = _
  rw [if_neg (by omega), show min 4294967295 ((T.size : Int) - (pos : Int)).toNat = T.size - pos from by omega, e, hd0]
  show (if 0 + (d + 1) < 1 then _ else _) = _
  rw [if_neg (by omega)]
  show (if wt + 1 + 0 > 16777216 then _ else _) = _
  rw [if_neg (by omega), Nat.zero_add]
  rfl
noncomputable def ends (T : Array Nat) (p : Nat) : Bool := p == T.size || (p + 1 == T.size && T.getD p 0 == 10)
theorem at_step : ∃ seen', (S T 21 pos fr wt none st hd ou seen none).step = (if ends T pos then S T 23 pos fr wt none st hd ou seen' none else S T 21 pos fr wt (some false) st hd ou seen' none) := by
  refine ⟨(seen.add 6).add 48, ?_⟩
  rfl
theorem succ_step : ∃ seen', (S T 23 pos fr wt none st hd ou seen none).step = S T 23 pos fr wt (some true) st pos ou seen' none := by
  refine ⟨seen.add 1, ?_⟩
  cases ou <;> rfl
theorem fin_step {b : Bool} : (S T pc pos [] wt (some b) st hd ou seen none).step = S T pc pos [] wt (some b) st hd ou seen (some (if b then .matched else .failed)) := rfl
noncomputable def ns (s : Nat) (first : Bool) : Frame := { wait := .nextStart, pc := 9, pos := s, outermost := first }
theorem start_yes {s : Nat} {b : Bool} : (S T pc pos [ns s b] wt (some true) st hd ou seen none).step = S T 9 s [] (wt - 1) (some true) st hd b seen none := rfl
theorem start_end {s : Nat} {b : Bool} (h : ¬ s < T.size) : (S T pc pos [ns s b] wt (some false) st hd ou seen none).step = S T 9 s [] (wt - 1) (some false) st hd b seen none := by
  show (if s < T.size then _ else _) = _
  rw [if_neg h]; rfl
theorem start_on {s : Nat} {b : Bool} (h : s < T.size) (hw : wt ≤ 100) : (S T pc pos [ns s b] wt (some false) st hd ou seen none).step = S T 9 (s + 1) [ns (s + 1) false] (wt - 1 + 1) none (s + 1) (s + 1) false seen none := by
  show (if s < T.size then _ else _) = _
  rw [if_pos h]
  show (if wt - 1 + 1 + 0 > 16777216 then _ else _) = _
  rw [if_neg (by omega)]
  rfl
theorem gb_yes {p cnt : Nat} : (S T pc pos (gb p cnt ou :: fr) (wt + 1) (some true) st hd ou seen none).step = S T 11 p fr wt (some true) st hd ou seen none := rfl
theorem gb_no {p : Nat} : (S T pc pos (gb p 1 ou :: fr) (wt + 1) (some false) st hd ou seen none).step = S T 11 p fr wt (some false) st hd ou seen none := rfl
theorem gb_on {p c : Nat} (hw : wt + 1 ≤ 16777216) : (S T pc pos (gb p (c + 2) ou :: fr) (wt + 1) (some false) st hd ou seen none).step = S T 21 (p - 1) (gb (p - 1) (c + 1) ou :: fr) (wt + 1) none st (p - 1) ou seen none := by
  have e : gb (p - 1) (c + 1) ou = { wait := .giveBack, pc := 11, pos := p - 1, outermost := ou, count := ((c + 2 : Nat) : Int) - 1, kept := { lastmark := -1, lastindex := -1, whole := false, marks := #[] } } := by
    unfold gb; rw [show ((c + 2 : Nat) : Int) - 1 = ((c + 1 : Nat) : Int) from by omega]
  rw [e]
  show (if ((c + 2 : Nat) : Int) - 1 < ((1 : Nat) : Int) then _ else _) = _
  rw [if_neg (by omega)]
  show (if wt + 1 > 16777216 then _ else _) = _
  rw [if_neg (by omega)]
  rfl

theorem runFor_add : ∀ (a b : Nat) (m : M), M.runFor (a + b) m = M.runFor b (M.runFor a m)
  | 0, b, m => by rw [Nat.zero_add]; rfl
  | a + 1, b, m => by
    rw [show a + 1 + b = (a + b) + 1 from by omega]
    show (if m.outcome.isSome then m else M.runFor (a + b) m.step) = M.runFor b (if m.outcome.isSome then m else M.runFor a m.step)
    cases h : m.outcome.isSome with
    | true =>
      simp only [if_true]
      cases b with
      | zero => rfl
      | succ b => show _ = (if m.outcome.isSome then m else _); rw [h]; rfl
    | false => simp only [Bool.false_eq_true, if_false]; exact runFor_add a b m.step
/-- within k steps -/
noncomputable def Goes (k : Nat) (m m' : M) : Prop := ∃ j, j ≤ k ∧ M.runFor j m = m'
theorem Goes.refl {m : M} : Goes 0 m m := ⟨0, Nat.le_refl _, rfl⟩
theorem Goes.trans {a b : Nat} {m m' m'' : M} (h : Goes a m m') (h' : Goes b m' m'') : Goes (a + b) m m'' := by
  obtain ⟨j, hj, rfl⟩ := h
  obtain ⟨i, hi, rfl⟩ := h'
  exact ⟨j + i, by omega, runFor_add j i m⟩
theorem Goes.le {a b : Nat} {m m' : M} (h : Goes a m m') (hl : a ≤ b) : Goes b m m' := by
  obtain ⟨j, hj, e⟩ := h; exact ⟨j, by omega, e⟩
theorem Goes.one {m m' : M} (ho : m.outcome = none) (e : m.step = m') : Goes 1 m m' := ⟨1, Nat.le_refl _, by
  show (if m.outcome.isSome then m else M.runFor 0 m.step) = m'
  rw [ho]; exact e⟩
noncomputable def tail (T : Array Nat) (p : Nat) : Nat → Bool
  | 0 => false
  | d + 1 => ends T (p + (d + 1)) || tail T p d
theorem back : ∀ (d p : Nat) (fr : List Frame) (wt hd : Nat) (seen : Seen), wt + 1 ≤ 16777216 → ∃ pc' pos' hd' seen', Goes (3 * (d + 1)) (S T 21 (p + (d + 1)) (gb (p + (d + 1)) (d + 1) ou :: fr) (wt + 1) none st hd ou seen none) (S T pc' pos' fr wt (some (tail T p (d + 1))) st hd' ou seen' none)
  | d, p, fr, wt, hd, seen, hw => by
    obtain ⟨s1, e1⟩ := at_step (T := T) (pos := p + (d + 1)) (st := st) (hd := hd) (wt := wt + 1) (fr := gb (p + (d + 1)) (d + 1) ou :: fr) (ou := ou) (seen := seen)
    cases he : ends T (p + (d + 1)) with
    | true =>
      rw [he] at e1
      simp only [if_true] at e1
      obtain ⟨s2, e2⟩ := succ_step (T := T) (pos := p + (d + 1)) (st := st) (hd := hd) (wt := wt + 1) (fr := gb (p + (d + 1)) (d + 1) ou :: fr) (ou := ou) (seen := s1)
      refine ⟨11, p + (d + 1), p + (d + 1), s2, ?_⟩
      rw [show tail T p (d + 1) = true from by simp [tail, he]]
      exact (((Goes.one rfl e1).trans (Goes.one rfl e2)).trans (Goes.one rfl gb_yes)).le (by omega)
    | false =>
      rw [he] at e1
      simp only [Bool.false_eq_true, if_false] at e1
      cases d with
      | zero =>
        refine ⟨11, p + (0 + 1), hd, s1, ?_⟩
        rw [show tail T p (0 + 1) = false from by simp only [tail, he, Bool.false_or]]
        exact ((Goes.one rfl e1).trans (Goes.one rfl gb_no)).le (by omega)
      | succ d =>
        have e3 := gb_on (T := T) (pc := 21) (pos := p + (d + 1 + 1)) (st := st) (hd := hd) (wt := wt) (fr := fr) (ou := ou) (seen := s1) (p := p + (d + 1 + 1)) (c := d) hw
        rw [show p + (d + 1 + 1) - 1 = p + (d + 1) from by omega] at e3
        obtain ⟨pc', pos', hd', s3, g⟩ := back d p fr wt (p + (d + 1)) s1 hw
        refine ⟨pc', pos', hd', s3, (((Goes.one rfl e1).trans (Goes.one rfl e3)).trans ?_).le (by omega : 1 + 1 + 3 * (d + 1) ≤ 3 * (d + 1 + 1))⟩
        rw [show tail T p (d + 1 + 1) = tail T p (d + 1) from by show (ends T (p + (d + 1 + 1)) || _) = _; rw [he]; rfl]
        exact g
theorem dig_le : ∀ (n p : Nat), dig T n p ≤ n
  | 0, _ => Nat.le_refl _
  | n + 1, p => by
    unfold dig
    have := dig_le n (p + 1)
    split <;> omega
noncomputable def hit (T : Array Nat) (s : Nat) : Bool := decide (s < T.size) && T.getD s 0 == 46 && tail T (s + 1) (dig T (T.size - (s + 1)) (s + 1))
theorem try_at (hm : T.size ≤ 16777216) (s : Nat) (wt : Nat) (hw : wt + 1 ≤ 16777216) : ∃ pc' pos' hd' seen', Goes (3 * T.size + 5) (S T 9 s fr wt none st hd ou seen none) (S T pc' pos' fr wt (some (hit T s)) st hd' ou seen' none) := by
  by_cases h : s < T.size
  · by_cases hc : T.getD s 0 = 46
    · obtain ⟨s1, e1⟩ := lit_yes (T := T) (pos := s) (st := st) (hd := hd) (wt := wt) (fr := fr) (ou := ou) (seen := seen) h hc
      have hh : hit T s = tail T (s + 1) (dig T (T.size - (s + 1)) (s + 1)) := by unfold hit; rw [decide_eq_true h, hc]; simp
      rw [hh]
      by_cases hr : s + 1 + 1 ≤ T.size
      · cases hd0 : dig T (T.size - (s + 1)) (s + 1) with
        | zero =>
          obtain ⟨s2, e2⟩ := rep_none (T := T) (pos := s + 1) (st := st) (hd := hd) (wt := wt) (fr := fr) (ou := ou) (seen := s1) hr hm hd0
          exact ⟨_, _, _, s2, ((Goes.one rfl e1).trans (Goes.one rfl e2)).le (by omega)⟩
        | succ d =>
          obtain ⟨s2, e2⟩ := rep_some (T := T) (pos := s + 1) (st := st) (hd := hd) (wt := wt) (fr := fr) (ou := ou) (seen := s1) hr hm hw hd0
          obtain ⟨pc', pos', hd', s3, g⟩ := back (T := T) (st := st) (ou := ou) d (s + 1) fr wt (s + 1 + (d + 1)) s2 hw
          have := dig_le (T := T) (T.size - (s + 1)) (s + 1)
          exact ⟨pc', pos', hd', s3, (((Goes.one rfl e1).trans (Goes.one rfl e2)).trans g).le (by omega)⟩
      · obtain ⟨s2, e2⟩ := rep_room (T := T) (pos := s + 1) (st := st) (hd := hd) (wt := wt) (fr := fr) (ou := ou) (seen := s1) (by omega)
        have hz : T.size - (s + 1) = 0 := by omega
        rw [hz]
        exact ⟨_, _, _, s2, ((Goes.one rfl e1).trans (Goes.one rfl e2)).le (by omega)⟩
    · obtain ⟨s1, e1⟩ := lit_no (T := T) (pos := s) (st := st) (hd := hd) (wt := wt) (fr := fr) (ou := ou) (seen := seen) h hc
      have hh : hit T s = false := by unfold hit; rw [show (T.getD s 0 == 46) = false from by simpa using hc]; simp
      rw [hh]
      exact ⟨_, _, _, s1, (Goes.one rfl e1).le (by omega)⟩
  · obtain ⟨s1, e1⟩ := lit_out (T := T) (pos := s) (st := st) (hd := hd) (wt := wt) (fr := fr) (ou := ou) (seen := seen) (by omega)
    have hh : hit T s = false := by unfold hit; rw [decide_eq_false h]; simp
    rw [hh]
    exact ⟨_, _, _, s1, (Goes.one rfl e1).le (by omega)⟩
noncomputable def scan (T : Array Nat) : Nat → Nat → Bool
  | 0, s => hit T s
  | k + 1, s => hit T s || scan T k (s + 1)
theorem whole (hm : T.size ≤ 16777216) : ∀ (k s : Nat), s + k = T.size → ∀ (f : Bool) (st hd : Nat) (ou : Bool) (seen : Seen), ∃ m', Goes ((k + 1) * (3 * T.size + 8)) (S T 9 s [ns s f] 1 none st hd ou seen none) m' ∧ m'.outcome = some (if scan T k s then .matched else .failed)
  | k, s, hk, f, st, hd, ou, seen => by
    obtain ⟨pc', pos', hd', s1, g1⟩ := try_at (T := T) (fr := [ns s f]) (st := st) (hd := hd) (ou := ou) (seen := seen) hm s 1 (by omega)
    cases hh : hit T s with
    | true =>
      rw [hh] at g1
      refine ⟨_, ((g1.trans (Goes.one rfl start_yes)).trans (Goes.one rfl fin_step)).le ?_, ?_⟩
      · have : 1 * (3 * T.size + 8) ≤ (k + 1) * (3 * T.size + 8) := Nat.mul_le_mul_right _ (by omega)
        omega
      · show some _ = _
        rw [show scan T k s = true from by cases k <;> simp [scan, hh]]
    | false =>
      rw [hh] at g1
      cases k with
      | zero =>
        refine ⟨_, ((g1.trans (Goes.one rfl (start_end (by omega)))).trans (Goes.one rfl fin_step)).le (by omega), ?_⟩
        show some _ = some (if hit T s then _ else _)
        rw [hh]
      | succ k =>
        obtain ⟨m', g2, ho⟩ := whole hm k (s + 1) (by omega) false (s + 1) (s + 1) false s1
        refine ⟨m', ((g1.trans (Goes.one rfl (start_on (by omega) (by omega)))).trans g2).le ?_, ?_⟩
        · rw [show (k + 1 + 1) * (3 * T.size + 8) = (k + 1) * (3 * T.size + 8) + (3 * T.size + 8) from by rw [Nat.add_mul (k + 1) 1, Nat.one_mul]]
          omega
        · rw [ho, show scan T (k + 1) s = scan T k (s + 1) from by show (hit T s || _) = _; rw [hh]; rfl]
/-- the dotted figures at a text's end, as the engine seeks them -/
noncomputable def ipv4 (T : Array Nat) : Bool := decide (2 ≤ T.size) && scan T T.size 0
theorem search (hm : T.size ≤ 16777216) : ∃ m', Goes ((T.size + 1) * (3 * T.size + 8)) (forSearch C T 0 0 T.size false) m' ∧ m'.outcome = some (if ipv4 T then .matched else .failed) := by
  by_cases h : T.size < 2
  · refine ⟨{ S T 9 0 [] 0 (some false) 0 0 true (({} : Seen).add 14) (some .failed) with lastStart := 0 }, ?_, ?_⟩
    · have e : forSearch C T 0 0 T.size false = { S T 9 0 [] 0 (some false) 0 0 true (({} : Seen).add 14) none with lastStart := 0 } := by
        show (if (decide (0 > T.size) || decide (T.size - 0 < 2)) = true then _ else _) = _
        rw [show (decide (0 > T.size) || decide (T.size - 0 < 2)) = true from by simp; omega]
        rfl
      rw [e]
      refine (Goes.one rfl rfl).le ?_
      have : 1 * (3 * T.size + 8) ≤ (T.size + 1) * (3 * T.size + 8) := Nat.mul_le_mul_right _ (by omega)
      omega
    · unfold ipv4; rw [decide_eq_false (by omega)]; rfl
  · obtain ⟨m', g, ho⟩ := whole (T := T) hm T.size 0 (by omega) true 0 0 true (({} : Seen).add 14)
    refine ⟨m', ?_, ?_⟩
    · have e : forSearch C T 0 0 T.size false = S T 9 0 [ns 0 true] 1 none 0 0 true (({} : Seen).add 14) none := by
        show (if (decide (0 > T.size) || decide (T.size - 0 < 2)) = true then _ else _) = _
        rw [show (decide (0 > T.size) || decide (T.size - 0 < 2)) = false from by simp; omega]
        rfl
      rw [e]; exact g
    · rw [ho]; unfold ipv4; rw [decide_eq_true (by omega)]; rfl
end Re
end Mine
end
section
open PySem PySem.W PyProof.Rows
set_option maxRecDepth 100000
namespace Mine
theorem sub_refl {α : Type} {l : List α} : ∀ p ∈ l, p ∈ l := fun _ h => h
theorem sub_cons {α : Type} {l l' : List α} {a : α} (h : ∀ p ∈ l, p ∈ l') : ∀ p ∈ l, p ∈ a :: l' := fun p hp => List.mem_cons_of_mem _ (h p hp)
namespace Re
open PySem.Builtin PySem.Builtin.Re
theorem pa_pattern : PlainAttrs "re.Pattern" :=
  ⟨⟨"object.__getattribute__", by rw [typeLookup_type, builtinLookup_eq_fast]; kernel_rfl, by decide +kernel⟩, by rw [typeLookup_type, builtinLookup_eq_fast]; kernel_rfl⟩
theorem slot_search : Slot "re.Pattern" "search" "re.Pattern.search" :=
  .of (owner := "re.Pattern") (n := "search") (by rw [typeLookup_type, builtinLookup_eq_fast]; kernel_rfl) (by decide +kernel) (by decide +kernel) (by decide +kernel)
    (by first | exact .inl (by decide +kernel) | exact .inr (by decide +kernel)) (by rw [isSubtype_type]; kernel_rfl)
theorem type_search : typeOf (.builtin "re.Pattern.search") = pure (.type "method_descriptor") := by show builtinType _ = _; rw [builtinType_eq_fast]; kernel_rfl
theorem entry_search : entryFor table "re.Pattern.search" = some «re.Pattern.search» := entryFor_of_tree (by kernel_rfl)
theorem args_search (a b : Value) : argsOk "re.Pattern.search" ⟨[a, b], []⟩ := by unfold argsOk; kernel_rfl

section
variable {M : Model} {A : Around} {E : Value → Shared → Prop} {s : Shared}
theorem drive_wp : ∀ (turns k : Nat) (m m' : Sre.M) (Q : Sre.M → Shared → Prop), Sre.M.runFor k m = m' → m'.outcome.isSome = true → k ≤ 4 * turns → 1 ≤ turns → Q m' s → wpAny M A (reDrive turns m) Q E s
  | 0, _, _, _, _, _, _, _, h, _ => by omega
  | t + 1, k, m, m', Q, e, ho, hk, _, hq => by
    unfold reDrive
    show wpAny M A (if (Sre.M.runFor 4 m).outcome.isSome = true then pure (Sre.M.runFor 4 m) else (do rule "sre.turn"; reDrive t (Sre.M.runFor 4 m))) Q E s
    have stays : ∀ (j : Nat) (m : Sre.M), m.outcome.isSome = true → Sre.M.runFor j m = m := by
      intro j m h
      cases j with
      | zero => rfl
      | succ j => show (if m.outcome.isSome then m else _) = m; rw [h]; rfl
    by_cases h4 : k ≤ 4
    · have e4 : Sre.M.runFor 4 m = m' := by
        rw [show 4 = k + (4 - k) from by omega, runFor_add, e, stays _ _ ho]
      rw [e4, if_pos ho]
      exact wpAny_pure hq
    · have e4 : Sre.M.runFor (k - 4) (Sre.M.runFor 4 m) = m' := by rw [← runFor_add, show 4 + (k - 4) = k from by omega, e]
      by_cases hs : (Sre.M.runFor 4 m).outcome.isSome = true
      · rw [stays _ _ hs] at e4
        rw [if_pos hs, e4]
        exact wpAny_pure hq
      · rw [if_neg hs]
        refine wpAny_bind (wpAny_rule ?_)
        exact drive_wp t (k - 4) _ m' Q e4 ho (by omega) (by omega) hq
theorem rules_wp {body : Nat → PUnit → Sem (ForInStep PUnit)} (hb : ∀ i (Q : ForInStep PUnit → Shared → Prop), Q (.yield ⟨⟩) s → wpAny M A (body i ⟨⟩) Q E s) : ∀ (l : List Nat) (Q : PUnit → Shared → Prop), Q ⟨⟩ s → wpAny M A (forIn l PUnit.unit body) Q E s
  | [], Q, h => wpAny_pure h
  | i :: l, Q, h => by
    rw [List.forIn_cons]
    exact wpAny_bind (hb i _ (rules_wp hb l Q h))
theorem end_wp {m m' : Sre.M} {k : Nat} {b : Bool} {Q : Option Sre.M → Shared → Prop} (g : Goes k m m') (hk : k ≤ 2 ^ 64) (ho : m'.outcome = some (if b then .matched else .failed)) (hq : Q (if b then some m' else none) s) : wpAny M A (reRunToEnd m) Q E s := by
  obtain ⟨j, hj, e⟩ := g
  unfold reRunToEnd
  refine wpAny_bind (drive_wp (2 ^ 64) j m m' _ e (by rw [ho]; rfl) (by omega) (by decide) ?_)
  refine wpAny_bind ?_
  refine rules_wp (fun i Q h => ?_) _ _ ?_
  · split
    · exact wpAny_bind (wpAny_rule (wpAny_pure h))
    · exact wpAny_bind (wpAny_pure (wpAny_pure h))
  rw [ho]
  cases b
  · exact wpAny_pure hq
  · exact wpAny_pure hq
end
section
variable {prog : Program} {w : World} {A : Around} {E : Value → Shared → Prop} {s : Shared} {x : Str} {t : Tok} {h₀ : Heap} {L : Addr} {m : Str → Option Value} {news : List (Addr × Obj)}
theorem tgt (KX : (Mine.K w.params).In s.heap) : Looks (model prog w) s.heap (reTarget "re.Pattern.search" "search" ⟨[.ref 134, .str x t], []⟩) { pattern := .ref 134, string := .str x t, code := C, text := x.cps, kind := 0, groups := 0, pos := 0, lim := min 9223372036854775807 x.cps.size } :=
  Looks.of_peek KX (by kernel_rfl!)
theorem noBool_match : typeLookup (.type "re.Match") "__bool__" = pure none := by rw [typeLookup_type, builtinLookup_eq_fast]; kernel_rfl
theorem noLen_match : typeLookup (.type "re.Match") "__len__" = pure none := by rw [typeLookup_type, builtinLookup_eq_fast]; kernel_rfl
theorem truthy_match {M : Model} {r : Addr} {d : Data} {Q : Bool → Shared → Prop} (hr : s.heap.get? r = some { cls := .type "re.Match", data := d }) (h : Q true s) : wpAny M A (truthy (.ref r)) Q E s := by
  have hT : s.TypeIs (.ref r) "re.Match" := ⟨_, hr, rfl⟩
  unfold truthy
  refine wpAny_bind (m := callSpecial? (.ref r) (Str.ofString "__bool__")) (wpAny_bind (wpAny_specialOf hT noBool_match (wpAny_pure ?_)))
  refine wpAny_bind (wpAny_specialOf hT noLen_match ?_)
  exact wpAny_pure h
theorem pat_at (w : World) : ∃ o, (Mine.K w.params).lookup 134 = some o ∧ o.cls = .type "re.Pattern" ∧ o.dict = none := by
  have e : ((Mine.K w.params).lookup 134).map (fun o => (o.cls, o.dict)) = some (.type "re.Pattern", none) := by kernel_rfl!
  obtain ⟨o, ho, e2⟩ := Option.map_eq_some_iff.mp e
  exact ⟨o, ho, congrArg Prod.fst e2, congrArg Prod.snd e2⟩
theorem getMethod_search {M : Model} {pl : Sem Bool} {Q : Value × List Value → Shared → Prop} (F : Fr h₀ L s.heap m) (KX₀ : (Mine.K w.params).In h₀) (h : Q (.builtin "re.Pattern.search", [.ref 134]) s) :
    wpAny M A (getMethod (.ref 134) "search" pl) Q E s := by
  obtain ⟨o, ho, hc, hd⟩ := pat_at w
  exact getMethod_builtin ⟨o, (KX₀.keeps F.keep) _ _ ho, hc⟩ pa_pattern slot_search type_search (fun a e => by cases e; exact ⟨o, (KX₀.keeps F.keep) _ _ ho, hd⟩) h
theorem call_search {Q : Value → Shared → Prop} (F : Fr h₀ L s.heap m) (N : News h₀ L s.heap news) (KX₀ : (Mine.K w.params).In h₀) (hx : x.length ≤ 16777216)
    (hn : ipv4 x.cps = false → Q .none s) (hy : ipv4 x.cps = true → ∀ h' r d, Fr h₀ L h' m → News h₀ L h' ((r, { cls := .type "re.Match", data := d }) :: news) → Q (.ref r) { s with heap := h' }) :
    wpAny (model prog w) A (call (.builtin "re.Pattern.search") [.ref 134, .str x t]) Q E s := by
  have KX := KX₀.keeps F.keep
  obtain ⟨o, ho, hc, _⟩ := pat_at w
  have hT : s.TypeIs (.ref 134) "re.Pattern" := ⟨o, KX _ _ ho, hc⟩
  refine call_meetsIn (S := fun _ R s' => s' = s ∧ R = wants Q E) slot_search hT entry_search (args_search _ _) ?_ ⟨rfl, rfl⟩
  refine MeetsIn.of_wp ?_
  rintro A' R s' ⟨rfl, rfl⟩
  unfold «re.Pattern.search»
  refine wpAny_bind ((tgt KX).here ?_)
  unfold reAnswer
  refine wpAny_bind ?_
  show wpAny _ _ (reRunToEnd (Sre.forSearch C x.cps 0 0 (min 9223372036854775807 x.cps.size) false)) _ _ _
  have hsz : x.cps.size ≤ 16777216 := hx
  rw [show min 9223372036854775807 x.cps.size = x.cps.size from by omega]
  obtain ⟨m', g, hout⟩ := search (T := x.cps) hsz
  refine end_wp g ?_ hout ?_
  · have h1 : (x.cps.size + 1) * (3 * x.cps.size + 8) ≤ 16777217 * 50331656 := Nat.mul_le_mul (by omega) (by omega)
    exact Nat.le_trans h1 (by decide)
  · cases hb : ipv4 x.cps with
    | false => exact wpAny_pure ⟨_, rfl, hn hb⟩
    | true =>
      refine wpAny_bind ?_
      unfold reNewMatch
      refine wpAny_bind (wpAny_newObj_type ?_ (Nat.le_of_ble_eq_true rfl))
      refine wpAny_newObj_type (wpAny_pure ⟨_, rfl, ?_⟩) (Nat.le_of_ble_eq_true rfl)
      have F1 := F.push { cls := .type "tuple", data := .seq [rawInt ↑m'.start, rawInt ↑m'.handed].toArray }
      have N1 := N.push F { cls := .type "tuple", data := .seq [rawInt ↑m'.start, rawInt ↑m'.handed].toArray }
      exact hy hb _ _ _ (F1.push _) fun p hp => (N1.push F1 _) p (by
        rcases List.mem_cons.mp hp with rfl | hp
        · exact List.mem_cons_self
        · exact List.mem_cons_of_mem _ (List.mem_cons_of_mem _ hp))
end
end Re
end Mine
end
section
open PySem PySem.W PySem.Calls PyProof.Rows Builtin
set_option maxRecDepth 100000
set_option maxHeartbeats 4000000
namespace Mine
/-- the object of a pile: an object of the list's own subclass -/
noncomputable abbrev pileO (dx : Addr) (items : Array Value) (n : Nat) : Obj := { cls := .ref 125, dict := some dx, data := .seq items n, slots := #[] }
section
variable {prog : Program} {w : World} {h : Heap} {A : Around} {R : Result → Shared → Prop} {g : Array GenState} {d : Drawn} {t : Nat} {os : OsState}
theorem c_get (X : (K w.params).In h) : h.get? 125 = some (o125 w.params) := X _ _ (by kernel_rfl)
theorem c_cls (X : (K w.params).In h) : Looks (model prog w) h (mroOf (.ref 125)) [.ref 125, .type "list", .type "object"] := by
  obtain ⟨cd, hc, hm⟩ : ∃ cd, clsIn (K w.params) 125 = some cd ∧ cd.mro = [.ref 125, .type "list", .type "object"] := ⟨_, rfl, rfl⟩
  rw [← hm]
  exact (looks_clsIn X hc).andThen .now
theorem c_made (X : (K w.params).In h) : Looks (model prog w) h (Bind.madeBy (.ref 125)) (some "list.__new__") := by
  intro A Q E s k q
  unfold Bind.madeBy
  refine wpAny_bind (c_cls X A _ E s k ?_)
  rw [List.forIn_cons]
  refine wpAny_bind (wpAny_bind (wpAny_bind (wpAny_bind (wpAny_loadPart (k _ _ (c_get X)) (wpAny_pure ?_)))))
  exact wpAny_pure (wpAny_pure (wpAny_pure q))
theorem c_base (X : (K w.params).In h) : Looks (model prog w) h (Bind.staticBase (.ref 125)) (.ref 125) := by
  intro A Q E s k q
  unfold Bind.staticBase
  refine wpAny_bind (c_cls X A _ E s k ?_)
  rw [List.forIn_cons]
  exact wpAny_bind (wpAny_bind (wpAny_bind (c_made X A _ E s k (wpAny_pure (wpAny_pure (wpAny_pure q))))))
theorem c_list (X : (K w.params).In h) : Looks (model prog w) h (isSubtype (.ref 125) (.type "list")) true := looks_subIn X (by kernel_rfl)
theorem c_self (X : (K w.params).In h) : Looks (model prog w) h (isSubtype (.ref 125) (.ref 125)) true := looks_subIn X (by kernel_rfl)
theorem c_call (X : (K w.params).In h) : Looks (model prog w) h (specialOf (.ref 125) "__call__") (some (.builtin "type.__call__")) := looks_specialIn X (by kernel_rfl)
theorem c_typ (X : (K w.params).In h) : Looks (model prog w) h (isInstance (.ref 125) (.type "type")) true := looks_instIn X (by kernel_rfl)
theorem c_init (X : (K w.params).In h) : Looks (model prog w) h (typeLookup (.ref 125) "__init__") (some (.ref 62)) := looks_findIn X (by kernel_rfl)
theorem ln_kind : builtinKind "list.__new__" = some .builtinFn := by decide +kernel
theorem ln_split : splitId "list.__new__" = some ("list", "__new__") := by decide +kernel
theorem ln_row : ∃ s, Manifest.signature? "list.__new__" = s ∧ ∀ rest : List Value, (match s with | some sig => Bind.checkArgs "list.__new__" sig ⟨.ref 125 :: rest, []⟩ | none => pure ()) = pure () := ⟨_, rfl, fun rest => by kernel_rfl⟩
theorem c_obj (X : (K w.params).In h) : ∃ cd sl, h.get? 125 = some ⟨.type "type", none, .cls cd, sl⟩ ∧ cd.hasDel = false ∧ cd.abstract = false ∧ cd.mro.isEmpty = false := ⟨_, _, c_get X, rfl, rfl, rfl⟩
theorem pile_new {rest : List Value} (X : (K w.params).In h)
    (hq : R (.ok (.ret (.ref (h.objs.size + 1)))) ⟨(h.push emptyDict).push (pileO h.objs.size #[] 0), g, d, t, os⟩) :
    codeAny (model prog w) A (.call (.builtin "list.__new__") ⟨.ref 125 :: rest, []⟩) R ⟨h, g, d, t, os⟩ := by
  have mro := c_cls (prog := prog) X
  have made := c_made (prog := prog) X
  have base := c_base (prog := prog) X
  have sub := c_list (prog := prog) X
  obtain ⟨cd, sl, hC, e1, e2, e3⟩ := c_obj X
  refine codeAny_of_tree ?_
  show wpAny _ A.in1 (do checkBuiltinCall "list.__new__" ⟨.ref 125 :: rest, []⟩; again (.builtin "list.__new__" ⟨.ref 125 :: rest, []⟩)) _ _ _
  refine wpAny_bind ?_
  simp only [checkBuiltinCall, ln_kind, ln_split]
  repeat lk
  refine ⟨plainId_quiet F.plain_list_new _, codeAny_builtin_stack F.entry_list_new rfl fun p st => ?_⟩
  have hown := owner_list_new
  have hC' := Heap.get?_push_of_some (pileO h.objs.size #[] 0) (Heap.get?_push_of_some emptyDict hC)
  simp only [hown]
  unfold newDict newObj
  repeat lk
  rw [if_neg (by rw [e1]; decide)]
  refine wpAny_pure (wpAny_pure ?_)
  rw [Heap.size_push]
  exact hq
theorem pile_make {rest : List Value} (X : (K w.params).In h)
    (hq : codeAny (model prog w) (A.under (.builtin "type.__call__" ⟨.ref 125 :: rest, []⟩)) (.call (.ref 62) ⟨.ref (h.objs.size + 1) :: rest, []⟩) (InitBack (h.objs.size + 1) R) ⟨(h.push emptyDict).push (pileO h.objs.size #[] 0), g, d, t, os⟩) :
    codeAny (model prog w) A (.call (.ref 125) ⟨rest, []⟩) R ⟨h, g, d, t, os⟩ := by
  have mro := c_cls (prog := prog) X
  have made := c_made (prog := prog) X
  have self := c_self (prog := prog) X
  have call := c_call (prog := prog) X
  have typ := c_typ (prog := prog) X
  have init := c_init (prog := prog) X
  have hb : Looks (model prog w) h (bindSpecial (.ref 62) (.ref (h.objs.size + 1))) (.ref 62, [.ref (h.objs.size + 1)]) := bind_fn X _ (by kernel_rfl)
  obtain ⟨cd, sl, hC, e1, e2, e3⟩ := c_obj X
  refine codeAny_of_tree ?_
  show wpAny _ _ (callAny (.ref 125) _) _ _ _
  refine nd_load hC ?_
  show wpAny _ _ (callAny.viaDunder (.ref 125) _) _ _ _
  unfold callAny.viaDunder
  refine wpAny_bind (call.at ?_)
  dsimp only
  rw [tc_bind]
  refine wpAny_bind (wpAny_pure (wpAny_bind (wpAny_pure ?_)))
  refine wpAny_pure (a := Fin.again (.call (.builtin "type.__call__") ⟨.ref 125 :: rest, []⟩)) (And.intro rfl ?_)
  refine codeAny_call_builtin_at (Code.quiet_builtin _ (by decide +kernel)) entry_typeCall (check_slot tc_kind tc_split typ (tc_args _ _ _) ?_)
  unfold Builtin.«type.__call__»
  repeat (first | with_reducible refine wpAny_call ?_ | lk)
  refine pile_new X ?_
  have k : ∀ b o, h.get? b = some o → ((h.push emptyDict).push (pileO h.objs.size #[] 0)).get? b = some o := fun b o e => Heap.get?_push_of_some _ (Heap.get?_push_of_some _ e)
  have hx : ((h.push emptyDict).push (pileO h.objs.size #[] 0)).get? (h.objs.size + 1) = some (pileO h.objs.size #[] 0) := by heap_get
  have t1 : Looks (model prog w) ((h.push emptyDict).push (pileO h.objs.size #[] 0)) (typeOf (.ref (h.objs.size + 1))) (.ref 125) := (Looks.ld hx).andThen .now
  have s1 := self.keeps k
  have i1 := init.keeps k
  have b1 := hb.keeps k
  unfold isInstance callSpecial? specialOf
  repeat (first | with_reducible refine wpAny_call ?_ | lk)
  refine codeAny_mono hq fun r s' z => ?_
  rcases r with e | (v | _ | _ | _) <;> first | exact z | exact z.elim | skip
  obtain ⟨rfl, z⟩ := z
  exact wpAny_pure (wpAny_pure z)
end
end Mine
end
section
open PySem PySem.W PySem.Calls PyProof.Rows Builtin
set_option maxRecDepth 100000
set_option maxHeartbeats 4000000
namespace Mine
theorem slot_wd_get : Slot "wrapper_descriptor" "__get__" "wrapper_descriptor.__get__" := .of (owner := "wrapper_descriptor") (n := "__get__") (by rw [typeLookup_type, builtinLookup_eq_fast]; kernel_rfl) (by decide +kernel) (by decide +kernel) (by decide +kernel)
  (by first | exact .inl (by decide +kernel) | exact .inr (by decide +kernel)) (by rw [isSubtype_type]; kernel_rfl)
theorem entry_wd_get : entryFor table "wrapper_descriptor.__get__" = some Builtin.«wrapper_descriptor.__get__» := entryFor_of_tree (by kernel_rfl)
theorem args_wd_get (a b c : Value) : argsOk "wrapper_descriptor.__get__" ⟨[a, b, c], []⟩ := by unfold argsOk; kernel_rfl
noncomputable abbrev wrapO (i : String) (x : Addr) : Obj := { cls := .type "method-wrapper", data := .fields #[.builtin i, .ref x] }
section
variable {prog : Program} {w : World} {h : Heap} {A : Around} {E : Value → Shared → Prop} {g : Array GenState} {d : Drawn} {t : Nat} {os : OsState} {x C : Addr}
theorem wd_init {ox : Obj} {Q : Fin → Shared → Prop} (hx : h.get? x = some ox) (hc : ox.cls = .ref C) (hs : Looks (model prog w) h (isSubtype (.ref C) (.type "list")) true)
    (hq : Q (.done (.ret (.ref h.objs.size))) ⟨h.push (wrapO "list.__init__" x), g, d, t, os⟩) :
    wpAny (model prog w) A (Builtin.«wrapper_descriptor.__get__» ⟨[.builtin "list.__init__", .ref x, .ref C], []⟩) Q E ⟨h, g, d, t, os⟩ := by
  have e : ".".intercalate (("list.__init__".cutAt '.').dropLast) = "list" := by decide +kernel
  have hI : Looks (model prog w) h (isInstance (.ref x) (.type (".".intercalate (("list.__init__".cutAt '.').dropLast)))) true := by
    rw [e]
    have t1 : Looks (model prog w) h (typeOf (.ref x)) (.ref C) := hc ▸ (Looks.ld hx).andThen .now
    exact t1.andThen hs
  unfold Builtin.«wrapper_descriptor.__get__»
  repeat lk
  exact hq
theorem wd_len {ox : Obj} {Q : Fin → Shared → Prop} (hx : h.get? x = some ox) (hc : ox.cls = .ref C) (hs : Looks (model prog w) h (isSubtype (.ref C) (.type "list")) true)
    (hq : Q (.done (.ret (.ref h.objs.size))) ⟨h.push (wrapO "list.__len__" x), g, d, t, os⟩) :
    wpAny (model prog w) A (Builtin.«wrapper_descriptor.__get__» ⟨[.builtin "list.__len__", .ref x, .ref C], []⟩) Q E ⟨h, g, d, t, os⟩ := by
  have e : ".".intercalate (("list.__len__".cutAt '.').dropLast) = "list" := by decide +kernel
  have hI : Looks (model prog w) h (isInstance (.ref x) (.type (".".intercalate (("list.__len__".cutAt '.').dropLast)))) true := by
    rw [e]
    have t1 : Looks (model prog w) h (typeOf (.ref x)) (.ref C) := hc ▸ (Looks.ld hx).andThen .now
    exact t1.andThen hs
  unfold Builtin.«wrapper_descriptor.__get__»
  repeat lk
  exact hq
end
end Mine
end
section
open PySem PySem.W PySem.Calls PyProof.Rows Builtin
set_option maxRecDepth 100000
set_option maxHeartbeats 4000000
namespace Mine
section
variable {prog : Program} {w : World} {A : Around} {E : Value → Shared → Prop} {h : Heap} {g : Array GenState} {d : Drawn} {t : Nat} {os : OsState}
theorem sup_ga {so D x C : Addr} {i : String} {l₀ l : List Value} {K : Frag} {name : Str} {tk : Tok} {Q : Fin → Shared → Prop}
    (hso : h.get? so = some { cls := .type "super", dict := none, data := .fields #[.ref D, .ref x, .ref C], slots := #[] }) (hno : Looks (model prog w) h (opaqueClassAbove (.ref C)) none)
    (hC : Looks (model prog w) h (mroOf (.ref C)) l₀) (hl : (l₀.dropWhile (· != .ref D)).drop 1 = l) (X : K.In h)
    (hf : alongIn K name l = some (some (.builtin i))) (hT : typeOf (.builtin i) = pure (.type "wrapper_descriptor")) (hxC : x ≠ C) (hn : (name == ("__class__" : Str)) = false)
    (hg : ∀ (A' : Around) (Q' : Fin → Shared → Prop) (E' : Value → Shared → Prop), Q' (.done (.ret (.ref h.objs.size))) ⟨h.push (wrapO i x), g, d, t, os⟩ → wpAny (model prog w) A' (Builtin.«wrapper_descriptor.__get__» ⟨[.builtin i, .ref x, .ref C], []⟩) Q' E' ⟨h, g, d, t, os⟩)
    (hq : Q (.done (.ret (.ref h.objs.size))) ⟨h.push (wrapO i x), g, d, t, os⟩) :
    wpAny (model prog w) A (Builtin.«super.__getattribute__» ⟨[.ref so, .str name tk], []⟩) Q E ⟨h, g, d, t, os⟩ := by
  have hlk := slot_wd_get.lookup
  have hne : (Value.ref x == Value.ref C) = false := by simp [hxC]
  have hTf : (⟨h, g, d, t, os⟩ : Shared).TypeIs (.builtin i) "wrapper_descriptor" := hT
  have hdt : ({ cls := .type "super", dict := none, data := .fields #[.ref D, .ref x, .ref C], slots := #[] } : Obj).data = .fields #[.ref D, .ref x, .ref C] := rfl
  have f0 : (#[.ref D, .ref x, .ref C] : Array Value)[0]? = some (.ref D) := rfl
  have f1 : (#[.ref D, .ref x, .ref C] : Array Value)[1]? = some (.ref x) := rfl
  have f2 : (#[.ref D, .ref x, .ref C] : Array Value)[2]? = some (.ref C) := rfl
  unfold Builtin.«super.__getattribute__»
  repeat (first
    | (with_reducible refine wpAny_field hso hdt f0 ?_) | (with_reducible refine wpAny_field hso hdt f1 ?_) | (with_reducible refine wpAny_field hso hdt f2 ?_)
    | (with_reducible refine ks_wpAny_notOpaque hno ?_)
    | (with_reducible refine Looks.at hC ?_; rw [hl])
    | (refine ks_forIn_along X (fun _ _ => rfl) rfl ?_ hf)
    | (with_reducible refine wpAny_typeOf hTf ?_)
    | (with_reducible refine wpAny_call_entry slot_wd_get hTf entry_wd_get ?_ (args_wd_get _ _ _))
    | (with_reducible refine hg _ _ _ ?_)
    | (with_reducible refine ⟨_, rfl, ?_⟩)
    | (simp only [hn, hne, Bool.or_false, Bool.false_eq_true, if_false])
    | wp_step
    | dsimp only)
  all_goals exact hq
theorem sup_method {so D x C : Addr} {i : String} {l₀ l : List Value} {K : Frag} {name : Str} {pl : Sem Bool} {Q : Value × List Value → Shared → Prop}
    (hso : h.get? so = some { cls := .type "super", dict := none, data := .fields #[.ref D, .ref x, .ref C], slots := #[] }) (hno : Looks (model prog w) h (opaqueClassAbove (.ref C)) none)
    (hC : Looks (model prog w) h (mroOf (.ref C)) l₀) (hl : (l₀.dropWhile (· != .ref D)).drop 1 = l) (X : K.In h)
    (hf : alongIn K name l = some (some (.builtin i))) (hT : typeOf (.builtin i) = pure (.type "wrapper_descriptor")) (hxC : x ≠ C) (hn : (name == ("__class__" : Str)) = false)
    (hg : ∀ (A' : Around) (Q' : Fin → Shared → Prop) (E' : Value → Shared → Prop), Q' (.done (.ret (.ref h.objs.size))) ⟨h.push (wrapO i x), g, d, t + 1, os⟩ → wpAny (model prog w) A' (Builtin.«wrapper_descriptor.__get__» ⟨[.builtin i, .ref x, .ref C], []⟩) Q' E' ⟨h, g, d, t + 1, os⟩)
    (hq : Q (.ref h.objs.size, []) ⟨h.push (wrapO i x), g, d, t + 1, os⟩) :
    wpAny (model prog w) A (getMethod (.ref so) name pl) Q E ⟨h, g, d, t, os⟩ := by
  have hlk := F.ks_slot_super_ga.lookup
  have hcan := F.ks_canon_super_ga
  have hT' : ∀ t', (⟨h, g, d, t', os⟩ : Shared).TypeIs (.ref so) "super" := fun _ => ⟨_, hso, rfl⟩
  unfold getMethod
  refine wpAny_bind (wpAny_specialOf (hT' _) hlk ?_)
  show wpAny _ _ (if (Manifest.canonical "super.__getattribute__" != "object.__getattribute__") = true then _ else _) _ _ _
  rw [if_pos hcan]
  unfold getAttr getAttrBy
  refine wpAny_bind (wpAny_bind (wpAny_mkText (wpAny_holding (wpAny_bind (wpAny_typeOf (hT' _) (wpAny_bind (wpAny_of_eq hlk ?_)))))))
  show wpAny _ _ (getAttrByItsOwn (.ref so) (.str name t) (.type "super") (.builtin "super.__getattribute__") true false) _ _ _
  unfold getAttrByItsOwn hookBefore callGetattribute boundAndCalled
  refine wpAny_bind (wpAny_of_eq (show (if onTheHeap (.type "super") then typeLookup (.type "super") "__getattr__" else pure none) = pure none from rfl) ?_)
  refine wpAny_bind (wpAny_attempt (wpAny_holding ?_))
  show wpAny _ _ (bindSpecial (.builtin "super.__getattribute__") (.ref so) >>= _) _ _ _
  refine wpAny_bind (wpAny_of_eq (F.ks_slot_super_ga.bind _) ?_)
  refine wpAny_mono (Q := fun v s' => v = .ref h.objs.size ∧ s' = ⟨h.push (wrapO i x), g, d, t + 1, os⟩) (E := fun _ _ => False)
    (wpAny_call_entry F.ks_slot_super_ga (hT' _) F.ks_entry_super_ga (sup_ga hso hno hC hl X hf hT hxC hn hg ⟨_, rfl, rfl, rfl⟩) (F.ks_gaArgs_super _ _)) (fun v s' hv => ?_) fun _ _ z => z.elim
  obtain ⟨rfl, rfl⟩ := hv
  exact wpAny_pure (wpAny_pure hq)
end
end Mine
end
section
open PySem PySem.W PySem.Calls PyProof.Rows Builtin
set_option maxRecDepth 100000
set_option maxHeartbeats 4000000
namespace Mine
theorem la_kind : builtinKind "list.append" = some .method := by decide +kernel
theorem la_split : splitId "list.append" = some ("list", "append") := by decide +kernel
theorem la_plain : plainId "list.append" = true := by decide +kernel
section
variable {prog : Program} {w : World} {A : Around} {E : Value → Shared → Prop} {s : Shared} {h₀ h : Heap} {L x dx : Addr} {m : Str → Option Value} {its : Array Value} {n : Nat} {rest : List (Addr × Obj)}
theorem pile_set (F : Fr h₀ L h m) (N : News h₀ L h ((x, pileO dx its n) :: rest)) (off : ∀ p ∈ rest, p.1 ≠ x) (f : Array Value → Array Value) :
    ∃ n', Fr h₀ L (h.update x (Obj.mapSeq f)) m ∧ News h₀ L (h.update x (Obj.mapSeq f)) ((x, pileO dx (f its) n') :: rest) ∧ (h.update x (Obj.mapSeq f)).get? x = some (pileO dx (f its) n') := by
  have z := N _ (.head _)
  have e : ∃ n', Obj.mapSeq f (pileO dx its n) = pileO dx (f its) n' := ⟨_, rfl⟩
  obtain ⟨n', e⟩ := e
  have q := Heap.get?_update_self (Obj.mapSeq f) z.1 (by rw [e]; rfl)
  rw [e] at q
  have sb := Heap.SameBut.update h x (Obj.mapSeq f)
  refine ⟨n', F.change sb z.2.1 z.2.2, fun p hp => ?_, q⟩
  rcases List.mem_cons.mp hp with rfl | hp'
  · exact ⟨q, z.2⟩
  · exact ⟨(sb.2 p.1 (off p hp')).trans (N p (.tail _ hp')).1, (N p (.tail _ hp')).2⟩
theorem pile_type (N : News h₀ L h ((x, pileO dx its n) :: rest)) : Looks (model prog w) h (typeOf (.ref x)) (.ref 125) := (Looks.ld (N _ (.head _)).1).andThen .now
theorem pile_isList (X : (K w.params).In h) (N : News h₀ L h ((x, pileO dx its n) :: rest)) : Looks (model prog w) h (isInstance (.ref x) (.type "list")) true := (pile_type N).andThen (c_list X)
theorem pile_append {v : Value} {Q : Value → Shared → Prop} (F : Fr h₀ L s.heap m) (X₀ : (K w.params).In h₀) (N : News h₀ L s.heap ((x, pileO dx its n) :: rest)) (off : ∀ p ∈ rest, p.1 ≠ x) (hz : its.size ≤ 1000)
    (hq : ∀ n' h', Fr h₀ L h' m → News h₀ L h' ((x, pileO dx (its.push v) n') :: rest) → Q .none { s with heap := h' }) :
    wpAny (model prog w) A (call (.builtin "list.append") [.ref x, v]) Q E s := by
  obtain ⟨n', F', N', g'⟩ := pile_set F N off (·.push v)
  have hq' := hq n' _ F' N'
  have hI := pile_isList (prog := prog) (X₀.keeps F.keep) N
  have hx := (N _ (.head _)).1
  obtain ⟨hp, g, d, t, os⟩ := s
  refine wpAny_call (codeAny_call_builtin la_plain PySem.F.entry_list_append ?_)
  simp only [checkBuiltinCall, la_kind, la_split]
  repeat lk
  exact wpAny_update (A := A.in1) hx (wpAny_lookBehind g' (pastItsLine_seq (by rw [Array.size_push, sizeLine_eq]; omega)) (wpAny_pure hq'))
theorem wrap_len {q : Addr} {Q : Value → Shared → Prop} (F : Fr h₀ L s.heap m) (X₀ : (K w.params).In h₀) (N : News h₀ L s.heap ((x, pileO dx its n) :: rest)) (hw : s.heap.get? q = some (wrapO "list.__len__" x))
    (hq : Q (.int its.size s.toks) { s with toks := s.toks + 1 }) : wpAny (model prog w) A (call (.ref q) []) Q E s := by
  have hI := pile_isList (prog := prog) (X₀.keeps F.keep) N
  have hx := (N _ (.head _)).1
  dsimp only at hx
  obtain ⟨hp, g, d, t, os⟩ := s
  refine wpAny_call (codeAny_of_tree ?_)
  show wpAny _ _ (callAny (.ref q) _) _ _ _
  unfold callAny
  repeat lk
  refine ⟨Code.quiet_builtin _ (by decide +kernel), codeAny_builtin PySem.F.entry_list_len ?_⟩
  show wpAny _ _ (Builtin.«list.__len__» ⟨[.ref x], []⟩) _ _ _
  unfold Builtin.«list.__len__» retInt mkInt
  repeat lk
  exact hq
theorem wrap_init {q : Addr} {Q : Value → Shared → Prop} (F : Fr h₀ L s.heap m) (X₀ : (K w.params).In h₀) (N : News h₀ L s.heap ((x, pileO dx #[] n) :: rest)) (off : ∀ p ∈ rest, p.1 ≠ x) (hw : s.heap.get? q = some (wrapO "list.__init__" x))
    (hq : ∀ n' h', Fr h₀ L h' m → News h₀ L h' ((x, pileO dx #[] n') :: rest) → Q .none { s with heap := h' }) : wpAny (model prog w) A (call (.ref q) []) Q E s := by
  obtain ⟨n', F', N', g'⟩ := pile_set F N off (fun _ => #[])
  have hq' := hq n' _ F' N'
  have hI := pile_isList (prog := prog) (X₀.keeps F.keep) N
  have hx := (N _ (.head _)).1
  dsimp only at hx
  obtain ⟨hp, g, d, t, os⟩ := s
  refine wpAny_call (codeAny_of_tree ?_)
  show wpAny _ _ (callAny (.ref q) _) _ _ _
  unfold callAny
  repeat lk
  refine ⟨Code.quiet_builtin _ (by decide +kernel), codeAny_builtin PySem.F.entry_list_init ?_⟩
  show wpAny _ _ (Builtin.«list.__init__» ⟨[.ref x], []⟩) _ _ _
  unfold Builtin.«list.__init__»
  repeat lk
  exact wpAny_update hx (wpAny_lookBehind g' (pastItsLine_seq (by rw [sizeLine_eq]; simp)) (wpAny_pure hq'))
end
end Mine
end
section
open PySem PySem.W PySem.Calls PyProof.Rows Builtin
set_option maxRecDepth 100000
set_option maxHeartbeats 4000000
namespace Mine
theorem lg_kind : builtinKind "list.__getitem__" = some .method := by decide +kernel
theorem lg_split : splitId "list.__getitem__" = some ("list", "__getitem__") := by decide +kernel
theorem lg_plain : plainId "list.__getitem__" = true := by decide +kernel
theorem ls_kind : builtinKind "list.__setitem__" = some .slot := by decide +kernel
theorem ls_split : splitId "list.__setitem__" = some ("list", "__setitem__") := by decide +kernel
theorem ls_plain : plainId "list.__setitem__" = true := by decide +kernel
theorem slice_noindex : typeLookup (.type "slice") "__index__" = pure none := by rw [typeLookup_type, builtinLookup_eq_fast]; kernel_rfl
theorem slice_drop (its : Array Value) (i : Nat) (hi : i ≤ its.size) :
    List.filterMap (fun x => its[x]?) (sliceRange (Max.max 0 (Min.min (if (i : Int) < 0 then (i : Int) + (its.size : Int) else (i : Int)) (its.size : Int))) (if (1 : Int) > 0 then (its.size : Int) else -1) 1) = its.toList.drop i := by
  rw [if_neg (by omega), if_pos (by decide), show Max.max (0 : Int) (Min.min (i : Int) (its.size : Int)) = (i : Int) by omega, sliceRange_one, pick_run, List.take_of_length_le (by rw [List.length_drop, Array.length_toList]; omega)]
noncomputable abbrev sliceO (a b c : Value) : Obj := { cls := .type "slice", data := .fields #[a, b, c] }
section
variable {prog : Program} {w : World} {A : Around} {E : Value → Shared → Prop} {s : Shared} {h₀ h : Heap} {L x dx : Addr} {m : Str → Option Value} {its : Array Value} {n : Nat} {rest : List (Addr × Obj)}
theorem pile_gi {sl : Addr} {i : Nat} {ti : Tok} {Q : Value → Shared → Prop} (F : Fr h₀ L s.heap m) (X₀ : (K w.params).In h₀) (N : News h₀ L s.heap ((x, pileO dx its n) :: rest))
    (hs : s.heap.get? sl = some (sliceO (.int i ti) .none .none)) (hi : i ≤ its.size) (hz : its.size ≤ 1000)
    (hq : ∀ l' h', Fr h₀ L h' m → News h₀ L h' ((l', listOf (its.toList.drop i).toArray 0) :: (x, pileO dx its n) :: rest) → (∀ p ∈ (x, pileO dx its n) :: rest, p.1 < l') → Q (.ref l') { s with heap := h' }) :
    wpAny (model prog w) A (getItem (.ref x) (.ref sl)) Q E s := by
  have X := X₀.keeps F.keep
  have hI := pile_isList (prog := prog) X N
  have hT := pile_type (prog := prog) (w := w) N
  have hx := (N _ (.head _)).1
  have hd : Looks (model prog w) s.heap (isSubtype (.ref 125) (.type "collections.deque")) false := looks_subIn X (by kernel_rfl)
  have hg : Looks (model prog w) s.heap (typeLookup (.ref 125) "__getitem__") (some (.builtin "list.__getitem__")) := looks_findIn X (by kernel_rfl)
  have hb : Looks (model prog w) s.heap (bindSpecial (.builtin "list.__getitem__") (.ref x)) (.builtin "list.__getitem__", [.ref x]) := Looks.of_pure (PySem.F.slot_list_getitem.bind _)
  have hst : Looks (model prog w) s.heap (typeOf (.ref sl)) (.type "slice") := (Looks.ld hs).andThen .now
  have hni : Looks (model prog w) s.heap (typeLookup (.type "slice") "__index__") none := Looks.of_pure slice_noindex
  dsimp only at hx
  obtain ⟨hp, g, d, t, os⟩ := s
  unfold getItem callSpecial? specialOf sequenceKey
  repeat (first | with_reducible refine wpAny_call ?_ | lk)
  refine codeAny_call_builtin lg_plain PySem.F.entry_list_getitem ?_
  show wpAny _ _ (checkBuiltinCall "list.__getitem__" ⟨[.ref x, .ref sl], []⟩) _ _ _
  simp only [checkBuiltinCall, lg_kind, lg_split]
  repeat lk
  rw [slice_drop its i hi, if_neg (by rw [List.size_toArray, List.length_drop, Array.length_toList, sizeLine_eq]; omega)]
  repeat lk
  exact hq _ _ (F.push _) (N.push F _) (fun p hp' => Heap.lt_size (N p hp').1)
theorem pile_si {sl b : Addr} {i : Nat} {ti : Tok} {its2 : Array Value} {n2 : Nat} {Q : Unit → Shared → Prop} (F : Fr h₀ L s.heap m) (X₀ : (K w.params).In h₀) (N : News h₀ L s.heap ((x, pileO dx its n) :: rest)) (off : ∀ p ∈ rest, p.1 ≠ x)
    (hs : s.heap.get? sl = some (sliceO (.int i ti) .none .none)) (hl : s.heap.get? b = some (listOf its2 n2)) (hbx : (x == b) = false) (hi : i ≤ its.size) (hz : its.size ≤ 1000) (hz2 : its2.size ≤ 1000)
    (hq : ∀ n' h', Fr h₀ L h' m → News h₀ L h' ((x, pileO dx ((its.toList.take i) ++ its2.toList).toArray n') :: rest) → Q () { s with heap := h' }) :
    wpAny (model prog w) A (setItem (.ref x) (.ref sl) (.ref b)) Q E s := by
  have X := X₀.keeps F.keep
  have hI := pile_isList (prog := prog) X N
  have hT := pile_type (prog := prog) (w := w) N
  have hx := (N _ (.head _)).1
  have hd : Looks (model prog w) s.heap (isSubtype (.ref 125) (.type "collections.deque")) false := looks_subIn X (by kernel_rfl)
  have hg : Looks (model prog w) s.heap (typeLookup (.ref 125) "__setitem__") (some (.builtin "list.__setitem__")) := looks_findIn X (by kernel_rfl)
  have hb : Looks (model prog w) s.heap (bindSpecial (.builtin "list.__setitem__") (.ref x)) (.builtin "list.__setitem__", [.ref x]) := Looks.of_pure (PySem.F.slot_list_setitem.bind _)
  have hst : Looks (model prog w) s.heap (typeOf (.ref sl)) (.type "slice") := (Looks.ld hs).andThen .now
  have hlt : Looks (model prog w) s.heap (typeOf (.ref b)) (.type "list") := (Looks.ld hl).andThen .now
  have hni : Looks (model prog w) s.heap (typeLookup (.type "slice") "__index__") none := Looks.of_pure slice_noindex
  dsimp only at hx
  obtain ⟨hp, g, d, t, os⟩ := s
  unfold setItem callSpecial? specialOf sequenceKey
  repeat (first | with_reducible refine wpAny_call ?_ | lk)
  refine codeAny_call_builtin ls_plain PySem.F.entry_list_setitem ?_
  show wpAny _ _ (checkBuiltinCall "list.__setitem__" ⟨[.ref x, .ref sl, .ref b], []⟩) _ _ _
  simp only [checkBuiltinCall, ls_kind, ls_split]
  repeat lk
  rw [if_neg (show ¬ (List.listSameRef (.ref x) (.ref b)) = true by show ¬ (x == b) = true; rw [hbx]; decide)]
  repeat lk
  rw [if_neg (show ¬ List.listTooLong (its.size + its2.size) = true by unfold List.listTooLong; rw [sizeLine_eq]; simp; omega)]
  repeat lk
  rw [show Max.max (0 : Int) (Min.min (if (i : Int) < 0 then (i : Int) + (its.size : Int) else (i : Int)) (its.size : Int)) = (i : Int) by rw [if_neg (by omega)]; omega, show (if (1 : Int) > 0 then (its.size : Int) else -1) = (its.size : Int) from if_pos (by decide)]
  obtain ⟨n', F', N', g'⟩ := pile_set F N off (fun xs => xs.extract 0 (i : Int).toNat ++ its2 ++ xs.extract (Max.max (i : Int) (its.size : Int)).toNat xs.size)
  have e : its.extract 0 (i : Int).toNat ++ its2 ++ its.extract (Max.max (i : Int) (its.size : Int)).toNat its.size = ((its.toList.take i) ++ its2.toList).toArray := by
    apply Array.toList_inj.mp
    rw [show (Max.max (i : Int) (its.size : Int)).toNat = its.size by omega]
    simp
  dsimp only at N' g'
  rw [e] at N' g'
  exact wpAny_update (A := A.in1) hx (wpAny_lookBehind g' (pastItsLine_seq (by rw [List.size_toArray, List.length_append, List.length_take, Array.length_toList, Array.length_toList, sizeLine_eq]; omega)) (wpAny_bind (wpAny_letGo (wpAny_pure (wpAny_pure (wpAny_pure (hq n' _ F' N')))))))
end
end Mine
end
section
open PySem PySem.W PySem.Calls PyProof.Rows Builtin
set_option maxRecDepth 100000
set_option maxHeartbeats 4000000
namespace Mine
section
variable {prog : Program} {w : World} {A : Around} {E : Value → Shared → Prop} {s : Shared} {h₀ h : Heap} {L x dx : Addr} {m : Str → Option Value} {its : Array Value} {n : Nat} {rest : List (Addr × Obj)}
theorem pile_sa {sl b : Addr} {its2 : Array Value} {n2 : Nat} {Q : Unit → Shared → Prop} (F : Fr h₀ L s.heap m) (X₀ : (K w.params).In h₀) (N : News h₀ L s.heap ((x, pileO dx its n) :: rest)) (off : ∀ p ∈ rest, p.1 ≠ x)
    (hs : s.heap.get? sl = some (sliceO .none .none .none)) (hl : s.heap.get? b = some (listOf its2 n2)) (hbx : (x == b) = false) (hz : its.size ≤ 1000) (hz2 : its2.size ≤ 1000)
    (hq : ∀ n' h', Fr h₀ L h' m → News h₀ L h' ((x, pileO dx its2 n') :: rest) → Q () { s with heap := h' }) :
    wpAny (model prog w) A (setItem (.ref x) (.ref sl) (.ref b)) Q E s := by
  have X := X₀.keeps F.keep
  have hI := pile_isList (prog := prog) X N
  have hT := pile_type (prog := prog) (w := w) N
  have hx := (N _ (.head _)).1
  have hd : Looks (model prog w) s.heap (isSubtype (.ref 125) (.type "collections.deque")) false := looks_subIn X (by kernel_rfl)
  have hg : Looks (model prog w) s.heap (typeLookup (.ref 125) "__setitem__") (some (.builtin "list.__setitem__")) := looks_findIn X (by kernel_rfl)
  have hb : Looks (model prog w) s.heap (bindSpecial (.builtin "list.__setitem__") (.ref x)) (.builtin "list.__setitem__", [.ref x]) := Looks.of_pure (PySem.F.slot_list_setitem.bind _)
  have hst : Looks (model prog w) s.heap (typeOf (.ref sl)) (.type "slice") := (Looks.ld hs).andThen .now
  have hlt : Looks (model prog w) s.heap (typeOf (.ref b)) (.type "list") := (Looks.ld hl).andThen .now
  have hni : Looks (model prog w) s.heap (typeLookup (.type "slice") "__index__") none := Looks.of_pure slice_noindex
  dsimp only at hx
  obtain ⟨hp, g, d, t, os⟩ := s
  unfold setItem callSpecial? specialOf sequenceKey
  repeat (first | with_reducible refine wpAny_call ?_ | lk)
  refine codeAny_call_builtin ls_plain PySem.F.entry_list_setitem ?_
  show wpAny _ _ (checkBuiltinCall "list.__setitem__" ⟨[.ref x, .ref sl, .ref b], []⟩) _ _ _
  simp only [checkBuiltinCall, ls_kind, ls_split]
  repeat lk
  rw [if_neg (show ¬ (List.listSameRef (.ref x) (.ref b)) = true by show ¬ (x == b) = true; rw [hbx]; decide)]
  repeat lk
  rw [if_neg (show ¬ List.listTooLong (its.size + its2.size) = true by unfold List.listTooLong; rw [sizeLine_eq]; simp; omega)]
  repeat lk
  rw [show (if (1 : Int) > 0 then (0 : Int) else (its.size : Int) - 1) = 0 from if_pos (by decide), show (if (1 : Int) > 0 then (its.size : Int) else -1) = (its.size : Int) from if_pos (by decide)]
  obtain ⟨n', F', N', g'⟩ := pile_set F N off (fun xs => xs.extract 0 (0 : Int).toNat ++ its2 ++ xs.extract (Max.max (0 : Int) (its.size : Int)).toNat xs.size)
  have e : its.extract 0 (0 : Int).toNat ++ its2 ++ its.extract (Max.max (0 : Int) (its.size : Int)).toNat its.size = its2 := by
    apply Array.toList_inj.mp
    rw [show (Max.max (0 : Int) (its.size : Int)).toNat = its.size by omega]
    simp
  dsimp only at N' g'
  rw [e] at N' g'
  exact wpAny_update (A := A.in1) hx (wpAny_lookBehind g' (pastItsLine_seq (by rw [sizeLine_eq]; omega)) (wpAny_bind (wpAny_letGo (wpAny_pure (wpAny_pure (wpAny_pure (hq n' _ F' N')))))))
end
end Mine
end
section
open PySem PySem.W PySem.Calls PyProof.Rows Builtin
open PySem.F
set_option maxRecDepth 100000
set_option maxHeartbeats 4000000
namespace Mine
theorem lt_kind : builtinKind "list.__iter__" = some .slot := by decide +kernel
theorem lt_split : splitId "list.__iter__" = some ("list", "__iter__") := by decide +kernel
theorem lt_plain : plainId "list.__iter__" = true := by decide +kernel
section
variable {prog : Program} {w : World} {A : Around} {E : Value → Shared → Prop} {s : Shared} {x dx it : Addr} {its : Array Value} {n i : Nat}
/-- a list's iterator over an object of a class made of list -/
theorem pile_next {v : Value} {Q : Option Value → Shared → Prop} (hit : s.heap.IsListIter it x i) (hl : s.heap.get? x = some (pileO dx its n)) (hx : its[i]? = some v)
    (hQ : ∀ h', h'.IsListIter it x (i + 1) → Heap.SameBut it s.heap h' → Q (some v) { s with heap := h' }) : wpAny (model prog w) A (pyNext (.ref it)) Q E s := by
  obtain ⟨o, ho, hc, hd⟩ := id hit
  unfold pyNext
  refine wpAny_bind (wpAny_attempt (wpAny_callSpecial?_slot (name := Str.ofString "__next__") hit.typeIs slot_listiter_next
    (wpAny_call_entry slot_listiter_next hit.typeIs entry_listiter_next ?_ (args_listiter_next _))))
  show wpAny _ _ (field (.ref it) 0 >>= _) _ _ s
  refine wpAny_bind (wpAny_field ho hd (x := .ref x) rfl ?_)
  show wpAny _ _ (if (Value.ref x == Value.none) = true then _ else _) _ _ s
  rw [if_neg (show ¬ ((Value.ref x == Value.none) = true) from Bool.false_ne_true)]
  show wpAny _ _ (field (.ref it) 1 >>= _) _ _ s
  refine wpAny_bind (wpAny_field ho hd (x := .int i 0) rfl ?_)
  show wpAny _ _ (seqItems? (.ref x) >>= _) _ _ s
  refine wpAny_bind (wpAny_seqItems hl rfl ?_)
  simp only [Int.toNat_natCast, hx]
  refine wpAny_bind (wpAny_setField ho hd (by simp) (wpAny_pure ⟨v, rfl, wpAny_pure (hQ _ ?_ (Heap.SameBut.update ..))⟩))
  exact ⟨_, Heap.get?_update_self _ ho (Obj.isFreed_of_fields (Obj.data_mapFields hd _)), (Obj.cls_mapFields ..).trans hc, by rw [Obj.data_mapFields hd]; simp [rawInt]⟩
theorem pile_stop {Q : Option Value → Shared → Prop} (hh : A.handled = none) (hit : s.heap.IsListIter it x i) (hl : s.heap.get? x = some (pileO dx its n)) (hx : its[i]? = none)
    (hQ : ∀ h', Heap.ExtBut it s.heap h' → Q none { s with heap := h' }) : wpAny (model prog w) A (pyNext (.ref it)) Q E s := by
  obtain ⟨o, ho, hc, hd⟩ := id hit
  unfold pyNext
  refine wpAny_bind (wpAny_attempt (wpAny_callSpecial?_slot (name := Str.ofString "__next__") hit.typeIs slot_listiter_next
    (wpAny_call_entry slot_listiter_next hit.typeIs entry_listiter_next ?_ (args_listiter_next _))))
  show wpAny _ _ (field (.ref it) 0 >>= _) _ _ s
  refine wpAny_bind (wpAny_field ho hd (x := .ref x) rfl ?_)
  show wpAny _ _ (if (Value.ref x == Value.none) = true then _ else _) _ _ s
  rw [if_neg (show ¬ ((Value.ref x == Value.none) = true) from Bool.false_ne_true)]
  show wpAny _ _ (field (.ref it) 1 >>= _) _ _ s
  refine wpAny_bind (wpAny_field ho hd (x := .int i 0) rfl ?_)
  show wpAny _ _ (seqItems? (.ref x) >>= _) _ _ s
  refine wpAny_bind (wpAny_seqItems hl rfl ?_)
  simp only [Int.toNat_natCast, hx]
  refine wpAny_bind (wpAny_rule (wpAny_bind (wpAny_setField ho hd (by simp) ?_)))
  show wpAny _ _ (newExc (.type "StopIteration") [] >>= _) _ _ _
  refine wpAny_bind ?_
  simp only [newExc, newTuple]
  refine wpAny_bind (wpAny_newObj_type ?_ (by size_fits))
  refine wpAny_bind (m := firstArgMember _ _) (wpAny_of_eq (a := Value.none) (by first | rfl | (simp only [firstArgMember]; rfl)) ?_)
  refine wpAny_newObj_type ?_ (by size_fits)
  simp only [raiseNew]
  refine wpAny_bind (wpAny_handled ?_)
  rw [show A.in1.handled = none from hh]
  refine wpAny_bind (wpAny_pure (wpAny_throw ?_))
  refine wpAny_bind (wpAny_isInstance (T := "StopIteration") (b := true) ⟨_, Heap.get?_push_size _ rfl, rfl⟩ isSubtype_stop ?_)
  exact wpAny_pure (hQ _ (((Heap.SameBut.update ..).extBut.push _).push _))
theorem pile_iter {Q : Value → Shared → Prop} (X : (K w.params).In s.heap) (hl : s.heap.get? x = some (pileO dx its n))
    (hQ : Q (.ref s.heap.objs.size) { s with heap := s.heap.push { cls := .type "list_iterator", data := .fields #[.ref x, .int 0 0] } }) : wpAny (model prog w) A (pyIter (.ref x)) Q E s := by
  have hT : Looks (model prog w) s.heap (typeOf (.ref x)) (.ref 125) := (Looks.ld hl).andThen .now
  have hI : Looks (model prog w) s.heap (isInstance (.ref x) (.type "list")) true := hT.andThen (c_list X)
  have hf : Looks (model prog w) s.heap (typeLookup (.ref 125) "__iter__") (some (.builtin "list.__iter__")) := looks_findIn X (by kernel_rfl)
  have hb : Looks (model prog w) s.heap (bindSpecial (.builtin "list.__iter__") (.ref x)) (.builtin "list.__iter__", [.ref x]) := Looks.of_pure (PySem.F.slot_list_iter.bind _)
  obtain ⟨hp, g, d, t, os⟩ := s
  unfold pyIter
  repeat (first | with_reducible refine wpAny_call ?_ | lk)
  have fin : ∀ A' : Around, codeAny (model prog w) A' (.call (.builtin "list.__iter__") ⟨[.ref x], []⟩) (fun r s' => match r with | .ok (.ret v) => v = .ref hp.objs.size ∧ s' = ⟨hp.push { cls := .type "list_iterator", data := .fields #[.ref x, .int 0 0] }, g, d, t, os⟩ | _ => False) ⟨hp, g, d, t, os⟩ := by
    intro A'
    refine codeAny_call_builtin lt_plain PySem.F.entry_list_iter ?_
    simp only [checkBuiltinCall, lt_kind, lt_split]
    repeat lk
    exact ⟨rfl, rfl⟩
  have back : ∀ (A' : Around) (Q' : Value → Shared → Prop) (E' : Value → Shared → Prop), Q' (.ref hp.objs.size) ⟨hp.push { cls := .type "list_iterator", data := .fields #[.ref x, .int 0 0] }, g, d, t, os⟩ → wpAny (model prog w) A' (call (.builtin "list.__iter__") [.ref x]) Q' E' ⟨hp, g, d, t, os⟩ := by
    intro A' Q' E' q
    refine wpAny_call (codeAny_mono (fin A') fun r s' z => ?_)
    rcases r with e | (v | _ | _ | _) <;> first | exact z.elim | skip
    obtain ⟨rfl, rfl⟩ := z
    exact q
  have hn0 := slot_listiter_next.lookup
  have hnew : (hp.push { cls := .type "list_iterator", data := .fields #[.ref x, .int 0 0] }).get? hp.objs.size = some { cls := .type "list_iterator", data := .fields #[.ref x, .int 0 0] } := Heap.get?_push_size _ rfl
  have hn : Looks (model prog w) (hp.push { cls := .type "list_iterator", data := .fields #[.ref x, .int 0 0] }) (typeLookup (.type "list_iterator") "__next__") (some _) := Looks.of_pure hn0
  split
  all_goals (repeat (first | with_reducible refine back _ _ _ ?_ | with_reducible refine wpAny_tryCatch ?_ | lk))
  all_goals exact hQ
end
end Mine
end
section
open PySem PySem.W PySem.Calls PyProof.Rows Builtin
set_option maxRecDepth 100000
set_option maxHeartbeats 4000000
namespace Mine
section
variable {prog : Program} {w : World} {A : Around} {E : Value → Shared → Prop} {s : Shared} {x dx : Addr} {its : Array Value} {n : Nat}
theorem pile_walks (hh : A.handled = none) (I : Addr) (hne : x ≠ I) (Ts : Nat → Addr) (vals : Nat → Array Value)
    (hit : ∀ j, j < its.size → its[j]? = some (.ref (Ts j))) (hTI : ∀ j, j < its.size → Ts j ≠ I) :
    WalksU prog w A I (I :: x :: (List.range its.size).map Ts) [I] its.size (fun j v => j < its.size ∧ v = vals j)
      (fun j h => h.IsListIter I x j ∧ h.get? x = some (pileO dx its n) ∧ ∀ k, k < its.size → h.IsTuple (Ts k) (vals k))
      (fun j T h => (j < its.size ∧ T = Ts j) ∧ h.IsListIter I x (j + 1) ∧ h.get? x = some (pileO dx its n) ∧ ∀ k, k < its.size → h.IsTuple (Ts k) (vals k)) where
  sub := fun b hb => by simp at hb; simp [hb]
  frame := fun _ _ _ st hk => ⟨st.1.at fun o e => hk I (by simp) o e, hk x (by simp) _ st.2.1,
    fun k hk' => (st.2.2 k hk').at fun o e => hk (Ts k) (List.mem_cons_of_mem _ (List.mem_cons_of_mem _ (List.mem_map.mpr ⟨k, List.mem_range.mpr hk', rfl⟩))) o e⟩
  item := fun i s Q E hi st hQ => by
    refine pile_next st.1 st.2.1 (hit i hi) fun h' hit' hs' => ?_
    have tup : ∀ k, k < its.size → h'.IsTuple (Ts k) (vals k) := fun k hk' => (st.2.2 k hk').extBut hs'.extBut (hTI k hk')
    exact hQ (Ts i) (vals i) h' s.toks ⟨hi, rfl⟩ (tup i hi) ⟨⟨hi, rfl⟩, hit', hs'.extBut _ _ hne st.2.1, tup⟩ fun b o hb e => hs'.extBut b o (fun h => hb (by simp [h])) e
  go := fun _ _ _ _ _ s Q _ hm hQ => wpAny_letOwnedTupleGo_listiter hm.2.1 (hQ s.heap hm.2 fun _ _ _ e => e)
  apart := fun j T _ hm hmem => by
    rcases List.mem_cons.mp hmem with e | e
    · exact hTI j hm.1.1 (hm.1.2 ▸ e)
    · cases e
  done := fun s Q E st hQ => pile_stop hh st.1 st.2.1 (by simp) fun h' he' => hQ h' s.toks fun b o hb e => he' b o (fun h => hb (by simp [h])) e
  self := fun _ _ _ _ st hQ => wpAny_pyIter_listiter st.1 hQ
theorem code_any {M : Model} {env : Env} {c P : Addr} {ps : Array Value} {pos : Pos} {qualname : Str} {scope : Scope} {Q : Value → Shared → Prop} (hc : env.code = .ref c) (hok : s.heap.IsCode c P ps) (htab : s.heap.TableAt c P ps)
    (hQ : ∀ code h' tk ps', Heap.ExtBut P s.heap h' → s.heap.objs.size ≤ h'.objs.size → h'.IsCode c P ps' → h'.TableAt c P ps' → Q code { s with heap := h', toks := tk }) : wpAny M A (genexprCode env pos qualname scope) Q E s := by
  cases hf : codeAmong pos ps.toList with
  | none => exact wpAny_genexprCodeX hc hok htab hf fun c' h' tk e1 e2 e3 e4 _ e5 _ => hQ _ _ _ _ e1 (Nat.le_trans e2 (Nat.le_of_lt e3)) e4 e5
  | some c' => exact wpAny_genexprCode_hit hc hok hf (hQ c' s.heap s.toks ps (fun _ _ _ e => e) (Nat.le_refl _) hok htab)
theorem gen_pile {env : Env} {elt iter : Expr} {xa xb : Str} {pa pb pt : Pos} {kt : Nat} {scope : Scope} {cl : List (Str × Addr)} {pos : Pos} {Q : Value → Shared → Prop} {mg : Str → Option Value} {bm c P : Addr} {ob : Obj} {ps : Array Value}
    {Ts : Nat → Addr} {va vb : Nat → Value} {Fv : Nat → Value → Prop}
    (hh : A.handled = none) (hco : scope.isCoroutine = false) (hclos : closureFor scope env = pure cl) (hcell : ∀ y ∈ scope.names, y.2 ≠ .cell) (h0 : scope.names.lookup (".0" : Str) = some NameKind.local)
    (hxa : scope.names.lookup xa = some .local) (hxb : scope.names.lookup xb = some .local) (hab : xa ≠ xb) (hkind : scope.kind = .function) (hroom : A.depth < recursionLimit)
    (X : (K w.params).In s.heap) (hx : s.heap.get? x = some (pileO dx its n)) (hit : ∀ j, j < its.size → its[j]? = some (.ref (Ts j))) (ht : ∀ k, k < its.size → s.heap.IsTuple (Ts k) #[va k, vb k])
    (hev : ∀ Q' : Value → Shared → Prop, Q' (.ref x) s → wpAny (model prog w) A (eval iter env) Q' E s)
    (hcode : env.code = .ref c) (hok : s.heap.IsCode c P ps) (htab : s.heap.TableAt c P ps) (hPx : x ≠ P) (hPT : ∀ k, k < its.size → Ts k ≠ P) (hlim : s.heap.NoLimit) (hPs : cStatics ≠ P)
    (hg : s.heap.Ns env.globals mg) (hb : mg "__builtins__" = some (.ref bm)) (hne : bm ≠ builtinsNs) (ho : s.heap.get? bm = some ob) (hcls : ob.cls = .type "module") (hdict : ob.dict = some builtinsNs) (hdata : ob.data = .plain)
    (hPb : bm ≠ P) (hPg : env.globals ≠ P)
    (helt : ∀ (code : Value) (C : Addr) (A' : Around) (E' : Value → Shared → Prop) (i : Nat) (t : Shared) m₂, A'.handled = none → i < its.size → t.heap.Ns C m₂ → m₂ xa = some (va i) → m₂ xb = some (vb i) →
      (∀ b o, b ≠ P → s.heap.get? b = some o → t.heap.get? b = some o) → wpAny (model prog w) A' (eval elt (genEnv scope cl C code builtinsNs env)) (fun y s₃ => Fv i y ∧ Keeps t s₃) E' t)
    (hQ : ∀ (s₅ : Shared) (a : Addr) fp wr g St ps', WalksS prog w A.in4 a fp wr (GenOnlyQ g) its.size (fun j y => j < its.size ∧ Fv j y) St → St 0 s₅ → (∀ i s', St i s' → s'.TypeIs (.ref a) "generator") → a ∈ fp → (∀ b ∈ fp, b < s₅.heap.objs.size) →
      (∀ b ∈ wr, s.heap.objs.size ≤ b) → (∀ b o, b ≠ P → s.heap.get? b = some o → s₅.heap.get? b = some o) → s₅.heap.IsCode c P ps' → s₅.heap.TableAt c P ps' → s₅.os = s.os → (AllBare s.gens → AllBare s₅.gens) → Q (.ref a) s₅)
    (hs : ∀ x, genFold iter env x = pure x) :
    wpAny (model prog w) A (eval (.GeneratorExp elt [⟨.Tuple [.Name xa pa, .Name xb pb] kt pt, iter, [], 0⟩] scope pos) env) Q E s := by
  refine wpAny_GeneratorExp_walksQT hh hco hclos hcell h0 hxa hxb hab hkind hroom (hev _ (pile_iter X hx ?_)) hs
  have up : ∀ b o, s.heap.get? b = some o → (s.heap.push { cls := .type "list_iterator", data := .fields #[.ref x, .int 0 0] }).get? b = some o := fun b o e => Heap.get?_push_of_some _ e
  have hItt : (s.heap.push { cls := .type "list_iterator", data := .fields #[.ref x, .int 0 0] }).IsListIter s.heap.objs.size x 0 := ⟨_, Heap.get?_push_size _ rfl, rfl, rfl⟩
  refine ⟨hlim.keeps up, ?_⟩
  refine code_any hcode (hok.push _) (htab.keeps up) fun code h₃ tk₃ ps' e1 e2 e3 e4 => ?_
  rw [Heap.size_push] at e2
  have up3 : ∀ b o, b ≠ P → s.heap.get? b = some o → h₃.get? b = some o := fun b o hbP e => e1 b o hbP (up b o e)
  have hIP : s.heap.objs.size ≠ P := fun e => by
    have := Heap.lt_size htab.2
    rw [← e] at this
    exact Nat.lt_irrefl _ this
  refine wpAny_builtinsFor (hg.at' fun o e => up3 _ o hPg e) hb hne (up3 _ _ hPb ho) hcls hdict hdata ?_
  have hTI : ∀ j, j < its.size → Ts j ≠ s.heap.objs.size := fun j hj => by
    obtain ⟨o, e, _⟩ := ht j hj
    exact Nat.ne_of_lt (Heap.lt_size e)
  have hxI : x ≠ s.heap.objs.size := Nat.ne_of_lt (Heap.lt_size hx)
  have hlim3 : h₃.NoLimit := by
    obtain ⟨mc, hn, r⟩ := hlim
    exact ⟨mc, hn.at' fun o e => up3 _ o hPs e, r⟩
  have epass : passing (fun _ => true) its.size 0 = List.range its.size := by unfold passing; simp
  refine ⟨s.heap.objs.size, _, _, _, _, _, _, (fun _ => true), Fv, rfl, fun A' hA => pile_walks (dx := dx) (n := n) hA s.heap.objs.size hxI Ts (fun k => #[va k, vb k]) hit hTI,
    (fun i vals hv => ⟨va i, vb i, hv.2⟩), ⟨hItt.at fun o e => e1 _ o hIP e, up3 _ _ hPx hx, fun k hk => (ht k hk).at fun o e => up3 _ o (hPT k hk) e⟩, ?_, hlim3, ?_, ?_, ?_⟩
  · intro b hb
    show b < h₃.objs.size
    rcases List.mem_cons.mp hb with rfl | hb
    · exact Nat.lt_of_lt_of_le (Nat.lt_succ_self _) e2
    · rcases List.mem_cons.mp hb with rfl | hb
      · exact Nat.lt_of_lt_of_le (Nat.lt_succ_of_lt (Heap.lt_size hx)) e2
      · obtain ⟨k, hk, rfl⟩ := List.mem_map.mp hb
        obtain ⟨o, e, _⟩ := ht k (List.mem_range.mp hk)
        exact Nat.lt_of_lt_of_le (Nat.lt_succ_of_lt (Heap.lt_size e)) e2
  · intro hm
    obtain ⟨mc, ⟨o, _, _, e, _⟩, _⟩ := hlim
    rcases List.mem_cons.mp hm with q | q
    · have := Heap.lt_size e
      rw [q] at this
      exact Nat.lt_irrefl _ this
    · cases q
  · intro href hk
    refine ⟨fun A' E' i va' vb' s₂ m₂ hA hp hn ha hb' hkk => ?_, fun A' E' i va' vb' s₂ m₂ hA hp _ hn ha hb' hkk => ?_⟩
    · rw [List.forIn_nil]
      exact wpAny_pure ⟨rfl, s₂.heap, s₂.toks, rfl, fun _ _ e => e⟩
    · obtain ⟨hi, e⟩ := hp
      obtain ⟨e5, e6⟩ : va' = va i ∧ vb' = vb i := by simpa using congrArg Array.toList e
      subst e5 e6
      refine helt code h₃.objs.size A' E' i s₂ m₂ hA hi hn ha hb' fun b o hbP e => ?_
      have e7 := up3 b o hbP e
      refine hkk b (List.mem_range.mpr (Heap.lt_size e7)) (fun hm => ?_) o (hk b o e7)
      rcases List.mem_cons.mp hm with q | q
      · rw [q] at e
        exact Nat.lt_irrefl _ (Heap.lt_size e)
      · cases q
  · intro a h₅ tk gs hgb hag hsz₅ hk₅ W hat
    rw [epass] at W
    have hF : (fun j y => ∃ i, (List.range its.size)[j]? = some i ∧ Fv i y) = fun j y => j < its.size ∧ Fv j y := by
      funext j y
      apply propext
      constructor
      · rintro ⟨i, e, f⟩
        by_cases hj : j < its.size
        · rw [List.getElem?_range hj] at e
          cases e
          exact ⟨hj, f⟩
        · rw [List.getElem?_eq_none (by rw [List.length_range]; omega)] at e
          cases e
      · rintro ⟨hj, f⟩
        exact ⟨j, List.getElem?_range hj, f⟩
    rw [hF, List.length_range] at W
    refine hQ _ a _ _ _ _ ps' W hat (fun i s' st => st.1.typeIs) (List.mem_cons_self ..) ?_ ?_ (fun b o hb e => hk₅ b o (up3 b o hb e)) (e3.keeps hk₅) (e4.keeps hk₅) rfl fun G => G.push hgb
    · intro b hb
      show b < h₅.objs.size
      rw [hsz₅]
      have hag' : h₃.objs.size < a := hag
      rcases List.mem_cons.mp hb with rfl | hb
      · exact Nat.lt_succ_self _
      · rcases List.mem_cons.mp hb with rfl | hb
        · exact Nat.lt_succ_of_lt hag'
        · exact Nat.lt_succ_of_lt (Nat.lt_trans (List.mem_range.mp hb) hag')
    · intro b hb
      rcases List.mem_cons.mp hb with rfl | hb
      · exact Nat.le_trans (Nat.le_succ _) e2
      · rcases List.mem_cons.mp hb with rfl | hb
        · exact Nat.le_refl _
        · cases hb
end
end Mine
end
section
open PySem PySem.W PySem.Calls PyProof.Rows Builtin
set_option maxRecDepth 100000
set_option maxHeartbeats 4000000
namespace Mine
section
variable {prog : Program} {w : World} {A : Around} {E : Value → Shared → Prop} {s : Shared} {I : Addr} {fp wr : List Addr} {G : Array GenState → Array GenState → Prop} {n : Nat} {P : Nat → Value → Prop} {St : Nat → Shared → Prop}
theorem walks_shift (W : WalksS prog w A I fp wr G n P St) : WalksS prog w A I fp wr G (n + 1) (fun i v => ∃ j, i = j + 1 ∧ P j v) (fun i s => ∃ j, i = j + 1 ∧ St j s) where
  sub := W.sub
  grefl := W.grefl
  gtrans := W.gtrans
  frame := fun i s h' tk st a b => by
    obtain ⟨j, e, st⟩ := st
    exact ⟨j, e, W.frame j s h' tk st a b⟩
  item := fun i s Q E hi st hQ => by
    obtain ⟨j, rfl, st⟩ := st
    exact W.item j s Q E (by omega) st fun v s' hp st' hm => hQ v s' ⟨j, rfl, hp⟩ ⟨j + 1, rfl, st'⟩ hm
  done := fun s Q E st hQ => by
    obtain ⟨j, e, st⟩ := st
    obtain rfl : j = n := by omega
    exact W.done s Q E st hQ
  self := fun i s Q E st hQ => by
    obtain ⟨j, rfl, st⟩ := st
    exact W.self j s Q E st hQ
theorem args_sum2 (a b : Value) : argsOk "sum" ⟨[a, b], []⟩ := by unfold argsOk; kernel_rfl
theorem preSum_shift (k : Int) (val : Nat → Int) : ∀ n, preSum (fun i => match i with | 0 => k | j + 1 => val j) (n + 1) = k + preSum val n
  | 0 => by simp [preSum]
  | n + 1 => by
    rw [preSum, preSum_shift k val n, preSum]
    show k + preSum val n + val n = _
    omega
theorem sum_start {k : Int} {tk : Tok} {Q : Value → Shared → Prop} (W : WalksS prog w A.in1 I fp wr G n P St) (hst : St 0 s) (hfp : ∀ b ∈ fp, b < s.heap.objs.size) (val : Nat → Int) (hval : ∀ i v, P i v → ∃ t, v = .int (val i) t)
    (hQ : ∀ s' t', Moved wr G s s' → Q (.int (k + preSum val n) t') s') : wpAny (model prog w) A (call (.builtin "sum") [.ref I, .int k tk]) Q E s := by
  have h1 : Looks (model prog w) s.heap (isSubtype (.type "int") (.type "str")) false := Looks.of_pure F.sub_int_str
  have h2 : Looks (model prog w) s.heap (isSubtype (.type "int") (.type "bytes")) false := Looks.of_pure F.sub_int_bytes
  have h3 : Looks (model prog w) s.heap (isSubtype (.type "int") (.type "bytearray")) false := Looks.of_pure F.sub_int_bytearray
  have hf := W.frame 0
  have hself := fun (Q' : Value → Shared → Prop) (E' : Value → Shared → Prop) (q : Q' (.ref I) s) => W.self 0 s Q' E' hst q
  obtain ⟨h, g, d, t, os⟩ := s
  refine call_function_tree F.kind_sum F.plain_sum F.entry_sum (args_sum2 _ _) ?_
  unfold Builtin.«sum»
  repeat (first | with_reducible refine hself _ _ ?_ | lk)
  split
  all_goals (repeat lk)
  all_goals
    have hSf : h.objs.size ∉ fp := fun hm => Nat.lt_irrefl _ (hfp _ hm)
    have hv' : ∀ i v, (∃ j, i = j + 1 ∧ P j v) → ∃ t, v = .int ((fun i => match i with | 0 => k | j + 1 => val j) i) t := by
      rintro i v ⟨j, rfl, hp⟩
      exact hval j v hp
  · refine ⟨plainId_quiet F.plain_sum_loop _, codeAny_sum_loopAnyS (walks_shift W) (fun i => match i with | 0 => k | j + 1 => val j) hv' h.objs.size hSf n 1 _ t 0 0 (.inl rfl) rfl (by omega)
      ⟨0, rfl, W.frame 0 ⟨h, g, d, t, os⟩ _ _ hst (by first | exact Nat.le_refl _ | exact Nat.le_succ _ | omega) fun b _ o e => Heap.get?_push_of_some _ e⟩ ?_ fun s' t' hm => ?_⟩
    · rw [show preSum (fun i => match i with | 0 => k | j + 1 => val j) 1 = k by simp [preSum]]
      exact Heap.get?_push_size _ rfl
    · rw [preSum_shift]
      exact hQ s' t' (hm.drop_new (by first | exact Nat.le_refl _ | exact Nat.le_succ _ | omega))
  · refine ⟨plainId_quiet F.plain_sum_loop _, codeAny_sum_loopAnyS (walks_shift W) (fun i => match i with | 0 => k | j + 1 => val j) hv' h.objs.size hSf n 1 _ tk 0 2 (.inr rfl) rfl (by omega)
      ⟨0, rfl, W.frame 0 ⟨h, g, d, t, os⟩ _ _ hst (by first | exact Nat.le_refl _ | exact Nat.le_succ _ | omega) fun b _ o e => Heap.get?_push_of_some _ e⟩ ?_ fun s' t' hm => ?_⟩
    · rw [show preSum (fun i => match i with | 0 => k | j + 1 => val j) 1 = k by simp [preSum]]
      exact Heap.get?_push_size _ rfl
    · rw [preSum_shift]
      exact hQ s' t' (hm.drop_new (by first | exact Nat.le_refl _ | exact Nat.le_succ _ | omega))
end
end Mine
end
section
open PySem PySem.W PySem.Calls PyProof.Rows Builtin
set_option maxRecDepth 100000
set_option maxHeartbeats 4000000
namespace Mine
section
variable {prog : Program} {w : World} {A : Around} {E : Value → Shared → Prop} {t : Shared} {env : Env} {m₂ mg mb : Str → Option Value} {a b ya yb : Str} {ta tb : Tok}
theorem load_local {x : Str} {pos : Pos} {v : Value} {Q : Value → Shared → Prop} (hk : env.scope.kind = .function) (hl : env.kindOf x = some .local) (hn : t.heap.Ns env.locals m₂) (hv : m₂ x = some v) (hd : (x == ("__debug__" : Str)) = false) (h : Q v t) :
    wpAny (model prog w) A (eval (.Name x pos) env) Q E t := wpAny_Name (wpAny_loadName_local hk hl hn hv h) hd
theorem load_builtin {x : Str} {pos : Pos} {v : Value} {Q : Value → Shared → Prop} (hk : env.scope.kind = .function) (hl : env.kindOf x = some .globalImplicit) (hg : t.heap.Ns env.globals mg) (hm : mg x = none) (hb : t.heap.Ns env.builtins mb) (hv : mb x = some v)
    (hd : (x == ("__debug__" : Str)) = false) (h : Q v t) : wpAny (model prog w) A (eval (.Name x pos) env) Q E t := wpAny_Name (ks_loadName_global hk hl (loadGlobal_builtin hg hm hb hv h)) hd
theorem elt_len {p1 p2 p3 p4 p5 p6 p7 : Pos} (hk : env.scope.kind = .function) (hya : env.kindOf ya = some .local) (hyb : env.kindOf yb = some .local) (hlen : env.kindOf (Str.ofString "len") = some .globalImplicit)
    (hda : (ya == ("__debug__" : Str)) = false) (hdb : (yb == ("__debug__" : Str)) = false)
    (hn : t.heap.Ns env.locals m₂) (ha : m₂ ya = some (.str a ta)) (hb : m₂ yb = some (.str b tb)) (hg : t.heap.Ns env.globals mg) (hm : mg (Str.ofString "len") = none) (hbi : t.heap.Ns env.builtins mb) (hml : mb (Str.ofString "len") = some (.builtin "len"))
    (hal : a.length ≤ 1000) (hbl : b.length ≤ 1000) :
    wpAny (model prog w) A (eval (.BinOp (.Call (.Name (Str.ofString "len") p1) [.Name ya p2] [] p3) .Add (.Call (.Name (Str.ofString "len") p4) [.Name yb p5] [] p6) p7) env) (fun y s₃ => (∃ u, y = .int ((a.length : Int) + b.length) u) ∧ Keeps t s₃) E t := by
  have hd : (Str.ofString "len" == ("__debug__" : Str)) = false := by decide
  refine wpAny_BinOp (Call_Name1 (load_builtin hk hlen hg hm hbi hml hd (PySem.callWith_builtin1 (load_local hk hya hn ha hda (len_str (by omega) ?_)))))
  refine Call_Name1 (load_builtin hk hlen hg hm hbi hml hd (PySem.callWith_builtin1 (load_local hk hyb hn hb hdb (len_str (by omega) ?_))))
  refine wpAny_add_int ⟨⟨_, rfl⟩, t.heap, _, rfl, fun _ _ e => e⟩
theorem elt_join {e0 : Str} {t0 : Tok} {x : Str} {p1 p2 p3 p4 p5 p6 : Pos} {k : Nat} (hk : env.scope.kind = .function) (hya : env.kindOf ya = some .local) (hyb : env.kindOf yb = some .local) (hx : env.kindOf x = some .globalImplicit)
    (hda : (ya == ("__debug__" : Str)) = false) (hdb : (yb == ("__debug__" : Str)) = false) (hdx : (x == ("__debug__" : Str)) = false)
    (hn : t.heap.Ns env.locals m₂) (ha : m₂ ya = some (.str a ta)) (hb : m₂ yb = some (.str b tb)) (hg : t.heap.Ns env.globals mg) (hm : mg x = some (.str e0 t0)) (he0 : e0.length ≤ 16)
    (hal : a.length ≤ 1000) (hbl : b.length ≤ 1000) {pl : Sem Bool} (he : eval (.Call (.Attribute (.Name x p1) (Str.ofString "join") p2) [.Tuple [.Name ya p3, .Name yb p4] k p5] [] p6) env = (do
      let ov ← eval (.Name x p1) env
      standAt p2.atName
      let (f, first) ← holding [ov] (getMethod ov (Str.ofString "join") pl)
      callWith p6 f first (backTo p6 (starEach [.Tuple [.Name ya p3, .Name yb p4] k p5] env)) [])) :
    wpAny (model prog w) A (eval (.Call (.Attribute (.Name x p1) (Str.ofString "join") p2) [.Tuple [.Name ya p3, .Name yb p4] k p5] [] p6) env) (fun y s₃ => (∃ u, y = .str (Txt.join e0 [a, b]) u) ∧ Keeps t s₃) E t := by
  refine MethodCall_ (wpAny_Name (ks_loadName_global hk hx (loadGlobal_global hg hm (GM.join ?_))) hdx) he
  refine callWith_method1 (env := env) (e := .Tuple [.Name ya p3, .Name yb p4] k p5) (rest := []) ?_
  refine spliced_cons (Tuple_ (k := k) ?_)
  refine spliced_cons (load_local hk hya hn ha hda (spliced_cons (load_local hk hyb hn hb hdb (spliced_nil ?_))))
  refine wpAny_newObj_type (spliced_nil ?_)
  refine join_tupleW (items := #[.str a ta, .str b tb]) ⟨_, Heap.get?_push_size _ rfl, rfl, _, rfl⟩ (.cons _ _ (.cons _ _ .nil)) he0 (by simp; omega) fun u' k' => ?_
  exact ⟨⟨_, rfl⟩, _, _, rfl, fun b' o e => Heap.get?_push_of_some _ e⟩
end
end Mine
end
section
open PySem PySem.W PySem.Calls PyProof.Rows Builtin
set_option maxRecDepth 100000
set_option maxHeartbeats 4000000
namespace Mine
theorem lga_kind : builtinKind "list.__getattribute__" = some .slot := by decide +kernel
theorem lga_split : splitId "list.__getattribute__" = some ("list", "__getattribute__") := by decide +kernel
section
variable {prog : Program} {w : World} {A : Around} {E : Value → Shared → Prop} {s : Shared} {x dx : Addr} {its : Array Value} {n : Nat} {od : Obj}
/-- an attribute of an object of a class made of list, found without binding -/
theorem pile_ga {name : Str} {v : Value} {ex : Bool} {Q : Value → Shared → Prop} (X : (K w.params).In s.heap) (I : InstAt s.heap x (pileO dx its n) 125 (some od)) (hf : findObj (K w.params) 125 (some od) name = some (.value v)) (hh : handedIn v = true)
    (h : Q v { s with toks := s.toks + 1 }) : wpAny (model prog w) A (getAttr (.ref x) name ex) Q E s := by
  have hT : Looks (model prog w) s.heap (typeOf (.ref x)) (.ref 125) := I.type
  have hI : Looks (model prog w) s.heap (isInstance (.ref x) (.type "list")) true := hT.andThen (c_list X)
  have hg : Looks (model prog w) s.heap (typeLookup (.ref 125) "__getattribute__") (some (.builtin "list.__getattribute__")) := looks_findIn X (by kernel_rfl)
  have hk : Looks (model prog w) s.heap (typeLookup (.ref 125) "__getattr__") none := looks_findIn X (by kernel_rfl)
  have hb : Looks (model prog w) s.heap (bindSpecial (.builtin "list.__getattribute__") (.ref x)) (.builtin "list.__getattribute__", [.ref x]) := Looks.of_pure (PySem.F.slot_list_getattribute.bind _)
  have L1 := looks_find (M := model prog w) X I hf
  have hho := handedOut_of hh
  obtain ⟨hp, g, d, t, os⟩ := s
  unfold getAttr getAttrBy
  refine wpAny_bind (wpAny_mkText (wpAny_holding (wpAny_bind (hT.at (wpAny_bind (hg.at ?_))))))
  show wpAny _ _ (getAttrByItsOwn (.ref x) (.str name t) (.ref 125) (.builtin "list.__getattribute__") true ex) _ _ _
  unfold getAttrByItsOwn hookBefore
  rw [if_pos (show onTheHeap (.ref 125) = true from rfl)]
  refine wpAny_bind (hk.at ?_)
  refine wpAny_bind (wpAny_attempt (wpAny_holding ?_))
  unfold callGetattribute boundAndCalled
  rw [if_neg (by decide +revert)]
  refine wpAny_bind (hb.at ?_)
  refine wpAny_call (codeAny_call_builtin PySem.F.slot_list_getattribute.plain PySem.F.entry_list_ga ?_)
  show wpAny _ _ (checkBuiltinCall "list.__getattribute__" ⟨[.ref x, .str name t], []⟩) _ _ _
  simp only [checkBuiltinCall, lga_kind, lga_split]
  repeat lk
  show wpAny _ _ (handedOut v) _ _ _
  rw [hho]
  exact wpAny_pure h
/-- the method form: a def or a method of the list's -/
theorem pile_gm {name : Str} {f : Value} {T : String} {pl : Sem Bool} {Q : Value × List Value → Shared → Prop} (X : (K w.params).In s.heap) (I : InstAt s.heap x (pileO dx its n) 125 (some od))
    (hf : findIn (K w.params) (.ref 125) name = some (some f)) (ht : typeIn (K w.params) f = some (.type T)) (hT : (Value.type T != .type "function" && Value.type T != .type "method_descriptor" && Value.type T != .type "wrapper_descriptor") = false) (hs : shadowIn (some od) name = some false) (h : Q (f, [.ref x]) s) :
    wpAny (model prog w) A (getMethod (.ref x) name pl) Q E s := by
  have hcan : (Manifest.canonical "list.__getattribute__" != "object.__getattribute__") = false := by decide +kernel
  unfold getMethod specialOf
  refine wpAny_bind (wpAny_bind (I.type.here ((looks_findIn (r := some (.builtin "list.__getattribute__")) X (by kernel_rfl)).here ?_)))
  dsimp only
  rw [hcan, if_neg (by decide)]
  refine wpAny_bind (wpAny_bind (I.type.here ((looks_findIn (r := none) X (by kernel_rfl)).here ?_)))
  refine wpAny_bind (wpAny_bind (I.type.here ((looks_findIn X hf).here (wpAny_bind ((looks_typeIn X ht).here ?_)))))
  rw [hT, if_neg (by decide)]
  refine wpAny_bind (wpAny_loadPart I.at_ ?_)
  have hd := I.dict
  obtain ⟨r, a, b⟩ := Option.map_eq_some_iff.mp hs
  refine wpAny_bind (wpAny_bind (wpAny_loadPart hd ?_))
  rw [nsLook_of a]
  refine wpAny_pure ?_
  rw [b]
  exact wpAny_bind (wpAny_rule (wpAny_pure h))
end
end Mine
end
section
open PySem PySem.W PySem.Calls PyProof.Rows Builtin
set_option maxRecDepth 100000
set_option maxHeartbeats 4000000
namespace Mine
theorem trip_of {h : Heap} {c P : Addr} {ps : Array Value} (ok5 : h.IsCode c P ps) : TriplesOk ps.toList := by
  obtain ⟨o, vs, file, tf, flags, tg, inF, text, tt, op, q1, q2, q3, q4, q5, q6, q7, q8, q9, q10, q11⟩ := ok5
  exact q10
section
variable {prog : Program} {w : World} {A : Around} {E : Value → Shared → Prop} {s : Shared} {x dx : Addr} {its : Array Value} {n : Nat} {p : Program} {lo : List Str} {mean : ExcName → Option Value} {mg mb : Str → Option Value}
noncomputable abbrev sizeEs (P : Params) (k : Int) (tk tv : Tok) : List DictEntry := [⟨PyData.keyHash P (Str.ofString "_initial_size"), .str (Str.ofString "_initial_size") tk, .int k tv⟩]
noncomputable abbrev fd92 : FuncData := FuncData.mk (Str.ofString "__len__") (Str.ofString "_Accumulator.__len__") f92.a (FuncBody.stmts f92.b) f92.sc 3 [] Value.none Value.none Value.none (Value.str (Str.ofString "cpy313.email.header") 301) Option.none (Value.ref 91) Value.none 0
noncomputable abbrev fd99 : FuncData := FuncData.mk (Str.ofString "__str__") (Str.ofString "_Accumulator.__str__") f99.a (FuncBody.stmts f99.b) f99.sc 3 [] Value.none Value.none Value.none (Value.str (Str.ofString "cpy313.email.header") 301) Option.none (Value.ref 98) Value.none 0
theorem len_ok {k : Int} {tk tv : Tok} {Ts : Nat → Addr} {va vb : Nat → Str} {ta tb : Nat → Tok} {ps : Array Value} {Q : Value → Shared → Prop} (hh : A.handled = none) (hroom : A.depth + 4 < recursionLimit)
    (X : (K w.params).In s.heap) (T : Top p lo mean mg mb s.heap) (hx : s.heap.get? x = some (pileO dx its n)) (hd : s.heap.get? dx = some (dictOf (sizeEs w.params k tk tv) 1))
    (hit : ∀ j, j < its.size → its[j]? = some (.ref (Ts j))) (ht : ∀ j, j < its.size → s.heap.IsTuple (Ts j) #[.str (va j) (ta j), .str (vb j) (tb j)]) (hl : ∀ j, j < its.size → (va j).length ≤ 1000 ∧ (vb j).length ≤ 1000)
    (htab : s.heap.get? 87 = some { cls := .none, data := .fields ps }) (hps : TriplesOk ps.toList)
    (hQ : ∀ s' t' ps', (∀ b o, b ≠ 87 → s.heap.get? b = some o → s'.heap.get? b = some o) → s'.heap.get? 87 = some { cls := .none, data := .fields ps' } → TriplesOk ps'.toList → s'.os = s.os → (AllBare s.gens → AllBare s'.gens) →
      Q (.int (k + preSum (fun j => ((va j).length : Int) + (vb j).length) its.size) t') s') :
    wpAny (model prog w) A (call (.ref 92) [.ref x]) Q E s := by
  refine wpAny_call ?_
  refine ks_codeAny_call_defAt (fd := fd92) (binds := [(Str.ofString "self", .ref x)]) (Nat.lt_of_le_of_lt (Nat.le_add_right _ _) hroom) (X 92 (o92 w.params) (by kernel_rfl)) rfl T.nolimit (codeRec_of X (by kernel_rfl)) rfl (BindsTo.of_eq rfl) (by decide +kernel) (fun y hy => by cases List.mem_singleton.mp hy; rfl) ?_
  intro h₀ hns hk
  refine wpAt_of_wpAny ?_
  show wpAny _ _ (execs (Stmt.Return (some (Expr.Call _ _ _ _)) _ :: []) _) _ _ _
  have hg1 := T.g.keeps hk
  have hb1 := T.b.keeps hk
  have X1 := X.keeps hk
  have t87 := hk _ _ htab
  refine wpAny_execs_cons ?_
  refine wpAny_Return_some ?_
  refine Call_Name2 ?_ rfl
  refine load_builtin (v := .builtin "sum") rfl rfl hg1 (mg_none_of X T.g (by kernel_rfl)) hb1 ((T.builtins _ (by decide)).trans (by kernel_rfl)) (by decide) ?_
  refine Calls.callWith_builtin rfl (Calls.evalArgs_plain (Calls.spliced_cons ?_))
  obtain ⟨bm, ob, b1, b2, b3, b4, b5, b6⟩ := T.bmain
  refine gen_pile (P := 87) (c := 91) (ps := ps) (va := fun j => .str (va j) (ta j)) (vb := fun j => .str (vb j) (tb j)) (Fv := fun j y => ∃ u, y = .int (((va j).length : Int) + (vb j).length) u) (Ts := Ts) (dx := dx) (n := n) (its := its) (x := x)
    hh rfl rfl (by decide +kernel) rfl rfl rfl (by decide) rfl (by show A.depth + 1 < _; omega) X1 (hk _ _ hx) hit (fun j hj => (ht j hj).at fun o e => hk _ o e) (fun Q' q => load_local rfl rfl hns rfl (by decide) q) rfl ?hok ?htab ?hPx ?hPT (T.nolimit.keeps hk) ?hPs hg1 b1 b2 (hk _ _ b3) b4 b5 b6 ?hPb ?hPg ?helt ?hQ (fun x => rfl)
  case hok => exact ⟨o91 w.params, _, _, _, _, _, _, _, _, _, hk _ _ (X 91 (o91 w.params) (by kernel_rfl)), rfl, rfl, rfl, rfl, rfl, rfl, t87, rfl, hps, by decide⟩
  case htab => exact ⟨⟨o91 w.params, _, hk _ _ (X 91 (o91 w.params) (by kernel_rfl)), rfl, rfl, rfl⟩, t87⟩
  case hPx => rintro rfl; rw [hx] at htab; cases htab
  case hPT =>
    intro j hj e
    obtain ⟨o, e1, e2, _⟩ := ht j hj
    rw [e, htab] at e1
    cases e1
    cases e2
  case hPs => decide
  case hPb =>
    rintro rfl
    rw [htab] at b3
    cases b3
    cases b6
  case hPg => exact (by decide : mainGlobals ≠ 87)
  case helt =>
    intro code C A' E' i t m₂ hA hi hn ha hb hkk
    exact elt_len rfl rfl rfl rfl (by decide) (by decide) hn ha hb (T.g.at' fun o e => hkk _ _ (by decide) (hk _ _ e)) (mg_none_of X T.g (by kernel_rfl)) (T.b.at' fun o e => hkk _ _ (by decide) (hk _ _ e)) ((T.builtins _ (by decide)).trans (by kernel_rfl)) (hl i hi).1 (hl i hi).2
  case hQ =>
    intro s₅ a fp wr g St ps' W hst hT haf hfp hwr hk5 ok5 tab5 hos hgens
    have up : ∀ b o, b ≠ 87 → s.heap.get? b = some o → s₅.heap.get? b = some o := fun b o hb e => hk5 b o hb (hk b o e)
    have nx : x ≠ 87 := by rintro rfl; rw [hx] at htab; cases htab
    have nd : dx ≠ 87 := by rintro rfl; rw [hd] at htab; cases htab
    have X5 : (K w.params).In s₅.heap := fun b o e => up b o (by rintro rfl; exact absurd e (by rw [show (K w.params).lookup 87 = none by kernel_rfl]; exact fun h => nomatch h)) (X b o e)
    have I5 : InstAt s₅.heap x (pileO dx its n) 125 (some (dictOf (sizeEs w.params k tk tv) 1)) := ⟨up _ _ nx hx, rfl, rfl, up _ _ nd hd⟩
    refine Calls.spliced_cons (Attribute_name (load_local (m₂ := fun y => [(Str.ofString "self", Value.ref x)].reverse.lookup y) rfl rfl (hns.at' fun o e => hk5 _ o ?_ e) rfl (by decide) ?_))
    · intro e9
      exact absurd (Heap.lt_size htab) (by rw [← e9]; exact Nat.lt_irrefl _)
    refine pile_ga X5 I5 (findObj_own (K := K w.params) (by kernel_rfl) (attr := none) (by kernel_rfl) (by kernel_rfl) (v := .int k tv) rfl) rfl ?_
    refine Calls.spliced_nil ?_
    have st5 := W.frame 0 s₅ s₅.heap (s₅.toks + 1) hst (Nat.le_succ _) fun _ _ _ e => e
    refine sum_start (W.in4_1) st5 hfp (fun j => ((va j).length : Int) + (vb j).length) (fun j v hv => hv.2) fun s' t' hm => ?_
    have nw : ∀ b o, s.heap.get? b = some o → b ∉ wr := fun b o e hm' => by
      have l1 := hwr b hm'
      have l2 := Heap.lt_size (hk b o e)
      exact Nat.lt_irrefl _ (Nat.lt_of_lt_of_le l2 l1)
    
    have tr5 : TriplesOk ps'.toList := trip_of ok5
    refine hQ s' t' ps' (fun b o hb e => hm.heap b o (nw b o e) (up b o hb e)) (hm.heap _ _ (nw _ _ htab) tab5.2) tr5 (hm.os.trans hos) fun G => (hgens G).moved hm.gens
end
end Mine
end
section
open PySem PySem.W PySem.Calls PyProof.Rows Builtin
set_option maxRecDepth 100000
set_option maxHeartbeats 4000000
namespace Mine
theorem join2 (a b : Str) : Txt.join (Str.ofString "") [a, b] = a ++ b := by
  obtain ⟨a⟩ := a
  obtain ⟨b⟩ := b
  show (⟨a ++ (Str.ofString "").cps ++ b⟩ : Str) = ⟨a ++ b⟩
  rw [show (Str.ofString "").cps = #[] from rfl, Array.append_empty]
theorem fold_le (k c : Nat) : ∀ (l : List Str) (a : Nat), (∀ y ∈ l, y.length + k ≤ c) → l.foldl (fun n y => n + y.length + k) a ≤ a + c * l.length
  | [], a, _ => by simp
  | y :: l, a, h => by
    have h1 := fold_le k c l (a + y.length + k) fun z hz => h z (.tail _ hz)
    have h2 := h y (.head _)
    simp only [List.foldl_cons, List.length_cons, Nat.mul_add, Nat.mul_one]
    omega
theorem join_ok {sep : Str} {l : List Str} {c : Nat} (h : ∀ y ∈ l, y.length + sep.length ≤ c) (hc : c * l.length ≤ 16000000) : JoinOk sep l = true := by
  unfold JoinOk
  have := fold_le sep.length c l 0 h
  rw [List.foldl_toArray]
  simp only [Builtin.Str.tooLong, sizeLine_eq, Bool.not_eq_true', decide_eq_false_iff_not]
  omega
section
variable {prog : Program} {w : World} {A : Around} {E : Value → Shared → Prop} {s : Shared} {x dx : Addr} {its : Array Value} {n : Nat} {p : Program} {lo : List Str} {mean : ExcName → Option Value} {mg mb : Str → Option Value}
theorem load_global {t : Shared} {env : Env} {x : Str} {pos : Pos} {v : Value} {Q : Value → Shared → Prop} (hk : env.scope.kind = .function) (hl : env.kindOf x = some .globalImplicit) (hg : t.heap.Ns env.globals mg) (hm : mg x = some v)
    (hd : (x == ("__debug__" : Str)) = false) (h : Q v t) : wpAny (model prog w) A (eval (.Name x pos) env) Q E t := wpAny_Name (ks_loadName_global hk hl (loadGlobal_global hg hm h)) hd
theorem str_ok {Ts : Nat → Addr} {va vb : Nat → Str} {ta tb : Nat → Tok} {ps : Array Value} {Q : Value → Shared → Prop} (hh : A.handled = none) (hroom : A.depth + 4 < recursionLimit)
    (X : (K w.params).In s.heap) (T : Top p lo mean mg mb s.heap) (hx : s.heap.get? x = some (pileO dx its n))
    (hit : ∀ j, j < its.size → its[j]? = some (.ref (Ts j))) (ht : ∀ j, j < its.size → s.heap.IsTuple (Ts j) #[.str (va j) (ta j), .str (vb j) (tb j)]) (hl : ∀ j, j < its.size → (va j).length ≤ 1000 ∧ (vb j).length ≤ 1000) (hn : its.size ≤ 1000)
    (htab : s.heap.get? 94 = some { cls := .none, data := .fields ps }) (hps : TriplesOk ps.toList)
    (hQ : ∀ s' t' ps', (∀ b o, b ≠ 94 → s.heap.get? b = some o → s'.heap.get? b = some o) → s'.heap.get? 94 = some { cls := .none, data := .fields ps' } → TriplesOk ps'.toList → s'.os = s.os → (AllBare s.gens → AllBare s'.gens) →
      Q (.str (Txt.join (Str.ofString "") ((List.range its.size).map fun j => Txt.join (Str.ofString "") [va j, vb j])) t') s') :
    wpAny (model prog w) A (call (.ref 99) [.ref x]) Q E s := by
  refine wpAny_call ?_
  refine ks_codeAny_call_defAt (fd := fd99) (binds := [(Str.ofString "self", .ref x)]) (Nat.lt_of_le_of_lt (Nat.le_add_right _ _) hroom) (X 99 (o99 w.params) (by kernel_rfl)) rfl T.nolimit (codeRec_of X (by kernel_rfl)) rfl (BindsTo.of_eq rfl) (by decide +kernel) (fun y hy => by cases List.mem_singleton.mp hy; rfl) ?_
  intro h₀ hns hk
  refine wpAt_of_wpAny ?_
  show wpAny _ _ (execs (Stmt.Return (some (Expr.Call _ _ _ _)) _ :: []) _) _ _ _
  have hg1 := T.g.keeps hk
  have hb1 := T.b.keeps hk
  have X1 := X.keeps hk
  have t94 := hk _ _ htab
  refine wpAny_execs_cons ?_
  refine wpAny_Return_some ?_
  refine MethodCall_ ?_ rfl
  refine load_global (v := .str (Str.ofString "") 303) rfl rfl hg1 (mg_of X T.g (by kernel_rfl)) (by decide) (GM.join ?_)
  refine callWith_method1 ?_
  refine Calls.spliced_cons ?_
  obtain ⟨bm, ob, b1, b2, b3, b4, b5, b6⟩ := T.bmain
  refine gen_pile (P := 94) (c := 98) (ps := ps) (va := fun j => .str (va j) (ta j)) (vb := fun j => .str (vb j) (tb j)) (Fv := fun j y => ∃ u, y = .str (Txt.join (Str.ofString "") [va j, vb j]) u) (Ts := Ts) (dx := dx) (n := n) (its := its) (x := x)
    hh rfl rfl (by decide +kernel) rfl rfl rfl (by decide) rfl (by show A.depth + 1 < _; omega) X1 (hk _ _ hx) hit (fun j hj => (ht j hj).at fun o e => hk _ o e) (fun Q' q => load_local rfl rfl hns rfl (by decide) q) rfl ?hok ?htab ?hPx ?hPT (T.nolimit.keeps hk) ?hPs hg1 b1 b2 (hk _ _ b3) b4 b5 b6 ?hPb ?hPg ?helt ?hQ (fun x => rfl)
  case hok => exact ⟨o98 w.params, _, _, _, _, _, _, _, _, _, hk _ _ (X 98 (o98 w.params) (by kernel_rfl)), rfl, rfl, rfl, rfl, rfl, rfl, t94, rfl, hps, by decide⟩
  case htab => exact ⟨⟨o98 w.params, _, hk _ _ (X 98 (o98 w.params) (by kernel_rfl)), rfl, rfl, rfl⟩, t94⟩
  case hPx => rintro rfl; rw [hx] at htab; cases htab
  case hPT =>
    intro j hj e
    obtain ⟨o, e1, e2, _⟩ := ht j hj
    rw [e, htab] at e1
    cases e1
    cases e2
  case hPs => decide
  case hPb =>
    rintro rfl
    rw [htab] at b3
    cases b3
    cases b6
  case hPg => exact (by decide : mainGlobals ≠ 94)
  case helt =>
    intro code C A' E' i t m₂ hA hi hn ha hb hkk
    exact elt_join rfl rfl rfl rfl (by decide) (by decide) (by decide) hn ha hb (T.g.at' fun o e => hkk _ _ (by decide) (hk _ _ e)) (mg_of (v := .str (Str.ofString "") 303) X T.g (by kernel_rfl)) (by decide) (hl i hi).1 (hl i hi).2 rfl
  case hQ =>
    intro s₅ a fp wr g St ps' W hst hT haf hfp hwr hk5 ok5 tab5 hos hgens
    have up : ∀ b o, b ≠ 94 → s.heap.get? b = some o → s₅.heap.get? b = some o := fun b o hb e => hk5 b o hb (hk b o e)
    refine Calls.spliced_nil ?_
    refine SC.joinGen (W.in4_2) hT hst hfp haf (fun i v hv => let ⟨u, e⟩ := hv.2; ⟨_, u, e⟩) (fun s' lt hm hacc => ?_) (by rw [sizeLine_eq]; omega)
    have hl2 : lt.map (·.1) = (List.range its.size).map fun j => Txt.join (Str.ofString "") [va j, vb j] := by
      apply List.ext_getElem?
      intro j
      have hsz : lt.length = its.size := by simpa [strValues] using hacc.1
      by_cases hj : j < its.size
      · have hj' : j < lt.length := hsz ▸ hj
        obtain ⟨u, hv⟩ := (hacc.2 j (.str lt[j].1 lt[j].2) (by simp [strValues, List.getElem?_eq_getElem hj'])).2
        injection hv with h1 _
        simp [List.getElem?_eq_getElem hj', hj, h1]
      · rw [List.getElem?_eq_none (by simpa [hsz] using Nat.le_of_not_lt hj), List.getElem?_eq_none (by simpa using Nat.le_of_not_lt hj)]
    rw [hl2]
    have nw : ∀ b o, s.heap.get? b = some o → b ∉ wr := fun b o e hm' => by
      have l1 := hwr b hm'
      have l2 := Heap.lt_size (hk b o e)
      exact Nat.lt_irrefl _ (Nat.lt_of_lt_of_le l2 l1)
    
    have tr5 : TriplesOk ps'.toList := trip_of ok5
    refine ⟨?_, fun t' tk => hQ { s' with toks := tk } t' ps' (fun b o hb e => hm.heap b o (nw b o e) (up b o hb e)) (hm.heap _ _ (nw _ _ htab) tab5.2) tr5 (hm.os.trans hos) fun G => (hgens G).moved hm.gens⟩
    refine join_ok (c := 2000) (fun y hy => ?_) (by rw [List.length_map, List.length_range]; omega)
    obtain ⟨j, hj, rfl⟩ := List.mem_map.mp hy
    have := hl j (List.mem_range.mp hj)
    rw [join2]
    show (va j ++ vb j).length + 0 ≤ 2000
    have e : (va j ++ vb j).length = (va j).length + (vb j).length := Array.size_append ..
    omega
end
end Mine
end
section
open PySem PySem.W PySem.Calls PyProof.Rows Builtin
set_option maxRecDepth 100000
set_option maxHeartbeats 4000000
namespace Mine
section
variable {prog : Program} {w : World} {A : Around} {E : Value → Shared → Prop} {s : Shared} {x dx : Addr} {its : Array Value} {n : Nat} {od : Obj}
theorem pile_ground {m : Str → Option Value} {h₁ : Heap} (X : (K w.params).In s.heap) (xK : (K w.params).lookup x = none) (dK : (K w.params).lookup dx = none) (hx : s.heap.get? x = some (pileO dx its n)) (hd : s.heap.get? dx = some od)
    (hns : h₁.Ns s.heap.objs.size m) (hk : ∀ b o, s.heap.get? b = some o → h₁.get? b = some o) :
    Fr (hideAll s.heap [x, dx]) s.heap.objs.size h₁ m ∧ (K w.params).In (hideAll s.heap [x, dx]) ∧ News (hideAll s.heap [x, dx]) s.heap.objs.size h₁ [(x, pileO dx its n), (dx, od)] := by
  refine ⟨⟨hns, fun b o e => hk b o (of_hideAll _ e), Nat.le_of_eq (hideAll_size _ _)⟩, fun b o e => hideAll_get _ (X b o e) fun hm => ?_, fun p hp => ?_⟩
  · rcases List.mem_cons.mp hm with rfl | hm
    · rw [xK] at e; cases e
    · rcases List.mem_cons.mp hm with rfl | hm
      · rw [dK] at e; cases e
      · cases hm
  · rcases List.mem_cons.mp hp with rfl | hp
    · exact ⟨hk _ _ hx, Nat.ne_of_lt (Heap.lt_size hx), hideAll_none _ (.head _)⟩
    · rcases List.mem_cons.mp hp with rfl | hp
      · exact ⟨hk _ _ hd, Nat.ne_of_lt (Heap.lt_size hd), hideAll_none _ (.tail _ (.head _))⟩
      · cases hp
theorem ground_keep {m : Str → Option Value} {h' : Heap} {L : Addr} (F : Fr (hideAll s.heap [x, dx]) L h' m) : ∀ b o, b ≠ x → b ≠ dx → s.heap.get? b = some o → h'.get? b = some o := fun b o h1 h2 e => F.keep b o (hideAll_get _ e fun hm => by
  rcases List.mem_cons.mp hm with q | hm
  · exact h1 q
  · rcases List.mem_cons.mp hm with q | hm
    · exact h2 q
    · cases hm)
noncomputable abbrev fd69 : FuncData := FuncData.mk (Str.ofString "push") (Str.ofString "_Accumulator.push") f69.a (FuncBody.stmts f69.b) f69.sc 3 [] Value.none Value.none Value.none (Value.str (Str.ofString "cpy313.email.header") 301) Option.none (Value.ref 68) Value.none 0
theorem push_ok {k : Int} {tk tv ta tb : Tok} {a b : Str} {Q : Value → Shared → Prop} (hroom : A.depth + 4 < recursionLimit)
    (X : (K w.params).In s.heap) (hlim : s.heap.NoLimit) (xK : (K w.params).lookup x = none) (dK : (K w.params).lookup dx = none) (hx : s.heap.get? x = some (pileO dx its n)) (hd : s.heap.get? dx = some (dictOf (sizeEs w.params k tk tv) 1)) (hz : its.size ≤ 1000)
    (hQ : ∀ h' tk' T n', (∀ b o, b ≠ x → s.heap.get? b = some o → h'.get? b = some o) → s.heap.objs.size ≤ T → h'.get? T = some { cls := .type "tuple", data := .seq #[.str a ta, .str b tb] } → h'.get? x = some (pileO dx (its.push (.ref T)) n') →
      Q .none { s with heap := h', toks := tk' }) :
    wpAny (model prog w) A (call (.ref 69) [.ref x, .str a ta, .str b tb]) Q E s := by
  refine wpAny_call ?_
  refine ks_codeAny_call_defAt (fd := fd69) (binds := [(Str.ofString "self", .ref x), (Str.ofString "fws", .str a ta), (Str.ofString "string", .str b tb)]) (Nat.lt_of_le_of_lt (Nat.le_add_right _ _) hroom) (X 69 (o69 w.params) (by kernel_rfl)) rfl hlim (codeRec_of X (by kernel_rfl)) rfl (BindsTo.of_eq rfl) (by decide +kernel) (fun y hy => by rcases List.mem_cons.mp hy with rfl | hy; rfl; rcases List.mem_cons.mp hy with rfl | hy; rfl; cases List.mem_singleton.mp hy; rfl) ?_
  intro h₀ hns hk
  refine wpAt_of_wpAny ?_
  show wpAny _ _ (execs (Stmt.Expr (Expr.Call _ _ _ _) _ :: []) _) _ _ _
  obtain ⟨F, X₀, N⟩ := pile_ground X xK dK hx hd hns hk
  have I : InstAt h₀ x (pileO dx its n) 125 (some (dictOf (sizeEs w.params k tk tv) 1)) := ⟨hk _ _ hx, rfl, rfl, hk _ _ hd⟩
  refine wpAny_execs_cons (wpAny_Expr ?_)
  refine MethodCall_ ?_ rfl
  refine load_local (v := .ref x) rfl rfl hns rfl (by decide) ?_
  refine pile_gm (f := .builtin "list.append") (T := "method_descriptor") (X.keeps hk) I (by kernel_rfl) (by kernel_rfl) (by decide) rfl ?_
  refine callWith_method1 ?_
  refine Calls.spliced_cons (Tuple_ (k := 0) ?_)
  refine Calls.spliced_cons (load_local (v := .str a ta) rfl rfl hns rfl (by decide) ?_)
  refine Calls.spliced_cons (load_local (v := .str b tb) rfl rfl hns rfl (by decide) (Calls.spliced_nil ?_))
  refine wpAny_newObj_type (Calls.spliced_nil ?_)
  have lL : s.heap.objs.size < h₀.objs.size := by
    obtain ⟨o, _, _, e, _⟩ := hns
    exact Heap.lt_size e
  have N' : News (hideAll s.heap [x, dx]) s.heap.objs.size (h₀.push { cls := .type "tuple", data := .seq #[.str a ta, .str b tb] }) ((x, pileO dx its n) :: [(dx, dictOf (sizeEs w.params k tk tv) 1), (h₀.objs.size, { cls := .type "tuple", data := .seq #[.str a ta, .str b tb] })]) := by
    intro p hp
    rcases List.mem_cons.mp hp with rfl | hp
    · have z := N _ (.head _)
      exact ⟨Heap.get?_push_of_some _ z.1, z.2⟩
    rcases List.mem_cons.mp hp with rfl | hp
    · have z := N _ (.tail _ (.head _))
      exact ⟨Heap.get?_push_of_some _ z.1, z.2⟩
    cases List.mem_singleton.mp hp
    refine ⟨Heap.get?_push_size _ rfl, Nat.ne_of_gt lL, ?_⟩
    cases e : (hideAll s.heap [x, dx]).get? h₀.objs.size with
    | none => rfl
    | some o =>
      have := Heap.lt_size e
      rw [hideAll_size] at this
      exact absurd this (Nat.not_lt.mpr (Nat.le_of_lt lL))
  refine pile_append (F.push _) X₀ N' (fun p hp => ?_) hz fun n' h' F' N'' => ?_
  · rcases List.mem_cons.mp hp with rfl | hp
    · rintro rfl
      rw [hx] at hd
      cases hd
    · cases List.mem_singleton.mp hp
      exact Nat.ne_of_gt (Nat.lt_trans (Heap.lt_size hx) lL)
  refine wpAny_execs_nil (hQ h' _ h₀.objs.size n' (fun b o hb e => ?_) (Nat.le_of_lt lL) (N'' _ (.tail _ (.tail _ (.head _)))).1 (N'' _ (.head _)).1)
  by_cases hbd : b = dx
  · subst hbd
    rw [hd] at e
    cases e
    exact (N'' _ (.tail _ (.head _))).1
  · exact ground_keep F' b o hb hbd e
end
end Mine
end
section
open PySem PySem.W PySem.Calls PyProof.Rows Builtin
set_option maxRecDepth 100000
set_option maxHeartbeats 4000000
namespace Mine
section
variable {prog : Program} {w : World} {A : Around} {E : Value → Shared → Prop} {s : Shared} {x dx : Addr} {its : Array Value} {n : Nat} {od : Obj} {env : Env} {h₀ : Heap} {L : Addr} {m : Str → Option Value}
theorem pile_sub {value : Expr} {lower upper : Option Expr} {p pos : Pos} {Q : Value → Shared → Prop}
    (h : wpAny (model prog w) A (eval value env) (fun o s₁ => wpAny (model prog w) A (eval (.Slice lower upper none p) env) (fun i s₂ => o = .ref x ∧ (K w.params).In s₂.heap ∧ InstAt s₂.heap x (pileO dx its n) 125 (some od) ∧ wpAny (model prog w) A (getItem o i) Q E s₂) E s₁) E s)
    (ht : ∀ o r, letTemporaryGo value o r = pure () := by intro _ _; rfl) :
    wpAny (model prog w) A (eval (.Subscript value (.Slice lower upper none p) pos) env) Q E s := by
  rw [eval_Subscript]
  refine wpAny_bind (wpAny_mono h (fun o s₁ h₁ => wpAny_bind (wpAny_holding (wpAny_mono h₁ (fun i s₂ h₂ => wpAny_bind (wpAny_standAt ?_)) fun _ _ x => x))) fun _ _ x => x)
  obtain ⟨rfl, X, I, hg⟩ := h₂
  have fin : wpAny (model prog w) A (operate [i, .ref x] (getItem (.ref x) i)) (fun r s₃ => wpAny (model prog w) A (letTemporaryGo value (.ref x) r >>= fun _ => pure r) Q E s₃) E s₂ :=
    wpAny_operating (wpAny_mono hg (fun r s₃ h₃ => wpAny_bind (wpAny_of_eq (ht (.ref x) r) (wpAny_pure h₃))) fun _ _ x => x)
  have hT : Looks (model prog w) s₂.heap (typeOf (.ref x)) (.ref 125) := I.type
  have hgi : Looks (model prog w) s₂.heap (typeLookup (.ref 125) "__getitem__") (some (.builtin "list.__getitem__")) := looks_findIn X (by kernel_rfl)
  unfold getitemInPython specialOf
  refine wpAny_bind (wpAny_bind (wpAny_bind (hT.here (hgi.here ?_))))
  exact wpAny_pure (wpAny_bind fin)
noncomputable abbrev fd77 : FuncData := FuncData.mk (Str.ofString "pop_from") (Str.ofString "_Accumulator.pop_from") f77.a (FuncBody.stmts f77.b) f77.sc 3 [] (Value.ref 70) Value.none Value.none (Value.str (Str.ofString "cpy313.email.header") 301) Option.none (Value.ref 76) Value.none 0
theorem pop_from_ok {k : Int} {tk tv ti : Tok} {i : Nat} {Q : Value → Shared → Prop} (hroom : A.depth + 4 < recursionLimit)
    (X : (K w.params).In s.heap) (hlim : s.heap.NoLimit) (xK : (K w.params).lookup x = none) (dK : (K w.params).lookup dx = none) (hx : s.heap.get? x = some (pileO dx its n)) (hd : s.heap.get? dx = some (dictOf (sizeEs w.params k tk tv) 1)) (hz : its.size ≤ 1000) (hi : i ≤ its.size)
    (hQ : ∀ h' tk' l n', (∀ b o, b ≠ x → s.heap.get? b = some o → h'.get? b = some o) → s.heap.get? l = none → h'.get? l = some (listOf (its.toList.drop i).toArray 0) → h'.get? x = some (pileO dx (its.toList.take i).toArray n') →
      Q (.ref l) { s with heap := h', toks := tk' }) :
    wpAny (model prog w) A (call (.ref 77) [.ref x, .int i ti]) Q E s := by
  refine wpAny_call ?_
  refine ks_codeAny_call_defAt (fd := fd77) (binds := [(Str.ofString "self", .ref x), (Str.ofString "i", .int i ti)]) (Nat.lt_of_le_of_lt (Nat.le_add_right _ _) hroom) (X 77 (o77 w.params) (by kernel_rfl)) rfl hlim (codeRec_of X (by kernel_rfl)) rfl (binds_K (K := K w.params) (T := 70) (o := o70 w.params) X rfl (by kernel_rfl) rfl rfl rfl) (by decide +kernel) (fun y hy => by rcases List.mem_cons.mp hy with rfl | hy; rfl; cases List.mem_singleton.mp hy; rfl) ?_
  intro h₁ hns hk
  refine wpAt_of_wpAny ?_
  show wpAny _ _ (execs (Stmt.Assign [Expr.Name _ _] (Expr.Subscript (Expr.Name _ _) (Expr.Slice (some (Expr.Name _ _)) none none _) _) _ :: Stmt.Assign [Expr.Subscript (Expr.Name _ _) (Expr.Slice (some (Expr.Name _ _)) none none _) _] (Expr.List [] _) _ :: Stmt.Return (some (Expr.Name _ _)) _ :: []) _) _ _ _
  have ndx : dx ≠ x := by rintro rfl; rw [hx] at hd; cases hd
  obtain ⟨F, X₀, N⟩ := pile_ground X xK dK hx hd hns hk
  have I : InstAt h₁ x (pileO dx its n) 125 (some (dictOf (sizeEs w.params k tk tv) 1)) := ⟨hk _ _ hx, rfl, rfl, hk _ _ hd⟩

  refine wpAny_execs_cons (wpAny_Assign_Name ?_)
  refine pile_sub (x := x) (dx := dx) (its := its) (n := n) (od := dictOf (sizeEs w.params k tk tv) 1) ?_
  refine load_local (v := .ref x) rfl rfl hns rfl (by decide) ?_
  refine wpAny_Slice (evalPart_some_step (load_local (v := .int i ti) rfl rfl hns rfl (by decide) (evalPart_none_step (evalPart_none_step ?_))))
  have sl1 : (h₁.push (sliceO (.int i ti) .none .none)).get? h₁.objs.size = some (sliceO (.int i ti) .none .none) := Heap.get?_push_size _ rfl
  have N1 : News _ _ (h₁.push (sliceO (.int i ti) .none .none)) [(x, pileO dx its n), (dx, dictOf (sizeEs w.params k tk tv) 1)] := fun p hp => ⟨Heap.get?_push_of_some _ (N p hp).1, (N p hp).2⟩
  refine ⟨rfl, X.keeps fun b o e => Heap.get?_push_of_some _ (hk b o e), ⟨Heap.get?_push_of_some _ I.at_, rfl, rfl, Heap.get?_push_of_some _ I.dict⟩, ?_⟩
  refine pile_gi (F.push _) X₀ N1 sl1 hi hz fun l' h₂ F2 N2 o2 => ?_
  refine wpAny_storeName_local rfl F2.ns (fun h₃ ns3 sb3 => ?_)
  show wpAny _ _ (execs (Stmt.Assign _ _ _ :: _) _) _ _ _
  have F3 := F2.set ns3 sb3
  have N3 := N2.set sb3
  refine wpAny_execs_cons (wpAny_Assign_Subscript (List_ (Calls.spliced_nil ?_)))
  refine wpAny_newObj_type ?_
  refine load_local (v := .ref x) rfl rfl (F3.push _).ns rfl (by decide) ?_
  refine wpAny_Slice (evalPart_some_step (load_local (v := .int i ti) rfl rfl (F3.push _).ns rfl (by decide) (evalPart_none_step (evalPart_none_step ?_))))
  have lx3 : x < h₃.objs.size := Heap.lt_size (N3 _ (.tail _ (.head _))).1
  have lst : ((h₃.push (listOf #[] 0)).push (sliceO (.int i ti) .none .none)).get? h₃.objs.size = some (listOf #[] 0) := Heap.get?_push_of_some _ (Heap.get?_push_size _ rfl)
  have slc : ((h₃.push (listOf #[] 0)).push (sliceO (.int i ti) .none .none)).get? (h₃.push (listOf #[] 0)).objs.size = some (sliceO (.int i ti) .none .none) := Heap.get?_push_size _ rfl
  have lne : l' ≠ x := Nat.ne_of_gt (o2 _ (.head _))
  have N4 : News (hideAll s.heap [x, dx]) s.heap.objs.size ((h₃.push (listOf #[] 0)).push (sliceO (.int i ti) .none .none)) ((x, pileO dx its n) :: [(l', listOf (its.toList.drop i).toArray 0), (dx, dictOf (sizeEs w.params k tk tv) 1)]) := by
    intro p hp
    have hp' : p ∈ (l', listOf (its.toList.drop i).toArray 0) :: (x, pileO dx its n) :: [(dx, dictOf (sizeEs w.params k tk tv) 1)] := by
      simp only [List.mem_cons, List.not_mem_nil, or_false] at hp ⊢
      rcases hp with q | q | q
      · exact .inr (.inl q)
      · exact .inl q
      · exact .inr (.inr q)
    have z := N3 p hp'
    exact ⟨Heap.get?_push_of_some _ (Heap.get?_push_of_some _ z.1), z.2⟩
  refine pile_si ((F3.push _).push _) X₀ N4 (fun p hp => ?_) slc lst (by simpa using Nat.ne_of_lt lx3) hi hz (Nat.zero_le _) fun n' h₄ F4 N5 => ?_
  · rcases List.mem_cons.mp hp with rfl | hp
    · exact lne
    · cases List.mem_singleton.mp hp
      exact ndx
  show wpAny _ _ (execs (Stmt.Return _ _ :: _) _) _ _ _
  refine wpAny_execs_cons (wpAny_Return_some (load_local (v := .ref l') rfl rfl F4.ns rfl (by decide) ?_))
  have fr := (N3 _ (.head _)).2.2
  have e4 : (List.take i its.toList ++ (#[] : Array Value).toList).toArray = (List.take i its.toList).toArray := by simp
  rw [e4] at N5
  refine hQ h₄ _ l' n' (fun b o hb e => ?_) ?_ (N5 _ (.tail _ (.head _))).1 (N5 _ (.head _)).1
  · by_cases hbd : b = dx
    · subst hbd
      rw [hd] at e
      cases e
      exact (N5 _ (.tail _ (.tail _ (.head _)))).1
    · exact ground_keep F4 b o hb hbd e
  · cases e : s.heap.get? l' with
    | none => rfl
    | some o =>
      have q := hideAll_get [x, dx] e fun hm => by
        rcases List.mem_cons.mp hm with q | hm
        · exact lne q
        · exact Nat.ne_of_gt (o2 _ (.tail _ (.head _))) (List.mem_singleton.mp hm)
      rw [fr] at q
      cases q
end
end Mine
end
section
open PySem PySem.W PySem.Calls PyProof.Rows Builtin
set_option maxRecDepth 100000
set_option maxHeartbeats 4000000
namespace Mine
section
variable {w : World} {A : Around} {E : Value → Shared → Prop} {s : Shared} {x dx : Addr} {its : Array Value} {n : Nat} {od : Obj} {p : Program} {lo : List Str} {mean : ExcName → Option Value} {mg mb : Str → Option Value}
theorem wd_typ_len : typeOf (.builtin "list.__len__") = pure (.type "wrapper_descriptor") := by show builtinType _ = _; rw [builtinType_eq_fast]; kernel_rfl
theorem wd_typ_init : typeOf (.builtin "list.__init__") = pure (.type "wrapper_descriptor") := by show builtinType _ = _; rw [builtinType_eq_fast]; kernel_rfl
theorem callWith_wrap0 {M : Model} {q : Addr} {i : String} {pos : Pos} {env : Env} {Q : Value → Shared → Prop} (hw : s.heap.get? q = some (wrapO i x)) (h : wpAny M A (call (.ref q) []) Q E s) :
    wpAny M A (callWith pos (.ref q) [] (backTo pos (starEach [] env)) []) Q E s := by
  show wpAny M A (callWith pos (.ref q) [] [] []) Q E s
  unfold callWith
  refine wpAny_bind (wpAny_holding (evalArgs_nil3 (wpAny_bind (wpAny_standAt ?_))))
  refine wpAny_bind (m := keeperOf (.ref q)) ?_
  unfold keeperOf
  refine wpAny_bind (wpAny_load hw ?_)
  simp only [show (Value.type "method-wrapper" != Value.type "method") = true by decide, show (Value.type "method-wrapper" == Value.type "builtin_function_or_method" || Value.type "method-wrapper" == Value.type "method-wrapper") = true by decide, if_true]
  refine wpAny_pure ?_
  exact wpAny_bind (wpAny_mono h (fun r s₂ hr => wpAny_bind (wpAny_holding (wpAny_point (wpAny_pure hr)))) fun _ _ x => x)
noncomputable abbrev fd122 : FuncData := FuncData.mk (Str.ofString "part_count") (Str.ofString "_Accumulator.part_count") f122.a (FuncBody.stmts f122.b) f122.sc 3 [(Str.ofString "__class__", 49)] Value.none Value.none Value.none (Value.str (Str.ofString "cpy313.email.header") 301) Option.none (Value.ref 121) (Value.ref 115) 0
theorem part_count_ok {Q : Value → Shared → Prop} (hroom : A.depth + 4 < recursionLimit)
    (X : (K w.params).In s.heap) (T : Top p lo mean mg mb s.heap) (xK : (K w.params).lookup x = none) (dK : (K w.params).lookup dx = none) (hx : s.heap.get? x = some (pileO dx its n)) (hd : s.heap.get? dx = some od)
    (hQ : ∀ h' tk' u, (∀ b o, s.heap.get? b = some o → h'.get? b = some o) → Q (.int its.size u) { s with heap := h', toks := tk' }) :
    wpAny (model PySem.Challenge.rw_xl0024_01.prog w) A (call (.ref 122) [.ref x]) Q E s := by
  refine wpAny_call ?_
  refine ks_codeAny_call_defAt (fd := fd122) (binds := [(Str.ofString "self", .ref x)]) (Nat.lt_of_le_of_lt (Nat.le_add_right _ _) hroom) (X 122 (o122 w.params) (by kernel_rfl)) rfl T.nolimit (codeRec_of X (by kernel_rfl)) rfl (BindsTo.of_eq rfl) (by decide +kernel) (fun y hy => by cases List.mem_singleton.mp hy; rfl) ?_
  intro h₁ hns hk
  have X1 := X.keeps hk
  obtain ⟨F, X₀, N⟩ := pile_ground X xK dK hx hd hns hk
  show _root_.PySem.wpAt _ _ _ (execs (Stmt.Return (some (Expr.Call (Expr.Attribute _ _ _) _ _ _)) _ :: []) _) _ _ _
  refine ks_wpAt_execs_cons (ks_wpAt_Return_some (ks_wpAt_MethodCall ?_ rfl))
  refine ks_wpAt_super_base (env := callEnv fd122 s.heap.objs.size 122) (fd := fd122) rfl rfl (by decide) rfl (X1 122 (o122 w.params) (by kernel_rfl)) rfl rfl rfl (X1 121 (o121 w.params) (by kernel_rfl)) rfl rfl (by decide +kernel) (by decide +kernel) ?_
  refine ks_loadName_global rfl rfl (loadGlobal_builtin (T.g.keeps hk) (mg_none_of X T.g (by kernel_rfl)) (T.b.keeps hk) ((T.builtins _ (by decide +kernel)).trans (by kernel_rfl)) ⟨rfl, ?_⟩)
  refine wpAny_loadName_free (v := .ref 125) rfl rfl rfl ⟨o49 w.params, X1 49 (o49 w.params) (by kernel_rfl), rfl⟩ ?_
  refine wpAny_loadName_local (v := .ref x) rfl rfl hns rfl ?_
  refine ks_wpAny_isType_cls (X1 125 (o125 w.params) (by kernel_rfl)) rfl ⟨rfl, ?_⟩
  refine ks_wpAny_call_super (X1 125 (o125 w.params) (by kernel_rfl)) rfl (hk _ _ hx) rfl (fun c e => nomatch e) (c_self X1) (fun h' e k => ?_)
  have X2 : (K w.params).In h' := X1.keeps k
  refine sup_method (h := h') (i := "list.__len__") e (looks_opaque X2 (by kernel_rfl)) (c_cls X2) (l := [.type "list", .type "object"]) rfl X2 (by kernel_rfl) wd_typ_len ?_ (by decide) (fun A' Q' E' q => wd_len (k _ _ (hk _ _ hx)) rfl (c_list X2) q) ?_
  · rintro rfl
    rw [c_get X] at hx
    cases hx
  refine callWith_wrap0 (x := x) (i := "list.__len__") (Heap.get?_push_size _ rfl) ?_
  refine wrap_len (s := ⟨h'.push (wrapO "list.__len__" x), _, _, _, _⟩) (rest := [(dx, od)]) (F := (Fr.push (h := h') ⟨F.ns.keeps k, fun b o e => k b o (F.keep b o e), F.above⟩ _)) X₀ (fun p hp => ⟨Heap.get?_push_of_some _ (k _ _ (N p hp).1), (N p hp).2⟩) (Heap.get?_push_size _ rfl) ?_
  exact hQ _ _ _ fun b o e => Heap.get?_push_of_some _ (k _ _ (hk b o e))
end
end Mine
end
section
open PySem PySem.W PySem.Calls PyProof.Rows Builtin
open Builtin.ObjectAttr
set_option maxRecDepth 100000
set_option maxHeartbeats 4000000
namespace Mine
theorem refuse_list (self : Value) : refuseLoop self "__setattr__" [.type "list", .type "object"] = pure () := by kernel_rfl
section
variable {prog : Program} {w : World} {A : Around} {E : Value → Shared → Prop} {s : Shared} {h₀ : Heap} {L x dx : Addr} {m : Str → Option Value} {its : Array Value} {n : Nat} {R : Result → Shared → Prop}
theorem pile_osa {es es' : List DictEntry} {n' n2 : Nat} {name : Str} {tk : Tok} {v : Value} (X : (K w.params).In s.heap) (I : InstAt s.heap x (pileO dx its n) 125 (some (dictOf es n2)))
    (ht : findIn (K w.params) (.ref 125) name = some none) (hl : (getL name es).isSome = true) (e : (putL name (PyData.keyHash w.params name) (.str name s.toks) v es, putN name es n2) = (es', n')) (hz : es'.length ≤ 1000)
    (h : ∀ h', Heap.SameBut dx s.heap h' → h'.get? dx = some (dictOf es' n') → R (.ok (.ret .none)) { s with heap := h', toks := s.toks + 1 }) :
    codeAny (model prog w) A (.call (.builtin "object.__setattr__") ⟨[.ref x, .str name tk, v], []⟩) R s := by
  have SF := PySem.F.store_object
  have hT : Looks (model prog w) s.heap (typeOf (.ref x)) (.ref 125) := I.type
  have sub : Looks (model prog w) s.heap (isInstance (.ref x) (.type "object")) true := hT.andThen (looks_mroIn X (by kernel_rfl))
  have hm := c_cls (prog := prog) X
  have hcd : Looks (model prog w) s.heap (typeLookup (.ref 125) name) none := looks_findIn X ht
  obtain ⟨e1, e2⟩ := Prod.mk.inj e
  have D := I.dict
  refine codeAny_call_builtin SF.slot.plain SF.entry (@check_slot (model prog w) _ _ s "object.__setattr__" "object" "__setattr__" (.ref x) [.str name tk, v] [] _ SF.kind SF.split sub (SF.args (.ref x) (.str name tk) v) ?_)
  rw [osa_eq, refuse_eq]
  refine wpAny_bind (wpAny_bind (hT.here (wpAny_bind (hm.here ?_))))
  rw [refuseLoop_ref, refuse_list]
  refine wpAny_pure (wpAny_bind (hT.here (wpAny_bind (hcd.here (wpAny_bind (wpAny_pure ?_))))))
  have hx := I.at_
  obtain ⟨hp, g, d, t, os⟩ := s
  dsimp only at D hx
  unfold storeInOwnDict ownDictForStores storeInDict newKeyGuard nsSet
  obtain ⟨cd, sl, hC, hcd⟩ : ∃ cd sl, hp.get? 125 = some ⟨.type "type", none, .cls cd, sl⟩ ∧ cd.hasDict = true := ⟨_, _, c_get X, rfl⟩
  repeat lk
  rw [hcd]
  repeat lk
  have q := Heap.get?_update_self (Obj.putName name (PyData.keyHash w.params name) (.str name t) v) D (by rw [putName_dict]; rfl)
  rw [putName_dict, e2] at q
  have e1' : putL name (PyData.keyHash w.params name) (.str name t) v es = es' := e1
  rw [e1'] at q
  have z := h _ (Heap.SameBut.update hp dx (Obj.putName name (PyData.keyHash w.params name) (.str name t) v)) q
  have c : (!es.toArray.any (·.key.isStr name) && es.toArray.any (·.refKey)) = false := by
    rw [← Array.any_toList, ← Array.any_toList]
    show (!es.any (·.key.isStr name) && es.any (·.refKey)) = false
    unfold getL at hl
    split at hl
    · rename_i en he
      rw [List.any_eq_true.mpr ⟨en, List.mem_of_find?_eq_some he, List.find?_some he⟩]; rfl
    · split at hl
      · cases hl
      · rename_i z; rw [Bool.not_eq_true] at z; rw [z, Bool.and_false]
  rw [aRefKeyMayBeTheName_at, c]
  refine wpAny_updatePart D ?_
  exact wpAny_bind (wpAny_lookBehind q (pastItsLine_dict (by rw [List.size_toArray, sizeLine_eq]; omega)) (wpAny_pure z))
end
section
variable {prog : Program} {w : World} {A : Around} {E : Value → Shared → Prop} {s : Shared} {x dx : Addr} {its : Array Value} {n : Nat}
theorem c_seta (P : Params) : findIn (K P) (.ref 125) "__setattr__" = some (some (.builtin "object.__setattr__")) := by kernel_rfl
theorem pile_put {es es' : List DictEntry} {n' n2 : Nat} {name : Str} {v : Value} {Q : Unit → Shared → Prop} (X : (K w.params).In s.heap) (I : InstAt s.heap x (pileO dx its n) 125 (some (dictOf es n2)))
    (ht : findIn (K w.params) (.ref 125) name = some none) (hl : (getL name es).isSome = true) (e : (putL name (PyData.keyHash w.params name) (.str name (s.toks + 1)) v es, putN name es n2) = (es', n')) (hz : es'.length ≤ 1000)
    (h : ∀ h', Heap.SameBut dx s.heap h' → h'.get? dx = some (dictOf es' n') → Q () { s with heap := h', toks := s.toks + 2 }) :
    wpAny (model prog w) A (setAttr (.ref x) name v) Q E s :=
  set_plain X I (c_seta _) (pile_osa (s := { s with toks := s.toks + 1 }) X I ht hl e hz fun h' a b => h h' a b)
noncomputable abbrev fd107 : FuncData := FuncData.mk (Str.ofString "reset") (Str.ofString "_Accumulator.reset") f107.a (FuncBody.stmts f107.b) f107.sc 3 [] (Value.ref 100) Value.none Value.none (Value.str (Str.ofString "cpy313.email.header") 301) Option.none (Value.ref 106) Value.none 0
theorem reset_ok {k : Int} {tk tv : Tok} {l : Addr} {its2 : Array Value} {n2 : Nat} {Q : Value → Shared → Prop} (hroom : A.depth + 4 < recursionLimit)
    (X : (K w.params).In s.heap) (hlim : s.heap.NoLimit) (xK : (K w.params).lookup x = none) (dK : (K w.params).lookup dx = none) (hx : s.heap.get? x = some (pileO dx its n)) (hd : s.heap.get? dx = some (dictOf (sizeEs w.params k tk tv) 1))
    (hl : s.heap.get? l = some (listOf its2 n2)) (hz : its.size ≤ 1000) (hz2 : its2.size ≤ 1000)
    (hQ : ∀ h' tk' u n', (∀ b o, b ≠ x → b ≠ dx → s.heap.get? b = some o → h'.get? b = some o) → h'.get? x = some (pileO dx its2 n') → h'.get? dx = some (dictOf (sizeEs w.params 0 tk u) 1) → Q .none { s with heap := h', toks := tk' }) :
    wpAny (model prog w) A (call (.ref 107) [.ref x, .ref l]) Q E s := by
  refine wpAny_call ?_
  refine ks_codeAny_call_defAt (fd := fd107) (binds := [(Str.ofString "self", .ref x), (Str.ofString "startval", .ref l)]) (Nat.lt_of_le_of_lt (Nat.le_add_right _ _) hroom) (X 107 (o107 w.params) (by kernel_rfl)) rfl hlim (codeRec_of X (by kernel_rfl)) rfl (binds_K (K := K w.params) (T := 100) (o := o100 w.params) X rfl (by kernel_rfl) rfl rfl rfl) (by decide +kernel) (fun y hy => by rcases List.mem_cons.mp hy with rfl | hy; rfl; cases List.mem_singleton.mp hy; rfl) ?_
  intro h₁ hns hk
  refine wpAt_of_wpAny ?_
  show wpAny _ _ (execs (Stmt.If (Expr.Compare (Expr.Name _ _) [_] [Expr.Constant _ _ _] _) _ _ _ :: Stmt.Assign [Expr.Subscript (Expr.Name _ _) (Expr.Slice none none none _) _] (Expr.Name _ _) _ :: Stmt.Assign [Expr.Attribute _ _ _] (Expr.Constant _ _ _) _ :: []) _) _ _ _
  have ndx : dx ≠ x := by rintro rfl; rw [hx] at hd; cases hd
  have lnx : l ≠ x := by rintro rfl; rw [hx] at hl; cases hl
  obtain ⟨F, X₀, N⟩ := pile_ground X xK dK hx hd hns hk
  refine wpAny_execs_cons (wpAny_If (wpAny_isTrue_Compare1 ?_))
  refine load_local (v := .ref l) rfl rfl hns rfl (by decide) ?_
  refine wpAny_of_eq (a := Value.none) rfl ?_
  refine is_ref_none ?_
  refine wpAny_truthy_bool ?_
  rw [if_neg (by decide)]
  refine wpAny_execs_nil ?_
  show wpAny _ _ (execs (Stmt.Assign _ _ _ :: _) _) _ _ _
  refine wpAny_execs_cons (wpAny_Assign_Subscript ?_)
  refine load_local (v := .ref l) rfl rfl hns rfl (by decide) ?_
  refine load_local (v := .ref x) rfl rfl hns rfl (by decide) ?_
  refine wpAny_Slice (evalPart_none_step (evalPart_none_step (evalPart_none_step ?_)))
  have N1 : News (hideAll s.heap [x, dx]) s.heap.objs.size (h₁.push (sliceO .none .none .none)) ((x, pileO dx its n) :: [(dx, dictOf (sizeEs w.params k tk tv) 1)]) := fun p hp => ⟨Heap.get?_push_of_some _ (N p hp).1, (N p hp).2⟩
  refine pile_sa (F.push _) X₀ N1 (fun p hp => by cases List.mem_singleton.mp hp; exact ndx) (Heap.get?_push_size _ rfl) (Heap.get?_push_of_some _ (hk _ _ hl)) (by simpa using lnx.symm) hz hz2 fun n' h₂ F2 N2 => ?_
  show wpAny _ _ (execs (Stmt.Assign _ _ _ :: _) _) _ _ _
  refine wpAny_execs_cons (plainObj_wpAny_Assign_Attribute ?_ rfl)
  refine wpAny_Constant_int ?_
  refine load_local (v := .ref x) rfl rfl F2.ns rfl (by decide) ?_
  have zx := N2 _ (.head _)
  have zd := N2 _ (.tail _ (.head _))
  refine pile_put (dx := dx) (its := its2) (n := n') (es := sizeEs w.params k tk tv) (n2 := 1) (X₀.keeps F2.keep) ⟨zx.1, rfl, rfl, zd.1⟩ (by kernel_rfl) rfl rfl (Nat.le_of_ble_eq_true rfl) fun h' sb e => ?_
  refine wpAny_execs_nil (hQ h' _ _ n' (fun b o hb hbd eb => (sb.2 b hbd).trans (ground_keep F2 b o hb hbd eb)) ((sb.2 x ndx.symm).trans zx.1) e)
end
end Mine
end
section
open PySem PySem.W PySem.Calls PyProof.Rows Builtin
set_option maxRecDepth 100000
set_option maxHeartbeats 4000000
namespace Mine
section
variable {w : World} {A : Around} {E : Value → Shared → Prop} {s : Shared} {x dx : Addr} {its : Array Value} {n : Nat} {p : Program} {lo : List Str} {mean : ExcName → Option Value} {mg mb : Str → Option Value}
noncomputable abbrev fd62 : FuncData := FuncData.mk (Str.ofString "__init__") (Str.ofString "_Accumulator.__init__") f62.a (FuncBody.stmts f62.b) f62.sc 3 [(Str.ofString "__class__", 49)] (Value.ref 54) Value.none Value.none (Value.str (Str.ofString "cpy313.email.header") 301) Option.none (Value.ref 61) (Value.ref 55) 0
theorem init_ok {k : Int} {tv : Tok} {R : Result → Shared → Prop} (hroom : A.depth + 4 < recursionLimit)
    (X : (K w.params).In s.heap) (T : Top p lo mean mg mb s.heap) (xK : (K w.params).lookup x = none) (dK : (K w.params).lookup dx = none) (hx : s.heap.get? x = some (pileO dx #[] n)) (hd : s.heap.get? dx = some (dictOf [] 0)) (b1 : mainGlobals ≠ dx) (b2 : builtinsNs ≠ dx)
    (hQ : ∀ h' tk' tk n', (∀ b o, b ≠ x → b ≠ dx → s.heap.get? b = some o → h'.get? b = some o) → h'.get? x = some (pileO dx #[] n') → h'.get? dx = some (dictOf (sizeEs w.params k tk tv) 1) → R (.ok (.ret .none)) { s with heap := h', toks := tk' }) :
    codeAny (model PySem.Challenge.rw_xl0024_01.prog w) A (.call (.ref 62) ⟨[.ref x, .int k tv], []⟩) R s := by
  refine ks_codeAny_call_defAt (fd := fd62) (binds := [(Str.ofString "self", .ref x), (Str.ofString "initial_size", .int k tv)]) (Nat.lt_of_le_of_lt (Nat.le_add_right _ _) hroom) (X 62 (o62 w.params) (by kernel_rfl)) rfl T.nolimit (codeRec_of X (by kernel_rfl)) rfl (binds_K (K := K w.params) (T := 54) (o := o54 w.params) X rfl (by kernel_rfl) rfl rfl rfl) (by decide +kernel) (fun y hy => by rcases List.mem_cons.mp hy with rfl | hy; rfl; cases List.mem_singleton.mp hy; rfl) ?_
  intro h₁ hns hk
  have X1 := X.keeps hk
  have ndx : dx ≠ x := by rintro rfl; rw [hx] at hd; cases hd
  obtain ⟨F, X₀, N⟩ := pile_ground X xK dK hx hd hns hk
  show _root_.PySem.wpAt _ _ _ (execs (Stmt.Assign [Expr.Attribute _ _ _] (Expr.Name _ _) _ :: Stmt.Expr (Expr.Call (Expr.Attribute _ _ _) _ _ _) _ :: []) _) _ _ _
  refine ks_wpAt_execs_cons (wpAt_of_wpAny (plainObj_wpAny_Assign_Attribute ?_ rfl))
  refine load_local (v := .int k tv) rfl rfl hns rfl (by decide) ?_
  refine load_local (v := .ref x) rfl rfl hns rfl (by decide) ?_
  refine pile_put (dx := dx) (its := #[]) (n := n) (es := []) (n2 := 0) X1 ⟨hk _ _ hx, rfl, rfl, hk _ _ hd⟩ (by kernel_rfl) rfl rfl (Nat.le_of_ble_eq_true rfl) fun h₂ sb e => ?_
  show _root_.PySem.wpAt _ _ _ (execs (Stmt.Expr (Expr.Call (Expr.Attribute _ _ _) _ _ _) _ :: []) _) _ _ _
  have X2 : (K w.params).In h₂ := fun b o eb => (sb.2 b (by rintro rfl; rw [dK] at eb; cases eb)).trans (X1 b o eb)
  have x2 : h₂.get? x = some (pileO dx #[] n) := (sb.2 x ndx.symm).trans (hk _ _ hx)
  have ns2 := hns.at' fun o eo => (sb.2 _ (Nat.ne_of_gt (Heap.lt_size hd))).trans eo
  have F2 : Fr (hideAll s.heap [x, dx]) s.heap.objs.size h₂ _ := F.change sb (N _ (.tail _ (.head _))).2.1 (N _ (.tail _ (.head _))).2.2
  have N2 : News (hideAll s.heap [x, dx]) s.heap.objs.size h₂ ((x, pileO dx #[] n) :: [(dx, _)]) := fun p hp => by
    rcases List.mem_cons.mp hp with rfl | hp
    · exact ⟨x2, (N _ (.head _)).2⟩
    · cases List.mem_singleton.mp hp
      exact ⟨e, (N _ (.tail _ (.head _))).2⟩
  refine ks_wpAt_execs_cons (ks_wpAt_Expr_any (ks_wpAt_MethodCall ?_ rfl) rfl rfl)
  refine ks_wpAt_super_base (env := callEnv fd62 s.heap.objs.size 62) (fd := fd62) rfl rfl (by decide) rfl (X2 62 (o62 w.params) (by kernel_rfl)) rfl rfl rfl (X2 61 (o61 w.params) (by kernel_rfl)) rfl rfl (by decide +kernel) (by decide +kernel) ?_
  refine ks_loadName_global rfl rfl (loadGlobal_builtin ((T.g.keeps hk).at' fun o eo => (sb.2 _ b1).trans eo) (mg_none_of X T.g (by kernel_rfl)) ((T.b.keeps hk).at' fun o eo => (sb.2 _ b2).trans eo) ((T.builtins _ (by decide +kernel)).trans (by kernel_rfl)) ⟨rfl, ?_⟩)
  refine wpAny_loadName_free (v := .ref 125) rfl rfl rfl ⟨o49 w.params, X2 49 (o49 w.params) (by kernel_rfl), rfl⟩ ?_
  refine wpAny_loadName_local (v := .ref x) rfl rfl ns2 rfl ?_
  refine ks_wpAny_isType_cls (X2 125 (o125 w.params) (by kernel_rfl)) rfl ⟨rfl, ?_⟩
  refine ks_wpAny_call_super (X2 125 (o125 w.params) (by kernel_rfl)) rfl x2 rfl (fun c e => nomatch e) (c_self X2) (fun h' e k => ?_)
  have X3 : (K w.params).In h' := X2.keeps k
  refine sup_method (h := h') (i := "list.__init__") e (looks_opaque X3 (by kernel_rfl)) (c_cls X3) (l := [.type "list", .type "object"]) rfl X3 (by kernel_rfl) wd_typ_init ?_ (by decide) (fun A' Q' E' q => wd_init (k _ _ x2) rfl (c_list X3) q) ?_
  · rintro rfl
    rw [c_get X] at hx
    cases hx
  refine callWith_wrap0 (x := x) (i := "list.__init__") (Heap.get?_push_size _ rfl) ?_
  refine wrap_init (s := ⟨h'.push (wrapO "list.__init__" x), _, _, _, _⟩) (rest := [(dx, _)]) (F := (Fr.push (h := h') ⟨F2.ns.keeps k, fun b o e => k b o (F2.keep b o e), F2.above⟩ _)) X₀ (fun p hp => ⟨Heap.get?_push_of_some _ (k _ _ (N2 p hp).1), (N2 p hp).2⟩) (fun p hp => by cases List.mem_singleton.mp hp; exact ndx) (Heap.get?_push_size _ rfl) fun n' h3 F3 N3 => ?_
  refine wpAt_of_wpAny (wpAny_execs_nil (hQ h3 _ _ n' (fun b o hb hbd eb => ground_keep F3 b o hb hbd eb) (N3 _ (.head _)).1 (N3 _ (.tail _ (.head _))).1))
theorem make_ok {k : Int} {tv : Tok} {Q : Value → Shared → Prop} (hroom : A.depth + 6 < recursionLimit) (X : (K w.params).In s.heap) (T : Top p lo mean mg mb s.heap)
    (hQ : ∀ h' tk' x dx tk n', (∀ b o, s.heap.get? b = some o → h'.get? b = some o) → s.heap.get? x = none → s.heap.get? dx = none → dx ≠ x → h'.get? x = some (pileO dx #[] n') → h'.get? dx = some (dictOf (sizeEs w.params k tk tv) 1) →
      Q (.ref x) { s with heap := h', toks := tk' }) :
    wpAny (model PySem.Challenge.rw_xl0024_01.prog w) A (call (.ref 125) [.int k tv]) Q E s := by
  have gm := T.g
  have bm := T.b
  obtain ⟨h, g, d, t, os⟩ := s
  have fr : ∀ i, h.objs.size ≤ i → h.get? i = none := fun i hi => by
    cases e : h.get? i with
    | none => rfl
    | some o => exact absurd (Heap.lt_size e) (Nat.not_lt.mpr hi)
  have kn : ∀ i, h.objs.size ≤ i → (K w.params).lookup i = none := fun i hi => by
    cases e : (K w.params).lookup i with
    | none => rfl
    | some o => have := X _ _ e; rw [fr i hi] at this; cases this
  have up : ∀ b o, h.get? b = some o → ((h.push emptyDict).push (pileO h.objs.size #[] 0)).get? b = some o := fun b o e => Heap.get?_push_of_some _ (Heap.get?_push_of_some _ e)
  refine wpAny_call (pile_make X ?_)
  refine init_ok (s := ⟨(h.push emptyDict).push (pileO h.objs.size #[] 0), g, d, t, os⟩) (x := h.objs.size + 1) (dx := h.objs.size) (n := 0) (p := p) (lo := lo) (mean := mean) (mg := mg) (mb := mb) ?_ (X.keeps up) (T.keeps up) (kn _ (Nat.le_succ _)) (kn _ (Nat.le_refl _)) (by rw [← Heap.size_push (o := emptyDict)]; exact Heap.get?_push_size _ rfl) (Heap.get?_push_of_some _ (Heap.get?_push_size _ rfl)) ?_ ?_ ?_
  · show A.depth + 1 + 4 < _
    omega
  · obtain ⟨o, _, _, e, _⟩ := gm
    exact Nat.ne_of_lt (Heap.lt_size e)
  · obtain ⟨o, _, _, e, _⟩ := bm
    exact Nat.ne_of_lt (Heap.lt_size e)
  intro h' tk' tk n' keep hx hd
  have ne : ∀ b o, h.get? b = some o → b ≠ h.objs.size + 1 ∧ b ≠ h.objs.size := fun b o e => ⟨Nat.ne_of_lt (Nat.lt_succ_of_lt (Heap.lt_size e)), Nat.ne_of_lt (Heap.lt_size e)⟩
  exact ⟨rfl, hQ h' tk' _ _ tk n' (fun b o e => keep b o (ne b o e).1 (ne b o e).2 (up b o e)) (fr _ (Nat.le_succ _)) (fr _ (Nat.le_refl _)) (Nat.ne_of_lt (Nat.lt_succ_self _)) hx hd⟩
end
end Mine
end
section
open PySem PySem.W PySem.Calls PyProof.Rows Builtin
set_option maxRecDepth 100000
set_option maxHeartbeats 4000000
namespace Mine
section
variable {w : World} {A : Around} {E : Value → Shared → Prop} {s : Shared} {x dx L : Addr} {its : Array Value} {n : Nat} {p : Program} {lo : List Str} {mean : ExcName → Option Value} {mg mb : Str → Option Value} {h₀ h h' : Heap} {m : Str → Option Value} {news news' : List (Addr × Obj)} {o o' : Obj}
/-- a heap that differs at one address of the ledger alone -/
theorem led_upd (F : Fr h₀ L h m) (N : News h₀ L h news) (U : Upd x o o' news news') (keep : ∀ b q, b ≠ x → h.get? b = some q → h'.get? b = some q) (hx : h'.get? x = some o') : Fr h₀ L h' m ∧ News h₀ L h' news' := by
  obtain ⟨pre, post, rfl, rfl, a, b⟩ := U.split
  have z := N (x, o) (by simp)
  refine ⟨⟨F.ns.at' fun q e => keep _ q (Ne.symm z.2.1) e, fun c q e => keep c q (fun hc => by rw [hc, z.2.2] at e; cases e) (F.keep c q e), F.above⟩, fun q hq => ?_⟩
  rcases List.mem_append.mp hq with hq | hq
  · have y := N q (List.mem_append.mpr (.inl hq))
    exact ⟨keep _ _ (a q hq) y.1, y.2⟩
  · rcases List.mem_cons.mp hq with rfl | hq
    · exact ⟨hx, z.2⟩
    · have y := N q (List.mem_append.mpr (.inr (.tail _ hq)))
      exact ⟨keep _ _ (b q hq) y.1, y.2⟩
/-- an object that is new since h -/
theorem led_new {T : Addr} {oT : Obj} {ms : List (Addr × Obj)} (F : Fr h₀ L h m) (N' : News h₀ L h' ms) (hT : h.get? T = none) (e : h'.get? T = some oT) : News h₀ L h' ((T, oT) :: ms) := by
  intro q hq
  rcases List.mem_cons.mp hq with rfl | hq
  · refine ⟨e, ?_, ?_⟩
    · rintro rfl
      obtain ⟨o, _, _, eo, _⟩ := F.ns
      rw [hT] at eo
      cases eo
    · cases c : h₀.get? T with
      | none => rfl
      | some o => have := F.keep _ _ c; rw [hT] at this; cases this
  · exact N' q hq
theorem led_off {T : Addr} (N : News h₀ L h news) (hT : h.get? T = none) : ∀ p ∈ news, @Ne Nat p.1 T := fun p hp e => by
  have := (N p hp).1
  rw [e, hT] at this
  cases this
theorem led_K (X₀ : (K w.params).In h₀) (N : News h₀ L h news) (hm : (x, o) ∈ news) : (K w.params).lookup x = none := by
  cases e : (K w.params).lookup x with
  | none => rfl
  | some q => have := X₀ _ _ e; rw [(N _ hm).2.2] at this; cases this
theorem fr_all (F : Fr h₀ L h m) (keep : ∀ b q, h.get? b = some q → h'.get? b = some q) : Fr h₀ L h' m := ⟨F.ns.keeps keep, fun b q e => keep b q (F.keep b q e), F.above⟩
theorem news_all (N : News h₀ L h news) (keep : ∀ b q, h.get? b = some q → h'.get? b = some q) : News h₀ L h' news := fun p hp => ⟨keep _ _ (N p hp).1, (N p hp).2⟩
noncomputable abbrev tupO (a : Str) (ta : Tok) (b : Str) (tb : Tok) : Obj := { cls := .type "tuple", data := .seq #[.str a ta, .str b tb] }
theorem count_led {Q : Value → Shared → Prop} (F : Fr h₀ L s.heap m) (X₀ : (K w.params).In h₀) (N : News h₀ L s.heap news) (T : Top p lo mean mg mb h₀) (mx : (x, pileO dx its n) ∈ news) {od : Obj} (md : (dx, od) ∈ news) (hroom : A.depth + 4 < recursionLimit)
    (hQ : ∀ u h' tk', Fr h₀ L h' m → News h₀ L h' news → Q (.int its.size u) { s with heap := h', toks := tk' }) :
    wpAny (model PySem.Challenge.rw_xl0024_01.prog w) A (call (.ref 122) [.ref x]) Q E s := by
  refine part_count_ok hroom (X₀.keeps F.keep) (T.keeps F.keep) (led_K X₀ N mx) (led_K X₀ N md) (N _ mx).1 (N _ md).1 fun h' tk' u keep => hQ u h' tk' (fr_all F keep) (news_all N keep)
end
end Mine
end
section
open PySem PySem.W PySem.Calls PyProof.Rows Builtin
set_option maxRecDepth 100000
set_option maxHeartbeats 4000000
namespace Mine
section
variable {prog : Program} {w : World} {A : Around} {E : Value → Shared → Prop} {s : Shared} {x dx L : Addr} {n : Nat} {p : Program} {lo : List Str} {mean : ExcName → Option Value} {mg mb : Str → Option Value} {h₀ h h' : Heap} {m : Str → Option Value} {news : List (Addr × Obj)}
noncomputable abbrev tabO (ps : Array Value) : Obj := { cls := .none, data := .fields ps }
noncomputable def four {α : Type} (a b c d : α) : Nat → α
  | 0 => a
  | 1 => b
  | 2 => c
  | _ => d
theorem four_all {P : Nat → Prop} (h0 : P 0) (h1 : P 1) (h2 : P 2) (h3 : P 3) : ∀ j, j < 4 → P j
  | 0, _ => h0
  | 1, _ => h1
  | 2, _ => h2
  | 3, _ => h3
  | j + 4, h => absurd h (by omega)
theorem join4 (a b c d : Str) : Txt.join (Str.ofString "") [a, b, c, d] = a ++ b ++ c ++ d := by
  obtain ⟨a⟩ := a
  obtain ⟨b⟩ := b
  obtain ⟨c⟩ := c
  obtain ⟨d⟩ := d
  show (⟨a ++ (Str.ofString "").cps ++ b ++ (Str.ofString "").cps ++ c ++ (Str.ofString "").cps ++ d⟩ : Str) = ⟨a ++ b ++ c ++ d⟩
  rw [show (Str.ofString "").cps = #[] from rfl, Array.append_empty, Array.append_empty, Array.append_empty]
theorem len_led {k : Int} {tk tv : Tok} {T0 T1 T2 T3 : Addr} {l0 l1 l2 l3 r0 r1 r2 r3 : Str} {u0 u1 u2 u3 v0 v1 v2 v3 : Tok} {ps : Array Value} {Q : Value → Shared → Prop} {nx : Array Value → List (Addr × Obj)}
    (F : Fr h₀ L s.heap m) (X₀ : (K w.params).In h₀) (N : News h₀ L s.heap news) (T : Top p lo mean mg mb h₀) (hh : A.handled = none) (hroom : A.depth + 5 < recursionLimit)
    (mx : (x, pileO dx #[.ref T0, .ref T1, .ref T2, .ref T3] n) ∈ news) (md : (dx, dictOf (sizeEs w.params k tk tv) 1) ∈ news) (m0 : (T0, tupO l0 u0 r0 v0) ∈ news) (m1 : (T1, tupO l1 u1 r1 v1) ∈ news) (m2 : (T2, tupO l2 u2 r2 v2) ∈ news) (m3 : (T3, tupO l3 u3 r3 v3) ∈ news)
    (b0 : l0.length ≤ 1000 ∧ r0.length ≤ 1000) (b1 : l1.length ≤ 1000 ∧ r1.length ≤ 1000) (b2 : l2.length ≤ 1000 ∧ r2.length ≤ 1000) (b3 : l3.length ≤ 1000 ∧ r3.length ≤ 1000) (hk : 0 ≤ k ∧ k ≤ 1000)
    (mt : (87, tabO ps) ∈ news) (hps : TriplesOk ps.toList) (U : ∀ ps', Upd 87 (tabO ps) (tabO ps') news (nx ps'))
    (hQ : ∀ s' t ps', Fr h₀ L s'.heap m → News h₀ L s'.heap (nx ps') → TriplesOk ps'.toList → s'.os = s.os → (AllBare s.gens → AllBare s'.gens) →
      Q (.int (k + (l0.length + r0.length + l1.length + r1.length + l2.length + r2.length + l3.length + r3.length : Nat)) t) s') :
    wpAny (model prog w) A (call (.builtin "len") [.ref x]) Q E s := by
  have I : InstAt s.heap x (pileO dx #[.ref T0, .ref T1, .ref T2, .ref T3] n) 125 (some (dictOf (sizeEs w.params k tk tv) 1)) := ⟨(N _ mx).1, rfl, rfl, (N _ md).1⟩
  refine len_K (f := 92) F X₀ I (by kernel_rfl) (by kernel_rfl) ?_
  refine len_ok (A := A.in1) (Ts := four T0 T1 T2 T3) (va := four l0 l1 l2 l3) (vb := four r0 r1 r2 r3) (ta := four u0 u1 u2 u3) (tb := four v0 v1 v2 v3) hh (by show A.depth + 4 < _; omega) (X₀.keeps F.keep) (T.keeps F.keep) (N _ mx).1 (N _ md).1
    (four_all rfl rfl rfl rfl) (four_all ⟨_, (N _ m0).1, rfl, _, rfl⟩ ⟨_, (N _ m1).1, rfl, _, rfl⟩ ⟨_, (N _ m2).1, rfl, _, rfl⟩ ⟨_, (N _ m3).1, rfl, _, rfl⟩) (four_all b0 b1 b2 b3) (N _ mt).1 hps fun s' t' ps' keep tab tr os gs => ?_
  obtain ⟨F', N'⟩ := led_upd F N (U ps') keep tab
  have e : preSum (fun j => ((four l0 l1 l2 l3 j).length : Int) + (four r0 r1 r2 r3 j).length) 4 = ((l0.length + r0.length + l1.length + r1.length + l2.length + r2.length + l3.length + r3.length : Nat) : Int) := by
    simp only [preSum, four]
    omega
  show W.LenBack Q (.int (k + preSum (fun j => ((four l0 l1 l2 l3 j).length : Int) + (four r0 r1 r2 r3 j).length) 4) t') s'
  rw [e]
  refine ⟨⟨by omega, by omega⟩, ?_⟩
  exact hQ { s' with toks := s'.toks + 1 } s'.toks ps' F' N' tr os gs
theorem str_led {k : Int} {tk tv : Tok} {T0 T1 T2 T3 : Addr} {l0 l1 l2 l3 r0 r1 r2 r3 : Str} {u0 u1 u2 u3 v0 v1 v2 v3 : Tok} {ps : Array Value} {Q : Value → Shared → Prop} {nx : Array Value → List (Addr × Obj)}
    (F : Fr h₀ L s.heap m) (X₀ : (K w.params).In h₀) (N : News h₀ L s.heap news) (T : Top p lo mean mg mb h₀) (hh : A.handled = none) (hroom : A.depth + 6 < recursionLimit) (hu : A.in1.in1.units < cLine)
    (mx : (x, pileO dx #[.ref T0, .ref T1, .ref T2, .ref T3] n) ∈ news) (md : (dx, dictOf (sizeEs w.params k tk tv) 1) ∈ news) (m0 : (T0, tupO l0 u0 r0 v0) ∈ news) (m1 : (T1, tupO l1 u1 r1 v1) ∈ news) (m2 : (T2, tupO l2 u2 r2 v2) ∈ news) (m3 : (T3, tupO l3 u3 r3 v3) ∈ news)
    (b0 : l0.length ≤ 1000 ∧ r0.length ≤ 1000) (b1 : l1.length ≤ 1000 ∧ r1.length ≤ 1000) (b2 : l2.length ≤ 1000 ∧ r2.length ≤ 1000) (b3 : l3.length ≤ 1000 ∧ r3.length ≤ 1000)
    (mt : (94, tabO ps) ∈ news) (hps : TriplesOk ps.toList) (U : ∀ ps', Upd 94 (tabO ps) (tabO ps') news (nx ps'))
    (hQ : ∀ s' t ps', Fr h₀ L s'.heap m → News h₀ L s'.heap (nx ps') → TriplesOk ps'.toList → s'.os = s.os → (AllBare s.gens → AllBare s'.gens) →
      Q (.str (l0 ++ r0 ++ (l1 ++ r1) ++ (l2 ++ r2) ++ (l3 ++ r3)) t) s') :
    wpAny (model prog w) A (call (.type "str") [.ref x]) Q E s := by
  have I : InstAt s.heap x (pileO dx #[.ref T0, .ref T1, .ref T2, .ref T3] n) 125 (some (dictOf (sizeEs w.params k tk tv) 1)) := ⟨(N _ mx).1, rfl, rfl, (N _ md).1⟩
  refine kso_call (f := 99) hu (X₀.keeps F.keep) I (by kernel_rfl) (by kernel_rfl) ?_
  refine str_ok (A := A.in1.in1) (Ts := four T0 T1 T2 T3) (va := four l0 l1 l2 l3) (vb := four r0 r1 r2 r3) (ta := four u0 u1 u2 u3) (tb := four v0 v1 v2 v3) hh (by show A.depth + 4 < _; omega) (X₀.keeps F.keep) (T.keeps F.keep) (N _ mx).1
    (four_all rfl rfl rfl rfl) (four_all ⟨_, (N _ m0).1, rfl, _, rfl⟩ ⟨_, (N _ m1).1, rfl, _, rfl⟩ ⟨_, (N _ m2).1, rfl, _, rfl⟩ ⟨_, (N _ m3).1, rfl, _, rfl⟩) (four_all b0 b1 b2 b3) (show 4 ≤ 1000 by decide) (N _ mt).1 hps fun s' t' ps' keep tab tr os gs => ?_
  obtain ⟨F', N'⟩ := led_upd F N (U ps') keep tab
  have e : Txt.join (Str.ofString "") ((List.range 4).map fun j => Txt.join (Str.ofString "") [four l0 l1 l2 l3 j, four r0 r1 r2 r3 j]) = l0 ++ r0 ++ (l1 ++ r1) ++ (l2 ++ r2) ++ (l3 ++ r3) := by
    show Txt.join (Str.ofString "") [Txt.join (Str.ofString "") [l0, r0], Txt.join (Str.ofString "") [l1, r1], Txt.join (Str.ofString "") [l2, r2], Txt.join (Str.ofString "") [l3, r3]] = _
    rw [join2, join2, join2, join2, join4]
  show W.StrBack Q (.str (Txt.join (Str.ofString "") ((List.range 4).map fun j => Txt.join (Str.ofString "") [four l0 l1 l2 l3 j, four r0 r1 r2 r3 j])) t') s'
  rw [e]
  exact hQ s' t' ps' F' N' tr os gs
end
end Mine
end
section
open PySem PySem.W PySem.Calls PyProof.Rows Builtin
set_option maxRecDepth 100000
namespace Mine
end Mine
end
section
open PySem PySem.W PySem.Calls PyProof.Rows Builtin
set_option maxRecDepth 100000
set_option maxHeartbeats 4000000
namespace Mine
section
variable {prog : Program} {w : World} {A : Around} {E : Value → Shared → Prop} {s : Shared} {env : Env} {target iter : Expr} {pos : Pos} {body : List Stmt} {Q : Flow → Shared → Prop}
end
end Mine
end
section
open PySem PySem.W PySem.Calls PyProof.Rows Builtin
set_option maxRecDepth 100000
set_option maxHeartbeats 4000000
namespace Mine
section
variable {prog : Program} {w : World} {A : Around} {E : Value → Shared → Prop} {s : Shared} {env : Env}
theorem assign_local {x : Str} {pos : Pos} {m : Str → Option Value} {v : Value} {Q : Unit → Shared → Prop} (hl : env.kindOf x = some .local) (hn : s.heap.Ns env.locals m)
    (hp : (env.scope.kind == .class || (env.scope.kind == .module && env.locals != env.globals)) = false)
    (h : ∀ h', h'.Ns env.locals (fun y => if y = x then some v else m y) → Heap.SameBut env.locals s.heap h' → Q () { s with heap := h', toks := s.toks + 1 }) : wpAny (model prog w) A (assign (.Name x pos) env v) Q E s := by
  show wpAny _ _ (standAt pos >>= fun _ => bindName env x v) _ _ _
  refine wpAny_bind (wpAny_standAt ?_)
  exact wpAny_bindName (wpAny_storeName_local hl hn h hp)
/-- two locals from a tuple of two -/
theorem assign2 {xa xb : Str} {pa pb pos : Pos} {kt : Nat} {m : Str → Option Value} {t : Addr} {va vb : Value} {Q : Unit → Shared → Prop} (hh : A.handled = none) (ht : s.heap.IsTuple t #[va, vb]) (hla : env.kindOf xa = some .local) (hlb : env.kindOf xb = some .local)
    (hn : s.heap.Ns env.locals m) (hp : (env.scope.kind == .class || (env.scope.kind == .module && env.locals != env.globals)) = false)
    (h : ∀ h' tk', h'.Ns env.locals (fun y => if y = xb then some vb else if y = xa then some va else m y) → (∀ b o, b ≠ env.locals → s.heap.get? b = some o → h'.get? b = some o) → Q () { s with heap := h', toks := tk' }) :
    wpAny (model prog w) A (assign (.Tuple [.Name xa pa, .Name xb pb] kt pos) env (.ref t)) Q E s := by
  refine wpAny_assign_Tuple hh ht rfl rfl fun h₁ e1 => ?_
  have lL : env.locals ≠ s.heap.objs.size := by
    obtain ⟨o, _, _, e, _⟩ := hn
    exact Nat.ne_of_lt (Heap.lt_size e)
  have n1 := hn.at' fun o e => e1 _ o lL e
  refine assignInOrder_cons (assign_local hla n1 hp fun h₂ n2 s2 => ?_)
  refine assignInOrder_cons (assign_local hlb n2 hp fun h₃ n3 s3 => ?_)
  refine assignInOrder_nil (h h₃ _ n3 fun b o hb e => ?_)
  exact (s3.2 b hb).trans ((s2.2 b hb).trans (e1 b o (Nat.ne_of_lt (Heap.lt_size e)) e))
end
end Mine
end
section
open PySem PySem.W PySem.Calls PyProof.Rows Builtin
set_option maxRecDepth 100000
set_option maxHeartbeats 4000000
namespace Mine
section
variable {prog : Program} {w : World} {A : Around} {E : Value → Shared → Prop} {s : Shared} {env : Env}
end
end Mine
end
section
open PySem PySem.W PyProof.Rows
set_option maxRecDepth 100000

namespace Mine
section
open PySem PySem.Builtin PySem.Builtin.Str
/-- find with both bounds -/
noncomputable def find4 (x y : Str) (i j : Int) : Int := match occurrences x y (fromIndex x.length i) (min (fromIndex x.length j) x.length) 1 with | k :: _ => (k : Int) | [] => -1
noncomputable def rfind4 (x y : Str) (i j : Int) : Int := match lastOccurrence x y (fromIndex x.length i) (min (fromIndex x.length j) x.length) with | some k => (k : Int) | none => -1
theorem gives_find4 (x y : Str) (i j : Int) (t u v v2 : Tok) : Gives («str.find» ⟨[.str x t, .str y u, .int i v, .int j v2], []⟩) (.int (find4 x y i j)) := by
  show Gives (match occurrences x y (fromIndex x.length i) (min (fromIndex x.length j) x.length) 1 with | k :: _ => retInt k | [] => (do rule "str.find.not-found"; retInt (-1))) _
  unfold find4
  cases occurrences x y (fromIndex x.length i) (min (fromIndex x.length j) x.length) 1 with
  | nil => exact .rule (.of_eq rfl)
  | cons k _ => exact .of_eq rfl
theorem gives_rfind4 (x y : Str) (i j : Int) (t u v v2 : Tok) : Gives («str.rfind» ⟨[.str x t, .str y u, .int i v, .int j v2], []⟩) (.int (rfind4 x y i j)) := by
  show Gives (match lastOccurrence x y (fromIndex x.length i) (min (fromIndex x.length j) x.length) with | some k => retInt k | none => (do rule "str.rfind.not-found"; retInt (-1))) _
  unfold rfind4
  cases lastOccurrence x y (fromIndex x.length i) (min (fromIndex x.length j) x.length) with
  | none => exact .rule (.of_eq rfl)
  | some k => exact .of_eq rfl
variable {prog : Program} {w : World} {A : Around} {E : Value → Shared → Prop} {s : Shared} {x y : Str} {t u v v2 : Tok} {i j : Int} {Q : Value → Shared → Prop}
theorem call_find4 (hq : Q (.int (find4 x y i j) s.toks) { s with toks := s.toks + 1 }) : wpAny (model prog w) A (call (.builtin "str.find") [.str x t, .str y u, .int i v, .int j v2]) Q E s :=
  call_gives F.slot_str_find (typeIs_str _ _ _) F.entry_str_find (F.args_str_find_4 _ _ _ _) (gives_find4 x y i j t u v v2) hq
theorem call_rfind4 (hq : Q (.int (rfind4 x y i j) s.toks) { s with toks := s.toks + 1 }) : wpAny (model prog w) A (call (.builtin "str.rfind") [.str x t, .str y u, .int i v, .int j v2]) Q E s :=
  call_gives F.slot_str_rfind (typeIs_str _ _ _) F.entry_str_rfind (F.args_str_rfind_4 _ _ _ _) (gives_rfind4 x y i j t u v v2) hq
end
/-- what _strip_exception_details gives, in three parts -/
noncomputable def stripC (msg : Str) (e2 : Int) : Str := Txt.slice msg (some (if 0 ≤ rfind4 msg "." 0 e2 then rfind4 msg "." 0 e2 + 1 else 0)) (some e2)
noncomputable def stripB (msg : Str) (e1 : Int) : Str := stripC msg (if 0 ≤ find4 msg ":" 0 e1 then find4 msg ":" 0 e1 else e1)
noncomputable def stripF (msg : Str) : Str := stripB msg (if 0 ≤ Txt.find msg "\n" then Txt.find msg "\n" else (msg.length : Int))
section
variable {msg : Str} {r : Int}
theorem strip_r (h : 0 ≤ Txt.find msg "\n" ∧ r = Txt.find msg "\n" ∨ ¬ 0 ≤ Txt.find msg "\n" ∧ r = (msg.length : Int)) : stripF msg = stripB msg r := by
  unfold stripF
  rcases h with ⟨h, e⟩ | ⟨h, e⟩
  · rw [if_pos h, e]
  · rw [if_neg h, e]
theorem strip_1 (h : 0 ≤ Txt.find msg "\n" ∧ r = Txt.find msg "\n" ∨ ¬ 0 ≤ Txt.find msg "\n" ∧ r = (msg.length : Int)) (h2 : 0 ≤ find4 msg ":" 0 r) (h3 : 0 ≤ rfind4 msg "." 0 (find4 msg ":" 0 r)) :
    Txt.slice msg (some (rfind4 msg "." 0 (find4 msg ":" 0 r) + 1)) (some (find4 msg ":" 0 r)) = stripF msg := by
  rw [strip_r h, stripB, if_pos h2, stripC, if_pos h3]
theorem strip_2 (h : 0 ≤ Txt.find msg "\n" ∧ r = Txt.find msg "\n" ∨ ¬ 0 ≤ Txt.find msg "\n" ∧ r = (msg.length : Int)) (h2 : 0 ≤ find4 msg ":" 0 r) (h3 : ¬ 0 ≤ rfind4 msg "." 0 (find4 msg ":" 0 r)) :
    Txt.slice msg (some 0) (some (find4 msg ":" 0 r)) = stripF msg := by
  rw [strip_r h, stripB, if_pos h2, stripC, if_neg h3]
theorem strip_3 (h : 0 ≤ Txt.find msg "\n" ∧ r = Txt.find msg "\n" ∨ ¬ 0 ≤ Txt.find msg "\n" ∧ r = (msg.length : Int)) (h2 : ¬ 0 ≤ find4 msg ":" 0 r) (h3 : 0 ≤ rfind4 msg "." 0 r) :
    Txt.slice msg (some (rfind4 msg "." 0 r + 1)) (some r) = stripF msg := by
  rw [strip_r h, stripB, if_neg h2, stripC, if_pos h3]
theorem strip_4 (h : 0 ≤ Txt.find msg "\n" ∧ r = Txt.find msg "\n" ∨ ¬ 0 ≤ Txt.find msg "\n" ∧ r = (msg.length : Int)) (h2 : ¬ 0 ≤ find4 msg ":" 0 r) (h3 : ¬ 0 ≤ rfind4 msg "." 0 r) :
    Txt.slice msg (some 0) (some r) = stripF msg := by
  rw [strip_r h, stripB, if_neg h2, stripC, if_neg h3]
end
/-- is_HDN -/
noncomputable def hdnF (x : Str) : Bool := !Re.ipv4 x.cps && !(x == Str.ofString "") && !(Txt.item x 0 == Str.ofString ".") && !(Txt.item x (-1) == Str.ofString ".")
section
variable {x : Str}
theorem hdn_1 (h : Re.ipv4 x.cps = true) : false = hdnF x := by unfold hdnF; rw [h]; rfl
theorem hdn_2 (h : Re.ipv4 x.cps = false) (h2 : (x == Str.ofString "") = true) : false = hdnF x := by unfold hdnF; rw [h, h2]; rfl
theorem hdn_3 (h : Re.ipv4 x.cps = false) (h2 : (x == Str.ofString "") = false) (h3 : (Txt.item x 0 == Str.ofString ".") = true) : false = hdnF x := by unfold hdnF; rw [h, h2, h3]; rfl
theorem hdn_4 (h : Re.ipv4 x.cps = false) (h2 : (x == Str.ofString "") = false) (h3 : (Txt.item x 0 == Str.ofString ".") = false) (h4 : (Txt.item x (-1) == Str.ofString ".") = true) : false = hdnF x := by unfold hdnF; rw [h, h2, h3, h4]; rfl
theorem hdn_5 (h : Re.ipv4 x.cps = false) (h2 : (x == Str.ofString "") = false) (h3 : (Txt.item x 0 == Str.ofString ".") = false) (h4 : (Txt.item x (-1) == Str.ofString ".") = false) : true = hdnF x := by unfold hdnF; rw [h, h2, h3, h4]; rfl
theorem lib_1 (h : Re.ipv4 x.cps = true) : false = !Re.ipv4 x.cps := by rw [h]; rfl
theorem lib_2 (h : Re.ipv4 x.cps = false) : true = !Re.ipv4 x.cps := by rw [h]; rfl
end
end Mine
local macro_rules | `(tactic| walk_at $s:str) => `(tactic| k_extra $s)
theorem Mine.rows_S10 : True := by
  k_with_none
  k_with "call builtin:str.find" => refine Mine.call_find4 ?_
  k_with "call builtin:str.rfind" => refine Mine.call_rfind4 ?_
  k_with "getMethod ref" => (k_here; (with_reducible show wpAny _ _ (getMethod (Value.ref 134) _ _) _ _ _); k_dflt (refine Mine.Re.getMethod_search (by k_asm) (by k_asm) ?_))
  k_with "call builtin:re.Pattern.search" => (k_here; k_dflt (refine Mine.Re.call_search (by k_asm) (by k_asm) (by k_asm) (by first | assumption | omega) ?_ ?_); (first | (intro hip; skip) ); (case' _ => skip))
  k_with "truthy ref" => (k_here; k_dflt (refine Mine.Re.truthy_match ((PyProof.Rows.News.get (by k_asm) (by k_mem))) ?_))
  trivial
namespace Mine

set_option maxHeartbeats 4000000 in
theorem strip_ok {p : Program} {w : World} {lo : List Str} {mean : ExcName → Option Value} {mg mb : Str → Option Value} {dp un : Nat} {gd : Option (List Code)} {cn : Str} {cs : Scope} {a : Addr} {ccd : Value} {cl : List (Str × Addr)} {outer : List Env} {A₀ : Around} {base h₀ : Heap} {L : Addr} {m : Str → Option Value} {news : List (Addr × Obj)} {s : Shared} {Q E : Value → Shared → Prop} {msg : Str} {tk : Tok}
    (B : Below A₀ base outer h₀) (F : Fr h₀ L s.heap m) (X : (Mine.K w.params).In h₀) (N : News h₀ L s.heap news) (T : Top p lo mean mg mb h₀) (hk : cs.kind = .function) (hx : msg.length ≤ 10000) (hd : dp + 1 < recursionLimit) (hu : un + 8 < cLine)
    (hret : ∀ (t : Tok) (h' : Heap) (tk' : Nat), Fr h₀ L h' m → News h₀ L h' news → Q (.str (stripF msg) t) { s with heap := h', toks := tk' }) :
    wpAny (model PySem.Challenge.rw_xl0024_01.prog w) (ktrTop dp un gd cn cs L a ccd cl outer) (call (.ref 45) [.str msg tk]) Q E s := by
  revert X; k_fill; intro X
  
  refine wpAny_call ?_
  k_dflt cell_enter
  k_steps
  all_goals (refine' cb_retS hret ?e1 ?e2 ?e3; (case e2 => k_asm); (case e3 => first | k_asm | (refine' cb_drop ?cbN ?cbS; (case cbN => assumption); (case cbS => first | ((repeat (first | with_reducible exact Mine.sub_refl | with_reducible refine Mine.sub_cons ?_)); done) | kcj_all))); (case e1 => first | (with_reducible refine strip_1 ?_ ?_ ?_ <;> with_reducible assumption) | (with_reducible refine strip_2 ?_ ?_ ?_ <;> with_reducible assumption) | (with_reducible refine strip_3 ?_ ?_ ?_ <;> with_reducible assumption) | (with_reducible refine strip_4 ?_ ?_ ?_ <;> with_reducible assumption)))

set_option maxHeartbeats 4000000 in
theorem hdn_ok {p : Program} {w : World} {lo : List Str} {mean : ExcName → Option Value} {mg mb : Str → Option Value} {dp un : Nat} {gd : Option (List Code)} {cn : Str} {cs : Scope} {a : Addr} {ccd : Value} {cl : List (Str × Addr)} {outer : List Env} {A₀ : Around} {base h₀ : Heap} {L : Addr} {m : Str → Option Value} {news : List (Addr × Obj)} {s : Shared} {Q E : Value → Shared → Prop} {x : Str} {tk : Tok}
    (B : Below A₀ base outer h₀) (F : Fr h₀ L s.heap m) (X : (Mine.K w.params).In h₀) (N : News h₀ L s.heap news) (T : Top p lo mean mg mb h₀) (hk : cs.kind = .function) (hx : x.length ≤ 10000) (hd : dp + 1 < recursionLimit) (hu : un + 8 < cLine)
    (hret : ∀ (t : Tok) (h' : Heap) (tk' : Nat), Fr h₀ L h' m → News h₀ L h' news → Q (.bool (hdnF x)) { s with heap := h', toks := tk' }) :
    wpAny (model PySem.Challenge.rw_xl0024_01.prog w) (ktrTop dp un gd cn cs L a ccd cl outer) (call (.ref 141) [.str x tk]) Q E s := by
  revert X; k_fill; intro X
  
  refine wpAny_call ?_
  k_dflt cell_enter
  k_steps
  all_goals (refine' cb_retB hret ?e1 ?e2 ?e3; (case e2 => k_asm); (case e3 => first | k_asm | (refine' cb_drop ?cbN ?cbS; (case cbN => assumption); (case cbS => first | ((repeat (first | with_reducible exact Mine.sub_refl | with_reducible refine Mine.sub_cons ?_)); done) | kcj_all))); (case e1 => first | (with_reducible refine hdn_1 ?_ <;> with_reducible assumption) | (with_reducible refine hdn_2 ?_ ?_ <;> with_reducible assumption) | (with_reducible refine hdn_3 ?_ ?_ ?_ <;> with_reducible assumption) | (with_reducible refine hdn_4 ?_ ?_ ?_ ?_ <;> with_reducible assumption) | (with_reducible refine hdn_5 ?_ ?_ ?_ ?_ <;> with_reducible assumption)))

set_option maxHeartbeats 4000000 in
theorem lib_ok {p : Program} {w : World} {lo : List Str} {mean : ExcName → Option Value} {mg mb : Str → Option Value} {dp un : Nat} {gd : Option (List Code)} {cn : Str} {cs : Scope} {a : Addr} {ccd : Value} {cl : List (Str × Addr)} {outer : List Env} {A₀ : Around} {base h₀ : Heap} {L : Addr} {m : Str → Option Value} {news : List (Addr × Obj)} {s : Shared} {Q E : Value → Shared → Prop} {x : Str} {tk : Tok}
    (B : Below A₀ base outer h₀) (F : Fr h₀ L s.heap m) (X : (Mine.K w.params).In h₀) (N : News h₀ L s.heap news) (T : Top p lo mean mg mb h₀) (hk : cs.kind = .function) (hx : x.length ≤ 10000) (hd : dp + 1 < recursionLimit) (hu : un + 8 < cLine)
    (hret : ∀ (t : Tok) (h' : Heap) (tk' : Nat), Fr h₀ L h' m → News h₀ L h' news → Q (.bool (!Re.ipv4 x.cps)) { s with heap := h', toks := tk' }) :
    wpAny (model PySem.Challenge.rw_xl0024_01.prog w) (ktrTop dp un gd cn cs L a ccd cl outer) (call (.ref 155) [.str x tk]) Q E s := by
  revert X; k_fill; intro X
  
  refine wpAny_call ?_
  k_dflt cell_enter
  k_steps
  all_goals (refine' cb_retB hret ?e1 ?e2 ?e3; (case e2 => k_asm); (case e3 => first | k_asm | (refine' cb_drop ?cbN ?cbS; (case cbN => assumption); (case cbS => first | ((repeat (first | with_reducible exact Mine.sub_refl | with_reducible refine Mine.sub_cons ?_)); done) | kcj_all))); (case e1 => first | (with_reducible refine lib_1 ?_ <;> with_reducible assumption) | (with_reducible refine lib_2 ?_ <;> with_reducible assumption)))

set_option maxHeartbeats 4000000 in
theorem isnt_ok {p : Program} {w : World} {lo : List Str} {mean : ExcName → Option Value} {mg mb : Str → Option Value} {dp un : Nat} {gd : Option (List Code)} {cn : Str} {cs : Scope} {a : Addr} {ccd : Value} {cl : List (Str × Addr)} {outer : List Env} {A₀ : Around} {base h₀ : Heap} {L : Addr} {m : Str → Option Value} {news : List (Addr × Obj)} {s : Shared} {Q E : Value → Shared → Prop} {x : Int} {tk : Tok}
    (B : Below A₀ base outer h₀) (F : Fr h₀ L s.heap m) (X : (Mine.K w.params).In h₀) (N : News h₀ L s.heap news) (T : Top p lo mean mg mb h₀) (hk : cs.kind = .function)  (hd : dp + 1 < recursionLimit) (hu : un + 8 < cLine)
    (hret : ∀ (t : Tok) (h' : Heap) (tk' : Nat), Fr h₀ L h' m → News h₀ L h' news → Q (.bool (decide (256 ≤ x))) { s with heap := h', toks := tk' }) :
    wpAny (model PySem.Challenge.rw_xl0024_01.prog w) (ktrTop dp un gd cn cs L a ccd cl outer) (call (.ref 179) [.int x tk]) Q E s := by
  revert X; k_fill; intro X
  
  refine wpAny_call ?_
  k_dflt cell_enter
  k_steps
  all_goals (refine' cb_retB hret ?e1 ?e2 ?e3; (case e2 => k_asm); (case e3 => first | k_asm | (refine' cb_drop ?cbN ?cbS; (case cbN => assumption); (case cbS => first | ((repeat (first | with_reducible exact Mine.sub_refl | with_reducible refine Mine.sub_cons ?_)); done) | kcj_all))); (case e1 => rfl))

set_option maxHeartbeats 4000000 in
theorem iseof_ok {p : Program} {w : World} {lo : List Str} {mean : ExcName → Option Value} {mg mb : Str → Option Value} {dp un : Nat} {gd : Option (List Code)} {cn : Str} {cs : Scope} {a : Addr} {ccd : Value} {cl : List (Str × Addr)} {outer : List Env} {A₀ : Around} {base h₀ : Heap} {L : Addr} {m : Str → Option Value} {news : List (Addr × Obj)} {s : Shared} {Q E : Value → Shared → Prop} {x : Int} {tk : Tok}
    (B : Below A₀ base outer h₀) (F : Fr h₀ L s.heap m) (X : (Mine.K w.params).In h₀) (N : News h₀ L s.heap news) (T : Top p lo mean mg mb h₀) (hk : cs.kind = .function)  (hd : dp + 1 < recursionLimit) (hu : un + 8 < cLine)
    (hret : ∀ (t : Tok) (h' : Heap) (tk' : Nat), Fr h₀ L h' m → News h₀ L h' news → Q (.bool (x == 0)) { s with heap := h', toks := tk' }) :
    wpAny (model PySem.Challenge.rw_xl0024_01.prog w) (ktrTop dp un gd cn cs L a ccd cl outer) (call (.ref 186) [.int x tk]) Q E s := by
  revert X; k_fill; intro X
  
  refine wpAny_call ?_
  k_dflt cell_enter
  k_steps
  all_goals (refine' cb_retB hret ?e1 ?e2 ?e3; (case e2 => k_asm); (case e3 => first | k_asm | (refine' cb_drop ?cbN ?cbS; (case cbN => assumption); (case cbS => first | ((repeat (first | with_reducible exact Mine.sub_refl | with_reducible refine Mine.sub_cons ?_)); done) | kcj_all))); (case e1 => rfl))
end Mine

theorem Mine.rows_S1_end : True := by
  k_with_none
  trivial
end
section
open PySem PySem.W PyProof.Rows
set_option maxRecDepth 100000
namespace Mine
noncomputable def reachF (x : Str) : Str := (if 0 ≤ Txt.find x (Str.ofString ".") then (if (hdnF x) = true then (if 0 ≤ Txt.find (Txt.slice x (some (Txt.find x (Str.ofString ".") + 1)) none) (Str.ofString ".") then (Str.ofString "." ++ Txt.slice x (some (Txt.find x (Str.ofString ".") + 1)) none) else (if ((Txt.slice x (some (Txt.find x (Str.ofString ".") + 1)) none) == Str.ofString "local") = true then (Str.ofString "." ++ Txt.slice x (some (Txt.find x (Str.ofString ".") + 1)) none) else x)) else x) else x)
theorem reach_0 {x : Str} (h0 : 0 ≤ Txt.find x (Str.ofString ".")) (h1 : (hdnF x) = true) (h2 : 0 ≤ Txt.find (Txt.slice x (some (Txt.find x (Str.ofString ".") + 1)) none) (Str.ofString ".")) : (Str.ofString "." ++ Txt.slice x (some (Txt.find x (Str.ofString ".") + 1)) none) = reachF x := by unfold reachF; rw [if_pos h0, if_pos h1, if_pos h2]
theorem reach_1 {x : Str} (h0 : 0 ≤ Txt.find x (Str.ofString ".")) (h1 : (hdnF x) = true) (h2 : ¬ (0 ≤ Txt.find (Txt.slice x (some (Txt.find x (Str.ofString ".") + 1)) none) (Str.ofString "."))) (h3 : ((Txt.slice x (some (Txt.find x (Str.ofString ".") + 1)) none) == Str.ofString "local") = true) : (Str.ofString "." ++ Txt.slice x (some (Txt.find x (Str.ofString ".") + 1)) none) = reachF x := by unfold reachF; rw [if_pos h0, if_pos h1, if_neg h2, if_pos h3]
theorem reach_2 {x : Str} (h0 : 0 ≤ Txt.find x (Str.ofString ".")) (h1 : (hdnF x) = true) (h2 : ¬ (0 ≤ Txt.find (Txt.slice x (some (Txt.find x (Str.ofString ".") + 1)) none) (Str.ofString "."))) (h3 : ((Txt.slice x (some (Txt.find x (Str.ofString ".") + 1)) none) == Str.ofString "local") = false) : x = reachF x := by unfold reachF; rw [if_pos h0, if_pos h1, if_neg h2, if_neg (show ¬ (((Txt.slice x (some (Txt.find x (Str.ofString ".") + 1)) none) == Str.ofString "local") = true) by rw [h3]; exact Bool.false_ne_true)]
theorem reach_3 {x : Str} (h0 : 0 ≤ Txt.find x (Str.ofString ".")) (h1 : (hdnF x) = false) : x = reachF x := by unfold reachF; rw [if_pos h0, if_neg (show ¬ ((hdnF x) = true) by rw [h1]; exact Bool.false_ne_true)]
theorem reach_4 {x : Str} (h0 : ¬ (0 ≤ Txt.find x (Str.ofString "."))) : x = reachF x := by unfold reachF; rw [if_neg h0]
noncomputable def dmF (x y : Str) : Bool := (if ((Txt.lower x) == (Txt.lower y)) = true then true else (if (hdnF (Txt.lower x)) = true then (if Txt.rfind (Txt.lower x) (Txt.lower y) = -1 then false else (if Txt.rfind (Txt.lower x) (Txt.lower y) = 0 then false else (if (Txt.startswith (Txt.lower y) (Str.ofString ".")) = true then (if (hdnF (Txt.slice (Txt.lower y) (some 1) none)) = true then true else false) else false))) else false))
theorem dm_0 {x y : Str} (h0 : ((Txt.lower x) == (Txt.lower y)) = true) : true = dmF x y := by unfold dmF; rw [if_pos h0]
theorem dm_1 {x y : Str} (h0 : ((Txt.lower x) == (Txt.lower y)) = false) (h1 : (hdnF (Txt.lower x)) = true) (h2 : Txt.rfind (Txt.lower x) (Txt.lower y) = -1) : false = dmF x y := by unfold dmF; rw [if_neg (show ¬ (((Txt.lower x) == (Txt.lower y)) = true) by rw [h0]; exact Bool.false_ne_true), if_pos h1, if_pos h2]
theorem dm_2 {x y : Str} (h0 : ((Txt.lower x) == (Txt.lower y)) = false) (h1 : (hdnF (Txt.lower x)) = true) (h2 : Txt.rfind (Txt.lower x) (Txt.lower y) ≠ -1) (h3 : Txt.rfind (Txt.lower x) (Txt.lower y) = 0) : false = dmF x y := by unfold dmF; rw [if_neg (show ¬ (((Txt.lower x) == (Txt.lower y)) = true) by rw [h0]; exact Bool.false_ne_true), if_pos h1, if_neg h2, if_pos h3]
theorem dm_3 {x y : Str} (h0 : ((Txt.lower x) == (Txt.lower y)) = false) (h1 : (hdnF (Txt.lower x)) = true) (h2 : Txt.rfind (Txt.lower x) (Txt.lower y) ≠ -1) (h3 : Txt.rfind (Txt.lower x) (Txt.lower y) ≠ 0) (h4 : (Txt.startswith (Txt.lower y) (Str.ofString ".")) = true) (h5 : (hdnF (Txt.slice (Txt.lower y) (some 1) none)) = true) : true = dmF x y := by unfold dmF; rw [if_neg (show ¬ (((Txt.lower x) == (Txt.lower y)) = true) by rw [h0]; exact Bool.false_ne_true), if_pos h1, if_neg h2, if_neg h3, if_pos h4, if_pos h5]
theorem dm_4 {x y : Str} (h0 : ((Txt.lower x) == (Txt.lower y)) = false) (h1 : (hdnF (Txt.lower x)) = true) (h2 : Txt.rfind (Txt.lower x) (Txt.lower y) ≠ -1) (h3 : Txt.rfind (Txt.lower x) (Txt.lower y) ≠ 0) (h4 : (Txt.startswith (Txt.lower y) (Str.ofString ".")) = true) (h5 : (hdnF (Txt.slice (Txt.lower y) (some 1) none)) = false) : false = dmF x y := by unfold dmF; rw [if_neg (show ¬ (((Txt.lower x) == (Txt.lower y)) = true) by rw [h0]; exact Bool.false_ne_true), if_pos h1, if_neg h2, if_neg h3, if_pos h4, if_neg (show ¬ ((hdnF (Txt.slice (Txt.lower y) (some 1) none)) = true) by rw [h5]; exact Bool.false_ne_true)]
theorem dm_5 {x y : Str} (h0 : ((Txt.lower x) == (Txt.lower y)) = false) (h1 : (hdnF (Txt.lower x)) = true) (h2 : Txt.rfind (Txt.lower x) (Txt.lower y) ≠ -1) (h3 : Txt.rfind (Txt.lower x) (Txt.lower y) ≠ 0) (h4 : (Txt.startswith (Txt.lower y) (Str.ofString ".")) = false) : false = dmF x y := by unfold dmF; rw [if_neg (show ¬ (((Txt.lower x) == (Txt.lower y)) = true) by rw [h0]; exact Bool.false_ne_true), if_pos h1, if_neg h2, if_neg h3, if_neg (show ¬ ((Txt.startswith (Txt.lower y) (Str.ofString ".")) = true) by rw [h4]; exact Bool.false_ne_true)]
theorem dm_6 {x y : Str} (h0 : ((Txt.lower x) == (Txt.lower y)) = false) (h1 : (hdnF (Txt.lower x)) = false) : false = dmF x y := by unfold dmF; rw [if_neg (show ¬ (((Txt.lower x) == (Txt.lower y)) = true) by rw [h0]; exact Bool.false_ne_true), if_neg (show ¬ ((hdnF (Txt.lower x)) = true) by rw [h1]; exact Bool.false_ne_true)]
noncomputable def udmF (x y : Str) : Bool := (if (Re.ipv4 (Txt.lower x).cps) = true then (if ((Txt.lower x) == (Txt.lower y)) = true then true else false) else (if (Re.ipv4 (Txt.lower y).cps) = true then (if ((Txt.lower x) == (Txt.lower y)) = true then true else false) else (if (Txt.startswith (Txt.lower y) (Str.ofString ".")) = true then (if (Txt.endswith (Txt.lower x) (Txt.lower y)) = true then true else false) else (if ((Txt.lower x) == (Txt.lower y)) = true then true else false))))
theorem udm_0 {x y : Str} (h0 : (Re.ipv4 (Txt.lower x).cps) = true) (h1 : ((Txt.lower x) == (Txt.lower y)) = true) : true = udmF x y := by unfold udmF; rw [if_pos h0, if_pos h1]
theorem udm_1 {x y : Str} (h0 : (Re.ipv4 (Txt.lower x).cps) = true) (h1 : ((Txt.lower x) == (Txt.lower y)) = false) : false = udmF x y := by unfold udmF; rw [if_pos h0, if_neg (show ¬ (((Txt.lower x) == (Txt.lower y)) = true) by rw [h1]; exact Bool.false_ne_true)]
theorem udm_2 {x y : Str} (h0 : (Re.ipv4 (Txt.lower x).cps) = false) (h1 : (Re.ipv4 (Txt.lower y).cps) = true) (h2 : ((Txt.lower x) == (Txt.lower y)) = true) : true = udmF x y := by unfold udmF; rw [if_neg (show ¬ ((Re.ipv4 (Txt.lower x).cps) = true) by rw [h0]; exact Bool.false_ne_true), if_pos h1, if_pos h2]
theorem udm_3 {x y : Str} (h0 : (Re.ipv4 (Txt.lower x).cps) = false) (h1 : (Re.ipv4 (Txt.lower y).cps) = true) (h2 : ((Txt.lower x) == (Txt.lower y)) = false) : false = udmF x y := by unfold udmF; rw [if_neg (show ¬ ((Re.ipv4 (Txt.lower x).cps) = true) by rw [h0]; exact Bool.false_ne_true), if_pos h1, if_neg (show ¬ (((Txt.lower x) == (Txt.lower y)) = true) by rw [h2]; exact Bool.false_ne_true)]
theorem udm_4 {x y : Str} (h0 : (Re.ipv4 (Txt.lower x).cps) = false) (h1 : (Re.ipv4 (Txt.lower y).cps) = false) (h2 : (Txt.startswith (Txt.lower y) (Str.ofString ".")) = true) (h3 : (Txt.endswith (Txt.lower x) (Txt.lower y)) = true) : true = udmF x y := by unfold udmF; rw [if_neg (show ¬ ((Re.ipv4 (Txt.lower x).cps) = true) by rw [h0]; exact Bool.false_ne_true), if_neg (show ¬ ((Re.ipv4 (Txt.lower y).cps) = true) by rw [h1]; exact Bool.false_ne_true), if_pos h2, if_pos h3]
theorem udm_5 {x y : Str} (h0 : (Re.ipv4 (Txt.lower x).cps) = false) (h1 : (Re.ipv4 (Txt.lower y).cps) = false) (h2 : (Txt.startswith (Txt.lower y) (Str.ofString ".")) = true) (h3 : (Txt.endswith (Txt.lower x) (Txt.lower y)) = false) : false = udmF x y := by unfold udmF; rw [if_neg (show ¬ ((Re.ipv4 (Txt.lower x).cps) = true) by rw [h0]; exact Bool.false_ne_true), if_neg (show ¬ ((Re.ipv4 (Txt.lower y).cps) = true) by rw [h1]; exact Bool.false_ne_true), if_pos h2, if_neg (show ¬ ((Txt.endswith (Txt.lower x) (Txt.lower y)) = true) by rw [h3]; exact Bool.false_ne_true)]
theorem udm_6 {x y : Str} (h0 : (Re.ipv4 (Txt.lower x).cps) = false) (h1 : (Re.ipv4 (Txt.lower y).cps) = false) (h2 : (Txt.startswith (Txt.lower y) (Str.ofString ".")) = false) (h3 : ((Txt.lower x) == (Txt.lower y)) = true) : true = udmF x y := by unfold udmF; rw [if_neg (show ¬ ((Re.ipv4 (Txt.lower x).cps) = true) by rw [h0]; exact Bool.false_ne_true), if_neg (show ¬ ((Re.ipv4 (Txt.lower y).cps) = true) by rw [h1]; exact Bool.false_ne_true), if_neg (show ¬ ((Txt.startswith (Txt.lower y) (Str.ofString ".")) = true) by rw [h2]; exact Bool.false_ne_true), if_pos h3]
theorem udm_7 {x y : Str} (h0 : (Re.ipv4 (Txt.lower x).cps) = false) (h1 : (Re.ipv4 (Txt.lower y).cps) = false) (h2 : (Txt.startswith (Txt.lower y) (Str.ofString ".")) = false) (h3 : ((Txt.lower x) == (Txt.lower y)) = false) : false = udmF x y := by unfold udmF; rw [if_neg (show ¬ ((Re.ipv4 (Txt.lower x).cps) = true) by rw [h0]; exact Bool.false_ne_true), if_neg (show ¬ ((Re.ipv4 (Txt.lower y).cps) = true) by rw [h1]; exact Bool.false_ne_true), if_neg (show ¬ ((Txt.startswith (Txt.lower y) (Str.ofString ".")) = true) by rw [h2]; exact Bool.false_ne_true), if_neg (show ¬ (((Txt.lower x) == (Txt.lower y)) = true) by rw [h3]; exact Bool.false_ne_true)]

theorem slice_from_len (x : Str) (i : Int) : (Txt.slice x (some i) none).length ≤ x.length := Txt.slice_le x (some i) none
theorem reach_len (x : Str) : (reachF x).length ≤ x.length + 1 := by
  have h1 := slice_from_len x (Txt.find x (Str.ofString ".") + 1)
  have h2 : (Str.ofString ".").length = 1 := by decide
  unfold reachF
  repeat' split
  all_goals (try rw [Str.length_append])
  all_goals omega
end Mine
local macro_rules | `(tactic| walk_at $s:str) => `(tactic| k_extra $s)
theorem Mine.rows_S20 : True := by
  k_with_none
  k_with "call ref" => (k_here; (with_reducible show wpAny _ _ (call (Value.ref 141) [Value.str _ _]) _ _ _); k_dflt (refine' Mine.hdn_ok ?k1 ?k2 ?k3 ?k4 ?k5 ?kK ?q0 ?kd ?ku ?_; (case k1 => k_asm); (case k2 => k_asm); (case k3 => k_asm); (case k4 => k_asm); (case k5 => k_asm); (case kK => first | exact rfl | assumption); (case q0 => first | assumption | omega | ((have e9 : (PySem.Str.ofString ".").length = 1 := (by decide)); (have e8 : (PySem.Str.ofString ".7").length = 2 := (by decide)); (have e7 : (PySem.Str.ofString ".7.").length = 3 := (by decide)); omega)); (case kd => ktr_room); (case ku => ktr_units)); intro tk8 h9 tk9 F9 N9; (try dsimp only); (try k_fold))
  k_with "call ref" => (k_here; (with_reducible show wpAny _ _ (call (Value.ref 155) [Value.str _ _]) _ _ _); k_dflt (refine' Mine.lib_ok ?k1 ?k2 ?k3 ?k4 ?k5 ?kK ?q0 ?kd ?ku ?_; (case k1 => k_asm); (case k2 => k_asm); (case k3 => k_asm); (case k4 => k_asm); (case k5 => k_asm); (case kK => first | exact rfl | assumption); (case q0 => first | assumption | omega | ((have e9 : (PySem.Str.ofString ".").length = 1 := (by decide)); (have e8 : (PySem.Str.ofString ".7").length = 2 := (by decide)); (have e7 : (PySem.Str.ofString ".7.").length = 3 := (by decide)); omega)); (case kd => ktr_room); (case ku => ktr_units)); intro tk8 h9 tk9 F9 N9; (try dsimp only); (try k_fold))
  trivial
namespace Mine

set_option maxHeartbeats 4000000 in
theorem reach_ok {p : Program} {w : World} {lo : List Str} {mean : ExcName → Option Value} {mg mb : Str → Option Value} {dp un : Nat} {gd : Option (List Code)} {cn : Str} {cs : Scope} {a : Addr} {ccd : Value} {cl : List (Str × Addr)} {outer : List Env} {A₀ : Around} {base h₀ : Heap} {L : Addr} {m : Str → Option Value} {news : List (Addr × Obj)} {s : Shared} {Q E : Value → Shared → Prop} {x : Str} {tk : Tok}
    (B : Below A₀ base outer h₀) (F : Fr h₀ L s.heap m) (X : (Mine.K w.params).In h₀) (N : News h₀ L s.heap news) (T : Top p lo mean mg mb h₀) (hk : cs.kind = .function) (hx : x.length ≤ 9000) (hd : dp + 2 < recursionLimit) (hu : un + 16 < cLine)
    (hret : ∀ (t : Tok) (h' : Heap) (tk' : Nat), (reachF x).length ≤ x.length + 1 → Fr h₀ L h' m → News h₀ L h' news → Q (.str (reachF x) t) { s with heap := h', toks := tk' }) :
    wpAny (model PySem.Challenge.rw_xl0024_01.prog w) (ktrTop dp un gd cn cs L a ccd cl outer) (call (.ref 169) [.str x tk]) Q E s := by
  revert X; k_fill; intro X
  
  refine wpAny_call ?_
  k_dflt cell_enter
  k_steps
  all_goals (refine' cb_retS (fun t h tk => hret t h tk (reach_len x)) ?e1 ?e2 ?e3; (case e2 => k_asm); (case e3 => k_asm); (case e1 => first | (with_reducible refine reach_0 ?_ ?_ ?_ <;> with_reducible assumption) | (with_reducible refine reach_1 ?_ ?_ ?_ ?_ <;> with_reducible assumption) | (with_reducible refine reach_2 ?_ ?_ ?_ ?_ <;> with_reducible assumption) | (with_reducible refine reach_3 ?_ ?_ <;> with_reducible assumption) | (with_reducible refine reach_4 ?_ <;> with_reducible assumption)))

set_option maxHeartbeats 4000000 in
theorem dm_ok {p : Program} {w : World} {lo : List Str} {mean : ExcName → Option Value} {mg mb : Str → Option Value} {dp un : Nat} {gd : Option (List Code)} {cn : Str} {cs : Scope} {a : Addr} {ccd : Value} {cl : List (Str × Addr)} {outer : List Env} {A₀ : Around} {base h₀ : Heap} {L : Addr} {m : Str → Option Value} {news : List (Addr × Obj)} {s : Shared} {Q E : Value → Shared → Prop} {x : Str} {tk : Tok} {y : Str} {tk2 : Tok}
    (B : Below A₀ base outer h₀) (F : Fr h₀ L s.heap m) (X : (Mine.K w.params).In h₀) (N : News h₀ L s.heap news) (T : Top p lo mean mg mb h₀) (hk : cs.kind = .function) (hx : x.length ≤ 3000) (hy : y.length ≤ 3000) (hd : dp + 2 < recursionLimit) (hu : un + 16 < cLine)
    (hret : ∀ (t : Tok) (h' : Heap) (tk' : Nat), Fr h₀ L h' m → News h₀ L h' news → Q (.bool (dmF x y)) { s with heap := h', toks := tk' }) :
    wpAny (model PySem.Challenge.rw_xl0024_01.prog w) (ktrTop dp un gd cn cs L a ccd cl outer) (call (.ref 148) [.str x tk, .str y tk2]) Q E s := by
  revert X; k_fill; intro X
  
  refine wpAny_call ?_
  k_dflt cell_enter
  k_steps
  all_goals (refine' cb_retB hret ?e1 ?e2 ?e3; (case e2 => k_asm); (case e3 => first | k_asm | (refine' cb_drop ?cbN ?cbS; (case cbN => assumption); (case cbS => first | ((repeat (first | with_reducible exact Mine.sub_refl | with_reducible refine Mine.sub_cons ?_)); done) | kcj_all))); (case e1 => first | (with_reducible refine dm_0 ?_ <;> with_reducible assumption) | (with_reducible refine dm_1 ?_ ?_ ?_ <;> with_reducible assumption) | (with_reducible refine dm_2 ?_ ?_ ?_ ?_ <;> with_reducible assumption) | (with_reducible refine dm_3 ?_ ?_ ?_ ?_ ?_ ?_ <;> with_reducible assumption) | (with_reducible refine dm_4 ?_ ?_ ?_ ?_ ?_ ?_ <;> with_reducible assumption) | (with_reducible refine dm_5 ?_ ?_ ?_ ?_ ?_ <;> with_reducible assumption) | (with_reducible refine dm_6 ?_ ?_ <;> with_reducible assumption)))

set_option maxHeartbeats 4000000 in
theorem udm_ok {p : Program} {w : World} {lo : List Str} {mean : ExcName → Option Value} {mg mb : Str → Option Value} {dp un : Nat} {gd : Option (List Code)} {cn : Str} {cs : Scope} {a : Addr} {ccd : Value} {cl : List (Str × Addr)} {outer : List Env} {A₀ : Around} {base h₀ : Heap} {L : Addr} {m : Str → Option Value} {news : List (Addr × Obj)} {s : Shared} {Q E : Value → Shared → Prop} {x : Str} {tk : Tok} {y : Str} {tk2 : Tok}
    (B : Below A₀ base outer h₀) (F : Fr h₀ L s.heap m) (X : (Mine.K w.params).In h₀) (N : News h₀ L s.heap news) (T : Top p lo mean mg mb h₀) (hk : cs.kind = .function) (hx : x.length ≤ 3000) (hy : y.length ≤ 3000) (hd : dp + 2 < recursionLimit) (hu : un + 16 < cLine)
    (hret : ∀ (t : Tok) (h' : Heap) (tk' : Nat), Fr h₀ L h' m → News h₀ L h' news → Q (.bool (udmF x y)) { s with heap := h', toks := tk' }) :
    wpAny (model PySem.Challenge.rw_xl0024_01.prog w) (ktrTop dp un gd cn cs L a ccd cl outer) (call (.ref 162) [.str x tk, .str y tk2]) Q E s := by
  revert X; k_fill; intro X
  
  refine wpAny_call ?_
  k_dflt cell_enter
  k_steps
  all_goals (refine' cb_retB hret ?e1 ?e2 ?e3; (case e2 => k_asm); (case e3 => first | k_asm | (refine' cb_drop ?cbN ?cbS; (case cbN => assumption); (case cbS => first | ((repeat (first | with_reducible exact Mine.sub_refl | with_reducible refine Mine.sub_cons ?_)); done) | kcj_all))); (case e1 => first | (with_reducible refine udm_0 ?_ ?_ <;> with_reducible assumption) | (with_reducible refine udm_1 ?_ ?_ <;> with_reducible assumption) | (with_reducible refine udm_2 ?_ ?_ ?_ <;> with_reducible assumption) | (with_reducible refine udm_3 ?_ ?_ ?_ <;> with_reducible assumption) | (with_reducible refine udm_4 ?_ ?_ ?_ ?_ <;> with_reducible assumption) | (with_reducible refine udm_5 ?_ ?_ ?_ ?_ <;> with_reducible assumption) | (with_reducible refine udm_6 ?_ ?_ ?_ ?_ <;> with_reducible assumption) | (with_reducible refine udm_7 ?_ ?_ ?_ ?_ <;> with_reducible assumption)))
end Mine

theorem Mine.rows_S2_end : True := by
  k_with_none
  trivial
end
section
open PySem PySem.W PyProof.Rows
set_option maxRecDepth 100000

namespace Mine
theorem strs_snoc {vs : List Value} {xs : List Str} {x : Str} {t : Tok} (h : StrsAre vs xs) : StrsAre (vs ++ [.str x t]) (xs ++ [x]) := by
  induction h with
  | nil => exact .cons _ _ .nil
  | cons y t' _ ih => exact .cons y t' ih
/-- the climb of _law_read -/
noncomputable def readL : Nat → Str → List Str → Str × List Str
  | 0, nm, sg => (nm, sg)
  | k + 1, nm, sg => if reachF nm = nm then (nm, sg) else readL k (Txt.slice (reachF nm) (some 1) none) (sg ++ [Txt.slice nm none (some ((nm.length : Int) - (reachF nm).length))])
structure RdS where
  nm : Str
  tn : Tok
  up : Str
  tu : Tok
  sg : List Str
  arr : Array Value
  n : Nat
noncomputable def RdS.ps (S : Addr) (c : RdS) : List (Str × Value) := [("signs", .ref S), ("name", .str c.nm c.tn), ("up", .str c.up c.tu)]
noncomputable def RdS.led (S : Addr) (news : List (Addr × Obj)) (c : RdS) : List (Addr × Obj) := (S, listOf c.arr c.n) :: news
structure RdS.ok (nm0 : Str) (c : RdS) : Prop where
  are : StrsAre c.arr.toList c.sg
  up : c.up = reachF c.nm
  len : c.sg.length ≤ 6
  bnd : c.nm.length ≤ 2100 + c.sg.length
  run : readL (6 - c.sg.length) c.nm c.sg = readL 6 nm0 []
section
variable {prog : Program} {w : World} {A : Around} {E : Value → Shared → Prop} {Q : Flow → Shared → Prop} {s : Shared} {env : Env} {h₀ : Heap} {L : Addr} {test : PySem.Expr} {body : List Stmt} {pos : Pos} {m₀ : Str → Option Value} {news : List (Addr × Obj)} {S : Addr} {nm : Str} {tn : Tok} {up : Str} {tu : Tok}
theorem read_while (F : Fr h₀ L s.heap m₀) (N : News h₀ L s.heap ((S, listOf #[] 0) :: news)) (h1 : m₀ "signs" = some (.ref S)) (h2 : m₀ "name" = some (.str nm tn)) (h3 : m₀ "up" = some (.str up tu)) (hup : up = reachF nm) (hb : nm.length ≤ 2100)
    (turn : ∀ (c : RdS) (u : Str → Option Value) h tk, c.ok nm → c.sg.length ≤ 6 → c.arr.size = c.sg.length → c.nm.length ≤ 2106 → c.up.length ≤ 2107 → Fr h₀ L h (kstB (fun z => if ([] : List Str).contains z then u z else m₀ z) (c.ps S)) → News h₀ L h (c.led S news) →
      wpAny (model prog w) A (isTrue test env (eval test env)) (fun b s₂ =>
        if b = true then wpAny (model prog w) A (execs body env) (KswPost h₀ L s (RdS.led S news) (RdS.ps S) (fun _ => True) [] m₀ (RdS.ok nm) (fun c => 6 - c.sg.length) Q c) E s₂ else Q .next s₂) E { s with heap := h, toks := tk })
    (hE : PassesOwn (model prog w) A env E := by passes_own) :
    wpAny (model prog w) A (exec (.While test body [] pos) env) Q E s := by
  refine ksw_while (RdS.led S news) (RdS.ps S) (fun _ => True) [] (RdS.ok nm) (fun c => 6 - c.sg.length) ⟨nm, tn, up, tu, [], #[], 0⟩ F N trivial ?_ ⟨.nil, hup, by simp, by simp; omega, rfl⟩ ?_ hE
  · intro p hp
    simp only [RdS.ps, List.mem_cons, List.not_mem_nil, or_false] at hp
    rcases hp with rfl | rfl | rfl <;> assumption
  · intro c u h tk _ hc F' N'
    refine turn c u h tk hc hc.len ?_ (by have := hc.bnd; have := hc.len; omega) (by have := hc.bnd; have := hc.len; have := reach_len c.nm; rw [hc.up]; omega) F' N'
    have := hc.are.len_eq
    simpa using this
end
end Mine
local macro_rules | `(tactic| walk_at $s:str) => `(tactic| k_extra $s)
theorem Mine.rows_S30 : True := by
  k_with_none
  k_with "exec While BoolOp" => (k_here; (rename Fr _ _ _ _ => lF'); (rename News _ _ _ _ => lN'); (with_unfolding_all refine' Mine.read_while lF' lN' ?r1 ?r2 ?r3 ?r4 ?r5 ?_); (case r1 => with_unfolding_all rfl); (case r2 => with_unfolding_all rfl); (case r3 => with_unfolding_all rfl); (case r4 => rfl); (case r5 => ((have e9 : (PySem.Str.ofString ".").length = 1 := (by decide)); omega)); clear lF' lN'; intro c u hh tkk hc hc1 hc2 hc3 hc4 F9 N9; (dsimp only [Mine.RdS.led] at N9); (try k_fold))
  trivial

namespace Mine
noncomputable def readF (x top : Str) : List Str := if ((readL 6 (Txt.slice x (some 1) none ++ Str.ofString "." ++ top) []).1 == top) = true then (readL 6 (Txt.slice x (some 1) none ++ Str.ofString "." ++ top) []).2 else []
section
variable {h₀ : Heap} {L : Addr} {s : Shared} {m₀ m' : Str → Option Value} {news : List (Addr × Obj)} {S : Addr} {nm : Str} {c : RdS} {h' : Heap} {tk : Nat} {t1 t2 t3 : Tok}
theorem rd_end (hc : c.ok nm) (h1 : (c.up != c.nm) = true) (h2 : (c.sg.length : Int) < 6) (F : Fr h₀ L h' m')
    (N : News h₀ L h' ((S, listOf (c.arr.push (.str (Txt.slice c.nm none (some ((c.nm.length : Int) - (c.up.length : Int)))) t1)) (c.n + 1)) :: news))
    (e1 : m' "signs" = some (.ref S)) (e2 : m' "name" = some (.str (Txt.slice c.up (some 1) none) t2)) (e3 : m' "up" = some (.str (reachF (Txt.slice c.up (some 1) none)) t3))
    (hr : ∀ z, z ≠ Str.ofString "signs" → z ≠ Str.ofString "name" → z ≠ Str.ofString "up" → m' z = m₀ z) :
    KswEnd h₀ L s (RdS.led S news) (RdS.ps S) (fun _ => True) [] m₀ (RdS.ok nm) (fun c => 6 - c.sg.length) c { s with heap := h', toks := tk } := by
  have h2' : c.sg.length < 6 := by omega
  have hne : reachF c.nm ≠ c.nm := by
    have := hc.up
    rw [← this]
    simpa using h1
  refine ksw_end ⟨Txt.slice c.up (some 1) none, t2, reachF (Txt.slice c.up (some 1) none), t3, c.sg ++ [Txt.slice c.nm none (some ((c.nm.length : Int) - (c.up.length : Int)))], c.arr.push (.str (Txt.slice c.nm none (some ((c.nm.length : Int) - (c.up.length : Int)))) t1), c.n + 1⟩ F N (fun p hp => hp) trivial ?_ (fun z h _ => hr z (h _ (.head _)) (h _ (.tail _ (.head _))) (h _ (.tail _ (.tail _ (.head _))))) ⟨?_, rfl, ?_, ?_, ?_⟩ ?_
  · intro p hp
    simp only [RdS.ps, List.mem_cons, List.not_mem_nil, or_false] at hp
    rcases hp with rfl | rfl | rfl <;> assumption
  · show StrsAre (c.arr.push _).toList _
    rw [Array.toList_push]
    exact strs_snoc hc.are
  · show (c.sg ++ [_]).length ≤ 6
    rw [List.length_append, List.length_singleton]; omega
  · show (Txt.slice c.up (some 1) none).length ≤ 2100 + (c.sg ++ [_]).length
    have h3 := Txt.slice_le c.up (some 1) none
    have h4 := reach_len c.nm
    rw [← hc.up] at h4
    have h5 := hc.bnd
    rw [List.length_append, List.length_singleton]; omega
  · show readL (6 - (c.sg ++ [_]).length) (Txt.slice c.up (some 1) none) (c.sg ++ [_]) = _
    rw [← hc.run, List.length_append, List.length_singleton]
    obtain ⟨k, hk⟩ : ∃ k, 6 - c.sg.length = k + 1 := ⟨5 - c.sg.length, by omega⟩
    rw [hk, show 6 - (c.sg.length + 1) = k from by omega]
    show _ = (if reachF c.nm = c.nm then _ else _)
    rw [if_neg hne, hc.up]
  · show 6 - (c.sg ++ [_]).length < 6 - c.sg.length
    rw [List.length_append, List.length_singleton]; omega
variable {x y : Str}
theorem rd_out (hc : c.ok (Txt.slice x (some 1) none ++ Str.ofString "." ++ y)) (h1 : (c.up != c.nm) = false ∨ ¬ (c.sg.length : Int) < 6) : readL 6 (Txt.slice x (some 1) none ++ Str.ofString "." ++ y) [] = (c.nm, c.sg) := by
  rw [← hc.run]
  rcases h1 with h1 | h1
  · have e : reachF c.nm = c.nm := by rw [← hc.up]; simpa using h1
    cases h : 6 - c.sg.length with
    | zero => rfl
    | succ k => show (if reachF c.nm = c.nm then _ else _) = _; rw [if_pos e]
  · have h0 : 6 - c.sg.length = 0 := by omega
    rw [h0]; rfl
theorem rd_yes (hc : c.ok (Txt.slice x (some 1) none ++ Str.ofString "." ++ y)) (h1 : (c.up != c.nm) = false ∨ ¬ (c.sg.length : Int) < 6) (h2 : (c.nm == y) = true) : StrsAre c.arr.toList (readF x y) := by
  unfold readF
  rw [rd_out hc h1, if_pos h2]
  exact hc.are
theorem rd_no (hc : c.ok (Txt.slice x (some 1) none ++ Str.ofString "." ++ y)) (h1 : (c.up != c.nm) = false ∨ ¬ (c.sg.length : Int) < 6) (h2 : (c.nm == y) = false) : StrsAre (#[] : Array Value).toList (readF x y) := by
  unfold readF
  rw [rd_out hc h1, if_neg (by rw [h2]; exact Bool.false_ne_true)]
  exact .nil
end
end Mine
theorem Mine.rows_S31 : True := by
  k_with "KswEnd" => ((refine' Mine.rd_end ?e0 ?e1 ?e2 ?e3 ?e4 ?e5 ?e6 ?e7 ?e8); (case e0 => assumption); (case e1 => assumption); (case e2 => assumption); (case e3 => assumption); (case e4 => assumption); (case e5 => with_unfolding_all rfl); (case e6 => with_unfolding_all rfl); (case e7 => with_unfolding_all rfl); (case e8 => (intro z z1 z2 z3; simp [z1, z2, z3, PySem.W.kstB, Mine.RdS.ps])))
  k_with "call ref" => (k_here; (with_reducible show wpAny _ _ (call (Value.ref 169) [Value.str _ _]) _ _ _); k_dflt (refine' Mine.reach_ok ?k1 ?k2 ?k3 ?k4 ?k5 ?kK ?q0 ?kd ?ku ?_; (case k1 => k_asm); (case k2 => k_asm); (case k3 => k_asm); (case k4 => k_asm); (case k5 => k_asm); (case kK => first | exact rfl | assumption); (case q0 => first | assumption | omega | ((have e9 : (PySem.Str.ofString ".").length = 1 := (by decide)); (have e8 : (PySem.Str.ofString ".7").length = 2 := (by decide)); (have e7 : (PySem.Str.ofString ".7.").length = 3 := (by decide)); omega)); (case kd => ktr_room); (case ku => ktr_units)); intro tk8 h9 tk9 hl9 F9 N9; (try dsimp only); (try k_fold))
  trivial
namespace Mine

set_option maxHeartbeats 4000000 in
theorem read_ok {p : Program} {w : World} {lo : List Str} {mean : ExcName → Option Value} {mg mb : Str → Option Value} {dp un : Nat} {gd : Option (List Code)} {cn : Str} {cs : Scope} {a : Addr} {ccd : Value} {cl : List (Str × Addr)} {outer : List Env} {A₀ : Around} {base h₀ : Heap} {L : Addr} {m : Str → Option Value} {news : List (Addr × Obj)} {s : Shared} {Q E : Value → Shared → Prop} {x : Str} {tk : Tok} {y : Str} {tk2 : Tok}
    (B : Below A₀ base outer h₀) (F : Fr h₀ L s.heap m) (X : (Mine.K w.params).In h₀) (N : News h₀ L s.heap news) (T : Top p lo mean mg mb h₀) (hk : cs.kind = .function) (hx : x.length ≤ 1000) (hy : y.length ≤ 1000) (hd : dp + 3 < recursionLimit) (hu : un + 24 < cLine)
    (hret : ∀ (r : Addr) (arr : Array Value) (n : Nat) (h' : Heap) (tk' : Nat), StrsAre arr.toList (readF x y) → Fr h₀ L h' m → News h₀ L h' ((r, listOf arr n) :: news) → (∀ p ∈ news, p.1 < r) → Q (.ref r) { s with heap := h', toks := tk' }) :
    wpAny (model PySem.Challenge.rw_xl0024_01.prog w) (ktrTop dp un gd cn cs L a ccd cl outer) (call (.ref 205) [.str x tk, .str y tk2]) Q E s := by
  revert X; k_fill; intro X
  
  refine wpAny_call ?_
  k_dflt cell_enter
  k_steps
  all_goals (refine' hret _ _ _ _ _ ?e1 ?e2 ?e3 ?e4; (case e2 => k_asm); (case e3 => first | k_asm | (refine' cb_drop ?cbN ?cbS; (case cbN => assumption); (case cbS => first | ((repeat (first | with_reducible exact Mine.sub_refl | with_reducible refine Mine.sub_cons ?_)); done) | kcj_all))); (case e1 => first | (refine rd_yes (by assumption) ?_ (by assumption) <;> first | exact .inl (by assumption) | exact .inr (by assumption)) | (refine rd_no (by assumption) ?_ (by assumption) <;> first | exact .inl (by assumption) | exact .inr (by assumption))); (case e4 => first | exact ktn_ltOf (by assumption) | exact ktn_ltOf (And.right (by assumption)) | exact ktn_ltOf (And.right (And.right (by assumption))) | assumption))

end Mine

theorem Mine.rows_S3_end : True := by
  k_with_none
  trivial
end
section
open PySem PySem.W PyProof.Rows
set_option maxRecDepth 100000

namespace Mine
theorem ints_snoc {vs : List Value} {xs : List Int} {x : Int} {t : Tok} (h : IntsAre vs xs) : IntsAre (vs ++ [.int x t]) (xs ++ [x]) := by
  induction h with
  | nil => exact .cons _ _ .nil
  | cons y t' _ ih => exact .cons y t' ih
section
variable {prog : Program} {w : World} {A : Around} {E : Value → Shared → Prop} {s : Shared} {h₀ : Heap} {L : Addr} {news : List (Addr × Obj)}
/-- an item of a made list of ints at a place that lies in it -/
theorem item_ints {value slice : PySem.Expr} {l : Addr} {vs : List Value} {ls : List Int} {n : Nat} {k : Int} {u : Tok} {Q : Value → Shared → Prop}
    (N : News h₀ L s.heap news) (hm : (l, listOf vs.toArray n) ∈ news) (hi : IntsAre vs ls) (h0 : 0 ≤ k) (h1 : k < (ls.length : Int)) (hz : ls.length ≤ 100)
    (h : ∀ t, Q (.int (ls.getD k.toNat 0) t) s)
    (hs : subscripted slice false (.ref l) (.int k u) = operate [.ref l, .int k u] (getItem (.ref l) (.int k u)) := by with_unfolding_all rfl) :
    wpAny (model prog w) A (subscriptTail value slice (.ref l) (.int k u)) Q E s := by
  have hl : s.heap.IsList l vs.toArray := ⟨_, (N _ hm).1, rfl, n, rfl⟩
  obtain ⟨j, rfl⟩ : ∃ j : Nat, k = (j : Int) := ⟨k.toNat, by omega⟩
  have hj : j < ls.length := by omega
  obtain ⟨t, ht⟩ := hi.get j ls[j] (by simp [hj])
  refine tail_any hl.typeIs slot_list_getitem.lookup (wpAny_getItem_list hl h0 (by omega) (by simpa using ht) ?_) hs
  have e : ls.getD (j : Int).toNat 0 = ls[j] := by simp [hj]
  rw [← e]
  exact h t
end
/-- the ring that goes on from «one», the numbers seen kept -/
noncomputable def chase : Nat → List Int → List Int → Int → List Int × Int
  | 0, _, seen, one => (seen, one)
  | k + 1, ls, seen, one => if one ∉ seen ∧ one < 5 then chase k ls (seen ++ [one]) (ls.getD one.toNat 0) else (seen, one)
/-- _law_rings from the starts left -/
noncomputable def outer (ls : List Int) : List Int → List Int → Int → Int
  | [], _, c => c
  | st :: r, seen, c => if st ∈ seen then outer ls r seen c else if (chase 6 ls (seen ++ [st]) (ls.getD st.toNat 0)).2 = st then outer ls r (chase 6 ls (seen ++ [st]) (ls.getD st.toNat 0)).1 (c + 1) else 9
noncomputable def ringsF (ls : List Int) : Int := outer ls [0, 1, 2, 3, 4] [] 0
/-- distinct numbers below five -/
structure Few (seen : List Int) : Prop where
  nod : seen.Nodup
  lo : ∀ x ∈ seen, 0 ≤ x ∧ x < 5
theorem Few.nil : Few [] := ⟨.nil, by simp⟩
theorem Few.snoc {seen : List Int} {x : Int} (h : Few seen) (hx : x ∉ seen) (h0 : 0 ≤ x) (h5 : x < 5) : Few (seen ++ [x]) :=
  ⟨by rw [List.nodup_append]; exact ⟨h.nod, by simp, fun a ha b hb => by rintro rfl; simp at hb; exact hx (hb ▸ ha)⟩,
   fun y hy => by rcases List.mem_append.mp hy with hy | hy; exact h.lo y hy; simp at hy; subst hy; exact ⟨h0, h5⟩⟩
theorem below_len : ∀ (n : Nat) (l : List Int), l.Nodup → (∀ x ∈ l, 0 ≤ x ∧ x < (n : Int)) → l.length ≤ n
  | 0, l, _, h => by
    cases l with
    | nil => exact Nat.le_refl _
    | cons x r => have := h x (.head _); omega
  | n + 1, l, hn, h => by
    have := below_len n (l.erase (n : Int)) (hn.erase _) (fun x hx => by
      rw [hn.mem_erase_iff] at hx
      have := h x hx.2
      omega)
    have h2 := List.length_erase (l := l) (a := (n : Int))
    split at h2 <;> omega
theorem Few.len {seen : List Int} (h : Few seen) : seen.length ≤ 5 := below_len 5 seen h.nod (fun x hx => h.lo x hx)
structure Good5 (ls : List Int) : Prop where
  len : ls.length = 5
  lo : ∀ x ∈ ls, 0 ≤ x ∧ x < 5
theorem Good5.get {ls : List Int} (h : Good5 ls) (k : Int) (h0 : 0 ≤ k) (h5 : k < 5) : 0 ≤ ls.getD k.toNat 0 ∧ ls.getD k.toNat 0 < 5 := by
  obtain ⟨j, rfl⟩ : ∃ j : Nat, k = (j : Int) := ⟨k.toNat, by omega⟩
  have hj : j < ls.length := by rw [h.len]; omega
  have e : ls.getD (j : Int).toNat 0 = ls[j] := by simp [hj]
  rw [e]
  exact h.lo _ (List.getElem_mem hj)
structure RcS where
  seen : List Int
  vs : List Value
  n : Nat
  one : Int
  t : Tok
noncomputable def RcS.ps (S : Addr) (c : RcS) : List (Str × Value) := [("seen", .ref S), ("one", .int c.one c.t)]
noncomputable def RcS.led (S : Addr) (news : List (Addr × Obj)) (c : RcS) : List (Addr × Obj) := (S, listOf c.vs.toArray c.n) :: news
structure RcS.ok (ls : List Int) (st : Int) (seen0 : List Int) (one0 : Int) (c : RcS) : Prop where
  are : IntsAre c.vs c.seen
  few : Few c.seen
  st : st ∈ c.seen
  one : 0 ≤ c.one ∧ c.one < 5
  run : chase (6 - c.seen.length) ls c.seen c.one = chase (6 - seen0.length) ls seen0 one0
end Mine
end
section
open PySem PySem.W PyProof.Rows
set_option maxRecDepth 100000

namespace Mine
theorem any_mem {seen : List Int} {k : Int} (h : (seen.any fun x => x == k) = true) : k ∈ seen := by
  obtain ⟨x, hx, e⟩ := List.any_eq_true.mp h
  rwa [← eq_of_beq e]
theorem any_not {seen : List Int} {k : Int} (h : (seen.any fun x => x == k) = false) : k ∉ seen := fun hm => by
  rw [List.any_eq_false] at h
  exact h k hm (by simp)
noncomputable def RcS.led2 (I : Addr) (it : Obj) (S : Addr) (rest : List (Addr × Obj)) (c : RcS) : List (Addr × Obj) := (I, it) :: (S, listOf c.vs.toArray c.n) :: rest
section
variable {prog : Program} {w : World} {A : Around} {E : Value → Shared → Prop} {Q : Flow → Shared → Prop} {s : Shared} {env : Env} {h₀ : Heap} {L : Addr} {test : PySem.Expr} {body : List Stmt} {pos : Pos} {m₀ m' : Str → Option Value} {rest : List (Addr × Obj)} {I S : Addr} {it : Obj} {ls seen : List Int} {vs : List Value} {n : Nat} {st one : Int} {t1 t2 t3 : Tok} {c : RcS} {h' : Heap} {tk : Nat}
theorem rc_while (_hg : Good5 ls) (F : Fr h₀ L s.heap m₀) (N : News h₀ L s.heap ((I, it) :: (S, listOf (vs.toArray.push (.int st t1)) n) :: rest)) (h1 : m₀ "seen" = some (.ref S)) (h2 : m₀ "one" = some (.int one t2))
    (hi : IntsAre vs seen) (hf : Few seen) (hst : st ∉ seen) (h0 : 0 ≤ st) (h5 : st < 5) (ho : 0 ≤ one ∧ one < 5)
    (turn : ∀ (c : RcS) (u : Str → Option Value) h tk, c.ok ls st (seen ++ [st]) one → IntsAre c.vs c.seen → 0 ≤ c.one → c.one < 5 → c.vs.length = c.seen.length → c.seen.length ≤ 5 → Fr h₀ L h (kstB (fun z => if ([] : List Str).contains z then u z else m₀ z) (c.ps S)) → News h₀ L h (c.led2 I it S rest) →
      wpAny (model prog w) A (isTrue test env (eval test env)) (fun b s₂ =>
        if b = true then wpAny (model prog w) A (execs body env) (KswPost h₀ L s (RcS.led2 I it S rest) (RcS.ps S) (fun _ => True) [] m₀ (RcS.ok ls st (seen ++ [st]) one) (fun c => 6 - c.seen.length) Q c) E s₂ else Q .next s₂) E { s with heap := h, toks := tk })
    (hE : PassesOwn (model prog w) A env E := by passes_own) :
    wpAny (model prog w) A (exec (.While test body [] pos) env) Q E s := by
  rw [List.push_toArray] at N
  refine ksw_while (RcS.led2 I it S rest) (RcS.ps S) (fun _ => True) [] (RcS.ok ls st (seen ++ [st]) one) (fun c => 6 - c.seen.length) ⟨seen ++ [st], vs ++ [Value.int st t1], n, one, t2⟩ F N trivial ?_ ⟨ints_snoc hi, hf.snoc hst h0 h5, by simp, ho, rfl⟩ ?_ hE
  · intro p hp
    simp only [RcS.ps, List.mem_cons, List.not_mem_nil, or_false] at hp
    rcases hp with rfl | rfl <;> assumption
  · intro c u h tk _ hc F' N'
    exact turn c u h tk hc hc.are hc.one.1 hc.one.2 hc.are.length hc.few.len F' N'
theorem rc_end {seen0 : List Int} {one0 : Int} (hg : Good5 ls) (hc : c.ok ls st seen0 one0) (hn0 : (c.seen.any fun x => x == c.one) = false) (F : Fr h₀ L h' m')
    (N : News h₀ L h' ((I, it) :: (S, listOf (c.vs.toArray.push (.int c.one t1)) (c.n + 1)) :: rest))
    (e1 : m' "seen" = some (.ref S)) (e2 : m' "one" = some (.int (ls.getD c.one.toNat 0) t2)) (hr : ∀ z, z ≠ Str.ofString "seen" → z ≠ Str.ofString "one" → m' z = m₀ z) :
    KswEnd h₀ L s (RcS.led2 I it S rest) (RcS.ps S) (fun _ => True) [] m₀ (RcS.ok ls st seen0 one0) (fun c => 6 - c.seen.length) c { s with heap := h', toks := tk } := by
  rw [List.push_toArray] at N
  have hn : c.one ∉ c.seen := any_not hn0
  have hfew := hc.few.snoc hn hc.one.1 hc.one.2
  have hlen := hfew.len
  rw [List.length_append, List.length_singleton] at hlen
  refine ksw_end ⟨c.seen ++ [c.one], c.vs ++ [Value.int c.one t1], c.n + 1, ls.getD c.one.toNat 0, t2⟩ F N (fun p hp => hp) trivial ?_ (fun z h _ => hr z (h _ (.head _)) (h _ (.tail _ (.head _)))) ⟨ints_snoc hc.are, hfew, List.mem_append_left _ hc.st, hg.get _ hc.one.1 hc.one.2, ?_⟩ ?_
  · intro p hp
    simp only [RcS.ps, List.mem_cons, List.not_mem_nil, or_false] at hp
    rcases hp with rfl | rfl <;> assumption
  · show chase (6 - (c.seen ++ [c.one]).length) ls (c.seen ++ [c.one]) (ls.getD c.one.toNat 0) = _
    rw [← hc.run, List.length_append, List.length_singleton]
    obtain ⟨k, hk⟩ : ∃ k, 6 - c.seen.length = k + 1 := ⟨5 - c.seen.length, by omega⟩
    rw [hk, show 6 - (c.seen.length + 1) = k from by omega]
    show _ = (if c.one ∉ c.seen ∧ c.one < 5 then _ else _)
    rw [if_pos ⟨hn, hc.one.2⟩]
  · show 6 - (c.seen ++ [c.one]).length < 6 - c.seen.length
    rw [List.length_append, List.length_singleton]; omega
/-- the chase is through -/
theorem rc_out {seen0 : List Int} {one0 : Int} (hc : c.ok ls st seen0 one0) (hn : c.one ∈ c.seen) : chase (6 - seen0.length) ls seen0 one0 = (c.seen, c.one) := by
  rw [← hc.run]
  cases h : 6 - c.seen.length with
  | zero => rfl
  | succ k => show (if c.one ∉ c.seen ∧ c.one < 5 then _ else _) = _; rw [if_neg (fun h => h.1 hn)]
/-- chase does not hang on spare turns -/
theorem chase_more {ls : List Int} (hg : Good5 ls) : ∀ (k : Nat) (seen : List Int) (one : Int), Few seen → 0 ≤ one → one < 5 → 6 ≤ k + seen.length → chase (k + 1) ls seen one = chase k ls seen one
  | 0, seen, one, hf, h0, h5, hk => by have := hf.len; omega
  | k + 1, seen, one, hf, h0, h5, hk => by
    show (if one ∉ seen ∧ one < 5 then chase (k + 1) ls _ _ else _) = (if one ∉ seen ∧ one < 5 then chase k ls _ _ else _)
    by_cases h : one ∉ seen ∧ one < 5
    · rw [if_pos h, if_pos h]
      have hg' := hg.get one h0 h5
      exact chase_more hg k _ _ (hf.snoc h.1 h0 h5) hg'.1 hg'.2 (by rw [List.length_append, List.length_singleton]; omega)
    · rw [if_neg h, if_neg h]
theorem chase_six {ls : List Int} (hg : Good5 ls) : ∀ (k : Nat) (seen : List Int) (one : Int), Few seen → 0 ≤ one → one < 5 → 6 ≤ k + seen.length → k ≤ 6 → chase 6 ls seen one = chase k ls seen one := by
  intro k seen one hf h0 h5 hk hk6
  obtain ⟨j, hj⟩ : ∃ j, 6 = k + j := ⟨6 - k, by omega⟩
  rw [hj]
  clear hj hk6
  induction j with
  | zero => rfl
  | succ j ih => rw [← ih, show k + (j + 1) = (k + j) + 1 from rfl]; exact chase_more hg _ _ _ hf h0 h5 (by omega)
end
theorem cb_valI {h₀ h' : Heap} {L ld : Addr} {m : Str → Option Value} {o : Obj} {news : List (Addr × Obj)} {s : Shared} {Q : Value → Shared → Prop} {x y : Int} {t : Tok} {tk' : Nat}
    (hret : ∀ (t : Tok) (h' : Heap) (tk' : Nat), 0 ≤ x → x ≤ 9 → Fr h₀ L h' m → News h₀ L h' ((ld, o) :: news) → Q (.int x t) { s with heap := h', toks := tk' }) (e : y = x) (h1 : 0 ≤ y) (h2 : y ≤ 9) (F : Fr h₀ L h' m) (N : News h₀ L h' ((ld, o) :: news)) : Q (.int y t) { s with heap := h', toks := tk' } := by
  subst e
  exact hret t h' tk' h1 h2 F N
/-- between the turns of the outer loop -/
structure RgI (ls : List Int) (i : Nat) (seen : List Int) (cnt : Int) : Prop where
  few : Few seen
  run : outer ls ([0, 1, 2, 3, 4].drop i) seen cnt = ringsF ls
  cnt : 0 ≤ cnt ∧ cnt ≤ i
inductive RgRest (S ld : Addr) (lo : Obj) (news : List (Addr × Obj)) (ls : List Int) (i : Nat) (m' : Str → Option Value) (news' : List (Addr × Obj)) : Prop
  | mk (seen : List Int) (vs : List Value) (n : Nat) (cnt : Int) (tc : Tok) (h1 : IntsAre vs seen) (h2 : RgI ls i seen cnt) (h3 : m' "seen" = some (.ref S)) (h4 : m' "count" = some (.int cnt tc)) (h5 : m' "leads" = some (.ref ld)) (h6 : news' = (S, listOf vs.toArray n) :: (ld, lo) :: news) : RgRest S ld lo news ls i m' news'
theorem drop_cons5 {i : Nat} (h : i < 5) : ([0, 1, 2, 3, 4] : List Int).drop i = (i : Int) :: ([0, 1, 2, 3, 4] : List Int).drop (i + 1) := by
  match i, h with
  | 0, _ => rfl
  | 1, _ => rfl
  | 2, _ => rfl
  | 3, _ => rfl
  | 4, _ => rfl
section
variable {h₀ h' : Heap} {L I S ld : Addr} {it lo : Obj} {s : Shared} {news : List (Addr × Obj)} {ls seen : List Int} {vs : List Value} {n i tk : Nat} {cnt : Int} {tc : Tok} {m' : Str → Option Value} {c : RcS} {one0 : Int}
theorem rg_a (hb : (seen.any fun x => x == (i : Int)) = true) (hI : RgI ls i seen cnt) (hia : IntsAre vs seen) (h5 : i < 5) (F : Fr h₀ L h' m') (N : News h₀ L h' ((I, it) :: (S, listOf vs.toArray n) :: (ld, lo) :: news))
    (e1 : m' "seen" = some (.ref S)) (e2 : m' "count" = some (.int cnt tc)) (e3 : m' "leads" = some (.ref ld)) (off : ∀ p ∈ (S, listOf vs.toArray n) :: (ld, lo) :: news, p.1 ≠ I) :
    UnrEnd h₀ L s I it (RgRest S ld lo news ls (i + 1)) { s with heap := h', toks := tk } := by
  refine UnrEnd.intro F N _ (fun p hp => hp) off ⟨seen, vs, n, cnt, tc, hia, ⟨hI.few, ?_, by have := hI.cnt; omega⟩, e1, e2, e3, rfl⟩
  rw [← hI.run, drop_cons5 h5]
  show _ = (if (i : Int) ∈ seen then _ else _)
  rw [if_pos (any_mem hb)]
theorem rg_chase (hg : Good5 ls) (hb : (seen.any fun x => x == (i : Int)) = false) (hI : RgI ls i seen cnt) (h5 : i < 5) (hc : c.ok ls i (seen ++ [(i : Int)]) (ls.getD (i : Int).toNat 0)) (hn : (c.seen.any fun x => x == c.one) = true) :
    chase 6 ls (seen ++ [(i : Int)]) (ls.getD (i : Int).toNat 0) = (c.seen, c.one) := by
  have hg' := hg.get (i : Int) (by omega) (by omega)
  have hf := hI.few.snoc (any_not hb) (by omega : (0 : Int) ≤ i) (by omega)
  rw [chase_six hg (6 - (seen ++ [(i : Int)]).length) _ _ hf hg'.1 hg'.2 (by have := hf.len; omega) (by omega)]
  exact rc_out hc (any_mem hn)
theorem rg_b (hg : Good5 ls) (hb : (seen.any fun x => x == (i : Int)) = false) (hI : RgI ls i seen cnt) (h5 : i < 5) (hc : c.ok ls i (seen ++ [(i : Int)]) (ls.getD (i : Int).toNat 0)) (hn : (c.seen.any fun x => x == c.one) = true)
    (he : ((c.one - (i : Int) == 0) != true) = false) (F : Fr h₀ L h' m') (N : News h₀ L h' ((I, it) :: (S, listOf c.vs.toArray c.n) :: (ld, lo) :: news))
    (e1 : m' "seen" = some (.ref S)) (e2 : m' "count" = some (.int (cnt + 1) tc)) (e3 : m' "leads" = some (.ref ld)) (off : ∀ p ∈ (S, listOf c.vs.toArray c.n) :: (ld, lo) :: news, p.1 ≠ I) :
    UnrEnd h₀ L s I it (RgRest S ld lo news ls (i + 1)) { s with heap := h', toks := tk } := by
  refine UnrEnd.intro F N _ (fun p hp => hp) off ⟨c.seen, c.vs, c.n, cnt + 1, tc, hc.are, ⟨hc.few, ?_, by have := hI.cnt; omega⟩, e1, e2, e3, rfl⟩
  rw [← hI.run, drop_cons5 h5]
  show _ = (if (i : Int) ∈ seen then _ else if (chase 6 ls (seen ++ [(i : Int)]) (ls.getD (i : Int).toNat 0)).2 = (i : Int) then outer ls _ (chase 6 ls (seen ++ [(i : Int)]) (ls.getD (i : Int).toNat 0)).1 (cnt + 1) else 9)
  have he2 : c.one - (i : Int) = 0 := by simpa using he
  rw [if_neg (any_not hb), rg_chase hg hb hI h5 hc hn, if_pos (by show c.one = i; omega)]
theorem rg_9 (hg : Good5 ls) (hb : (seen.any fun x => x == (i : Int)) = false) (hI : RgI ls i seen cnt) (h5 : i < 5) (hc : c.ok ls i (seen ++ [(i : Int)]) (ls.getD (i : Int).toNat 0)) (hn : (c.seen.any fun x => x == c.one) = true)
    (he : ((c.one - (i : Int) == 0) != true) = true) : (9 : Int) = ringsF ls := by
  rw [← hI.run, drop_cons5 h5]
  show _ = (if (i : Int) ∈ seen then _ else if (chase 6 ls (seen ++ [(i : Int)]) (ls.getD (i : Int).toNat 0)).2 = (i : Int) then outer ls _ (chase 6 ls (seen ++ [(i : Int)]) (ls.getD (i : Int).toNat 0)).1 (cnt + 1) else 9)
  have he2 : ¬ c.one - (i : Int) = 0 := by simpa using he
  rw [if_neg (any_not hb), rg_chase hg hb hI h5 hc hn, if_neg (by show ¬ c.one = i; omega)]
theorem rg_no (hc : c.ok ls i seen one0) (hn : (c.seen.any fun x => x == c.one) = false) (he : ((c.one - (i : Int) == 0) != false) = true) : False := by
  have he2 : c.one - (i : Int) = 0 := by simpa using he
  have h1 : c.one = i := by omega
  exact any_not hn (h1 ▸ hc.st)
end
theorem fr_see {h₀ h : Heap} {L : Addr} {m : Str → Option Value} {x : Str} {v : Value} (F : Fr h₀ L h m) (e : m x = some v) : Fr h₀ L h (fun y => if y = x then some v else m y) := by
  have : (fun y => if y = x then some v else m y) = m := by
    funext y
    by_cases hy : y = x
    · rw [if_pos hy, hy, e]
    · rw [if_neg hy]
  rw [this]; exact F
section
variable {prog : Program} {w : World} {A : Around} {E : Value → Shared → Prop} {s : Shared} {env : Env} {h₀ : Heap} {x : Str} {body : List Stmt} {Q : Flow → Shared → Prop} {news : List (Addr × Obj)} {I S ld : Addr} {lo : Obj} {ls : List Int} {m₀ : Str → Option Value}
theorem rg_rest (hx : x ≠ "seen" ∧ x ≠ "count" ∧ x ≠ "leads")
    (turn : ∀ (i : Nat) (seen : List Int) (vs : List Value) (n : Nat) (cnt : Int) (tc : Tok) (m₁ : Str → Option Value) (t : Tok) h tk it, i < 5 → IntsAre vs seen → vs.length ≤ 5 → RgI ls i seen cnt →
      Fr h₀ env.locals h (fun y => if y = x then some (.int ((i : Nat) : Int) t) else if y = "seen" then some (.ref S) else if y = "count" then some (.int cnt tc) else if y = "leads" then some (.ref ld) else m₁ y) →
      News h₀ env.locals h ((I, it) :: (S, listOf vs.toArray n) :: (ld, lo) :: news) →
      wpAny (model prog w) A (execs body env) (UnrPost h₀ env.locals { s with heap := h, toks := tk } I it (RgRest S ld lo news ls (i + 1)) Q) E { s with heap := h, toks := tk })
    (done : ∀ (seen : List Int) (vs : List Value) (n : Nat) (tc : Tok) (m₁ : Str → Option Value) h tk, 0 ≤ ringsF ls → ringsF ls ≤ 5 → Fr h₀ env.locals h (fun y => if y = "count" then some (.int (ringsF ls) tc) else m₁ y) → News h₀ env.locals h ((S, listOf vs.toArray n) :: (ld, lo) :: news) → Q .next { s with heap := h, toks := tk }) :
    ∀ (k i : Nat) (m : Str → Option Value) (news' : List (Addr × Obj)), i + k = 5 → RgRest S ld lo news ls i m news' → RangeRest prog w A E h₀ env x body Q s I 0 5 k i m news'
  | 0, i, m, news', hk, ⟨seen, vs, n, cnt, tc, hi, hI, e1, e2, e3, e4⟩ => by
    refine RangeRest.zero fun h tk F N => ?_
    subst e4
    obtain rfl : i = 5 := by omega
    have hr : cnt = ringsF ls := hI.run
    have hc := hI.cnt
    exact done seen vs n tc m h tk (by omega) (by omega) (fr_see F (hr ▸ e2)) N
  | k + 1, i, m, news', hk, ⟨seen, vs, n, cnt, tc, hi, hI, e1, e2, e3, e4⟩ => by
    refine RangeRest.succ fun t h tk F N => ?_
    subst e4
    have F' : Fr h₀ env.locals h (fun y => if y = x then some (.int ((i : Nat) : Int) t) else if y = "seen" then some (.ref S) else if y = "count" then some (.int cnt tc) else if y = "leads" then some (.ref ld) else m y) := by
      have e : (fun y => if y = x then some (Value.int ((i : Nat) : Int) t) else if y = "seen" then some (.ref S) else if y = "count" then some (.int cnt tc) else if y = "leads" then some (.ref ld) else m y) = fun y => if y = x then some (Value.int (0 + (i : Int)) t) else m y := by
        funext y
        by_cases hy : y = x
        · rw [if_pos hy, if_pos hy, Int.zero_add]
        · rw [if_neg hy, if_neg hy]
          by_cases h1 : y = "seen"
          · rw [if_pos h1, h1, e1]
          · rw [if_neg h1]
            by_cases h2 : y = "count"
            · rw [if_pos h2, h2, e2]
            · rw [if_neg h2]
              by_cases h3 : y = "leads"
              · rw [if_pos h3, h3, e3]
              · rw [if_neg h3]
      rw [e]; exact F
    refine wpAny_mono (turn i seen vs n cnt tc m t h tk _ (by omega) hi (by rw [hi.length]; exact hI.few.len) hI F' N) (fun f s₂ p => ?_) fun _ _ e => e
    have fin : ∀ it, UnrEnd h₀ env.locals { s with heap := h, toks := tk } I it (RgRest S ld lo news ls (i + 1)) s₂ → UnrEnd h₀ env.locals { s with heap := h, toks := tk } I it (RangeRest prog w A E h₀ env x body Q s I 0 5 k (i + 1)) s₂ := by
      rintro it ⟨h', tk', m', n', e, F2, N2, ho, hr⟩
      exact ⟨h', tk', m', n', e, F2, N2, ho, rg_rest hx turn done k (i + 1) m' n' (by omega) hr⟩
    cases f with
    | ret v => exact p
    | brk => exact p
    | next => exact fin _ p
    | cont => exact fin _ p
theorem rg_for {r : Addr} {t₀ u₀ v₀ : Tok} {vl : List Value} {nl : Nat} {tc : Tok} (hx : x ≠ "seen" ∧ x ≠ "count" ∧ x ≠ "leads") (hh : A.handled = none) (hr : IsRange s.heap r 0 5 1 t₀ u₀ v₀)
    (F : Fr h₀ env.locals s.heap m₀) (N : News h₀ env.locals s.heap ((S, listOf #[] 0) :: (ld, listOf vl.toArray nl) :: news)) (e1 : m₀ "seen" = some (.ref S)) (e2 : m₀ "count" = some (.int 0 tc)) (e3 : m₀ "leads" = some (.ref ld)) (_hi : IntsAre vl ls)
    (turn : ∀ (I : Addr) (i : Nat) (seen : List Int) (vs : List Value) (n : Nat) (cnt : Int) (tc : Tok) (m₁ : Str → Option Value) (t : Tok) h tk it, (∀ p ∈ (S, listOf #[] 0) :: (ld, listOf vl.toArray nl) :: news, p.1 < I) → i < 5 → IntsAre vs seen → vs.length ≤ 5 → RgI ls i seen cnt →
      Fr h₀ env.locals h (fun y => if y = x then some (.int ((i : Nat) : Int) t) else if y = "seen" then some (.ref S) else if y = "count" then some (.int cnt tc) else if y = "leads" then some (.ref ld) else m₁ y) →
      News h₀ env.locals h ((I, it) :: (S, listOf vs.toArray n) :: (ld, listOf vl.toArray nl) :: news) →
      wpAny (model prog w) A (execs body env) (UnrPost h₀ env.locals { s with heap := h, toks := tk } I it (RgRest S ld (listOf vl.toArray nl) news ls (i + 1)) Q) E { s with heap := h, toks := tk })
    (done : ∀ (seen : List Int) (vs : List Value) (n : Nat) (tc : Tok) (m₁ : Str → Option Value) h tk, 0 ≤ ringsF ls → ringsF ls ≤ 5 → Fr h₀ env.locals h (fun y => if y = "count" then some (.int (ringsF ls) tc) else m₁ y) → News h₀ env.locals h ((S, listOf vs.toArray n) :: (ld, listOf vl.toArray nl) :: news) → Q .next { s with heap := h, toks := tk }) :
    wpAny (model prog w) A (pyIter (.ref r)) (fun it s₂ => LoopAtV prog w A h₀ env x body Q E it s₂) E s := by
  refine iter_rangeUnr (n := 5) hh hr (by decide) (by decide) F N fun I hI => ?_
  exact rg_rest hx (fun i seen vs n cnt tc m₁ t h tk it => turn I i seen vs n cnt tc m₁ t h tk it hI) done 5 0 m₀ _ rfl ⟨[], [], 0, 0, tc, .nil, ⟨.nil, rfl, by omega⟩, e1, e2, e3, rfl⟩
end
end Mine
end
section
open PySem PySem.W PyProof.Rows
set_option maxRecDepth 100000
local macro_rules | `(tactic| walk_at $s:str) => `(tactic| k_extra $s)
theorem Mine.rows_S40 : True := by
  k_with_none
  k_with "call ref" => (k_here; (with_reducible show wpAny _ _ (call (Value.ref 186) [Value.int _ _]) _ _ _); k_dflt (refine' Mine.iseof_ok ?k1 ?k2 ?k3 ?k4 ?k5 ?kK  ?kd ?ku ?_; (case k1 => k_asm); (case k2 => k_asm); (case k3 => k_asm); (case k4 => k_asm); (case k5 => k_asm); (case kK => first | exact rfl | assumption); (case kd => ktr_room); (case ku => ktr_units)); intro tk8 h9 tk9 F9 N9; (try dsimp only); (try k_fold))
  trivial

theorem Mine.rows_S4p : True := by
  k_with "pyIter ref" => (k_here; (with_reducible show wpAny _ _ (pyIter (Value.ref _)) (fun it s₂ => LoopAtV _ _ _ _ _ _ _ _ _ it s₂) _ _); (rename Fr _ _ _ _ => lF'); (rename News _ _ _ _ => lN'); (rename IsRange _ _ _ _ _ _ _ _ => lR'); (with_unfolding_all refine' Mine.rg_for ?r1 (by rfl) lR' lF' lN' ?r2 ?r3 ?r4 (by assumption) ?_ ?_); (case r1 => decide); (case r2 => with_unfolding_all rfl); (case r3 => with_unfolding_all rfl); (case r4 => with_unfolding_all rfl); (all_goals (try clear lF' lN' lR')); (all_goals (try k_fold)))
  trivial
theorem Mine.rows_S41 : True := by
  k_with "forall" => ((intro I' i' seen' vs' n' cnt' tc' m1' t' h' tk' it' l1 hi5 hia hvl hI F9 N9); (k_lt l1); (have hfew := hI.few); (have hcnt := hI.cnt); (try dsimp only))
  trivial

theorem Mine.rows_S42 : True := by
  k_with "subscriptTail" => (k_here; (with_reducible show wpAny _ _ (subscriptTail _ _ (Value.ref _) (Value.int _ _)) _ _ _); k_dflt (refine' Mine.item_ints ?i1 ?i2 ?i3 ?i4 ?i5 ?i6 ?_; (case i1 => k_asm); (case i2 => k_mem); (case i3 => assumption); (case i4 => omega); (case i5 => first | omega | ((have e9 := Mine.Good5.len (by assumption)); omega)); (case i6 => first | omega | ((have e9 := Mine.Good5.len (by assumption)); omega))); intro t9; (try dsimp only); (try k_fold))
  k_with "exec While BoolOp" => (k_here; (rename Fr _ _ _ _ => lF'); (rename News _ _ _ _ => lN'); (with_unfolding_all refine' Mine.rc_while ?r0 lF' lN' ?r1 ?r2 ?r3 ?r4 ?r5 ?r6 ?r7 ?r8 ?_); (case r0 => assumption); (case r1 => with_unfolding_all rfl); (case r2 => with_unfolding_all rfl); (case r3 => assumption); (case r4 => assumption); (case r5 => exact Mine.any_not (by assumption)); (case r6 => omega); (case r7 => omega); (case r8 => exact Mine.Good5.get (by assumption) _ (by omega) (by omega)); clear lF' lN'; intro c u hh tkk hc hca hc0 hc5 hcl hcn F9 N9; (dsimp only [Mine.RcS.led2] at N9); (try dsimp only); (try k_fold))
  trivial

namespace Mine
set_option maxHeartbeats 4000000 in
theorem rings_ok {p : Program} {w : World} {lo : List Str} {mean : ExcName → Option Value} {mg mb : Str → Option Value} {dp un : Nat} {gd : Option (List Code)} {cn : Str} {cs : Scope} {a : Addr} {ccd : Value} {cl : List (Str × Addr)} {outer : List Env} {A₀ : Around} {base h₀ : Heap} {L : Addr} {m : Str → Option Value} {news : List (Addr × Obj)} {s : Shared} {Q E : Value → Shared → Prop} {ld : Addr} {vl : List Value} {nl : Nat} {ls : List Int}
    (B : Below A₀ base outer h₀) (F : Fr h₀ L s.heap m) (X : (Mine.K w.params).In h₀) (N : News h₀ L s.heap ((ld, listOf vl.toArray nl) :: news)) (T : Top p lo mean mg mb h₀) (hk : cs.kind = .function) (hi : IntsAre vl ls) (hg : Mine.Good5 ls) (hl : vl.length = 5) (hd : dp + 2 < recursionLimit) (hu : un + 16 < cLine)
    (hret : ∀ (t : Tok) (h' : Heap) (tk' : Nat), 0 ≤ Mine.ringsF ls → Mine.ringsF ls ≤ 9 → Fr h₀ L h' m → News h₀ L h' ((ld, listOf vl.toArray nl) :: news) → Q (.int (Mine.ringsF ls) t) { s with heap := h', toks := tk' }) :
    wpAny (model PySem.Challenge.rw_xl0024_01.prog w) (ktrTop dp un gd cn cs L a ccd cl outer) (call (.ref 198) [.ref ld]) Q E s := by
  revert X; k_fill; intro X
  
  refine wpAny_call ?_
  k_dflt cell_enter
  k_steps
  all_goals first
    | (with_unfolding_all refine' Mine.rg_a ?h1 ?h2 ?h3 ?h4 ?F ?N ?e1 ?e2 ?e3 ?off; (case h1 => assumption); (case h2 => assumption); (case h3 => assumption); (case h4 => assumption); (case F => assumption); (case N => assumption); (case e1 => with_unfolding_all rfl); (case e2 => with_unfolding_all rfl); (case e3 => with_unfolding_all rfl); (case off => k_all))
    | (with_unfolding_all refine' Mine.rg_b ?h0 ?h1 ?h2 ?h4 ?h5 ?h6 ?h7 ?F ?N ?e1 ?e2 ?e3 ?off; (case h0 => assumption); (case h1 => assumption); (case h2 => assumption); (case h4 => assumption); (case h5 => assumption); (case h6 => assumption); (case h7 => assumption); (case F => assumption); (case N => assumption); (case e1 => with_unfolding_all rfl); (case e2 => with_unfolding_all rfl); (case e3 => with_unfolding_all rfl); (case off => k_all))
    | (with_unfolding_all refine' Mine.rc_end ?h0 ?h1 ?h2 ?F ?N ?e1 ?e2 ?e3; (case h0 => assumption); (case h1 => assumption); (case h2 => assumption); (case F => assumption); (case N => assumption); (case e1 => with_unfolding_all rfl); (case e2 => with_unfolding_all rfl); (case e3 => (intro z z1 z2; simp [z1, z2, PySem.W.kstB, Mine.RcS.ps])))
    | (exfalso; exact Mine.rg_no (by assumption) (by assumption) (by assumption))
    | (refine' Mine.cb_valI hret (Mine.rg_9 ?h0 ?h1 ?h2 ?h3 ?h4 ?h5 ?h6) ?r1 ?r2 ?F ?N; (case h0 => assumption); (case h1 => assumption); (case h2 => assumption); (case h3 => assumption); (case h4 => assumption); (case h5 => assumption); (case h6 => assumption); (case r1 => decide); (case r2 => decide); (case F => k_asm); (case N => (refine' cb_drop ?cbN ?cbS; (case cbN => assumption); (case cbS => first | ((repeat (first | with_reducible exact Mine.sub_refl | with_reducible refine Mine.sub_cons ?_)); done) | kcj_all))))
    | (refine' Mine.cb_valI hret rfl ?r1 ?r2 ?F ?N; (case r1 => assumption); (case r2 => omega); (case F => k_asm); (case N => (refine' cb_drop ?cbN ?cbS; (case cbN => assumption); (case cbS => first | ((repeat (first | with_reducible exact Mine.sub_refl | with_reducible refine Mine.sub_cons ?_)); done) | kcj_all))))


end Mine

theorem Mine.rows_S4_end : True := by
  k_with_none
  trivial
end
section
open PySem PySem.W PyProof.Rows
set_option maxRecDepth 100000
namespace Mine
noncomputable def besideF (x r1 r2 r3 r4 : Str) (o0 o1 o2 o3 o4 : Int) : Bool := (if (dmF (Str.ofString "y" ++ x) (Str.ofString "." ++ r1 ++ Str.ofString "." ++ r2) != ([o0, o1, o2, o3, o4].getD ((1 : Int) + ((0 : Nat) : Int)).toNat 0 == (1 : Int) + ((0 : Nat) : Int))) = true then false else (if (dmF (Str.ofString "y" ++ x) (Str.ofString "." ++ r2 ++ Str.ofString "." ++ r3) != ([o0, o1, o2, o3, o4].getD ((1 : Int) + ((0 + 1 : Nat) : Int)).toNat 0 == (1 : Int) + ((0 + 1 : Nat) : Int))) = true then false else (if (dmF (Str.ofString "y" ++ x) (Str.ofString "." ++ r3 ++ Str.ofString "." ++ r4) != ([o0, o1, o2, o3, o4].getD ((1 : Int) + ((0 + 1 + 1 : Nat) : Int)).toNat 0 == (1 : Int) + ((0 + 1 + 1 : Nat) : Int))) = true then false else (udmF (Str.ofString "y" ++ x) (Str.ofString "." ++ r4) == ([o0, o1, o2, o3, o4].getD (Int.toNat 4) 0 == 4)))))
theorem beside_0 {x r1 r2 r3 r4 : Str} {o0 o1 o2 o3 o4 : Int} (h0 : (dmF (Str.ofString "y" ++ x) (Str.ofString "." ++ r1 ++ Str.ofString "." ++ r2) != ([o0, o1, o2, o3, o4].getD ((1 : Int) + ((0 : Nat) : Int)).toNat 0 == (1 : Int) + ((0 : Nat) : Int))) = true) : false = besideF x r1 r2 r3 r4 o0 o1 o2 o3 o4 := by unfold besideF; rw [if_pos h0]
theorem beside_1 {x r1 r2 r3 r4 : Str} {o0 o1 o2 o3 o4 : Int} (h0 : (dmF (Str.ofString "y" ++ x) (Str.ofString "." ++ r1 ++ Str.ofString "." ++ r2) != ([o0, o1, o2, o3, o4].getD ((1 : Int) + ((0 : Nat) : Int)).toNat 0 == (1 : Int) + ((0 : Nat) : Int))) = false) (h1 : (dmF (Str.ofString "y" ++ x) (Str.ofString "." ++ r2 ++ Str.ofString "." ++ r3) != ([o0, o1, o2, o3, o4].getD ((1 : Int) + ((0 + 1 : Nat) : Int)).toNat 0 == (1 : Int) + ((0 + 1 : Nat) : Int))) = true) : false = besideF x r1 r2 r3 r4 o0 o1 o2 o3 o4 := by unfold besideF; rw [if_neg (show ¬ ((dmF (Str.ofString "y" ++ x) (Str.ofString "." ++ r1 ++ Str.ofString "." ++ r2) != ([o0, o1, o2, o3, o4].getD ((1 : Int) + ((0 : Nat) : Int)).toNat 0 == (1 : Int) + ((0 : Nat) : Int))) = true) by rw [h0]; exact Bool.false_ne_true), if_pos h1]
theorem beside_2 {x r1 r2 r3 r4 : Str} {o0 o1 o2 o3 o4 : Int} (h0 : (dmF (Str.ofString "y" ++ x) (Str.ofString "." ++ r1 ++ Str.ofString "." ++ r2) != ([o0, o1, o2, o3, o4].getD ((1 : Int) + ((0 : Nat) : Int)).toNat 0 == (1 : Int) + ((0 : Nat) : Int))) = false) (h1 : (dmF (Str.ofString "y" ++ x) (Str.ofString "." ++ r2 ++ Str.ofString "." ++ r3) != ([o0, o1, o2, o3, o4].getD ((1 : Int) + ((0 + 1 : Nat) : Int)).toNat 0 == (1 : Int) + ((0 + 1 : Nat) : Int))) = false) (h2 : (dmF (Str.ofString "y" ++ x) (Str.ofString "." ++ r3 ++ Str.ofString "." ++ r4) != ([o0, o1, o2, o3, o4].getD ((1 : Int) + ((0 + 1 + 1 : Nat) : Int)).toNat 0 == (1 : Int) + ((0 + 1 + 1 : Nat) : Int))) = true) : false = besideF x r1 r2 r3 r4 o0 o1 o2 o3 o4 := by unfold besideF; rw [if_neg (show ¬ ((dmF (Str.ofString "y" ++ x) (Str.ofString "." ++ r1 ++ Str.ofString "." ++ r2) != ([o0, o1, o2, o3, o4].getD ((1 : Int) + ((0 : Nat) : Int)).toNat 0 == (1 : Int) + ((0 : Nat) : Int))) = true) by rw [h0]; exact Bool.false_ne_true), if_neg (show ¬ ((dmF (Str.ofString "y" ++ x) (Str.ofString "." ++ r2 ++ Str.ofString "." ++ r3) != ([o0, o1, o2, o3, o4].getD ((1 : Int) + ((0 + 1 : Nat) : Int)).toNat 0 == (1 : Int) + ((0 + 1 : Nat) : Int))) = true) by rw [h1]; exact Bool.false_ne_true), if_pos h2]
theorem beside_3 {x r1 r2 r3 r4 : Str} {o0 o1 o2 o3 o4 : Int} (h0 : (dmF (Str.ofString "y" ++ x) (Str.ofString "." ++ r1 ++ Str.ofString "." ++ r2) != ([o0, o1, o2, o3, o4].getD ((1 : Int) + ((0 : Nat) : Int)).toNat 0 == (1 : Int) + ((0 : Nat) : Int))) = false) (h1 : (dmF (Str.ofString "y" ++ x) (Str.ofString "." ++ r2 ++ Str.ofString "." ++ r3) != ([o0, o1, o2, o3, o4].getD ((1 : Int) + ((0 + 1 : Nat) : Int)).toNat 0 == (1 : Int) + ((0 + 1 : Nat) : Int))) = false) (h2 : (dmF (Str.ofString "y" ++ x) (Str.ofString "." ++ r3 ++ Str.ofString "." ++ r4) != ([o0, o1, o2, o3, o4].getD ((1 : Int) + ((0 + 1 + 1 : Nat) : Int)).toNat 0 == (1 : Int) + ((0 + 1 + 1 : Nat) : Int))) = false) : (udmF (Str.ofString "y" ++ x) (Str.ofString "." ++ r4) == ([o0, o1, o2, o3, o4].getD (Int.toNat 4) 0 == 4)) = besideF x r1 r2 r3 r4 o0 o1 o2 o3 o4 := by unfold besideF; rw [if_neg (show ¬ ((dmF (Str.ofString "y" ++ x) (Str.ofString "." ++ r1 ++ Str.ofString "." ++ r2) != ([o0, o1, o2, o3, o4].getD ((1 : Int) + ((0 : Nat) : Int)).toNat 0 == (1 : Int) + ((0 : Nat) : Int))) = true) by rw [h0]; exact Bool.false_ne_true), if_neg (show ¬ ((dmF (Str.ofString "y" ++ x) (Str.ofString "." ++ r2 ++ Str.ofString "." ++ r3) != ([o0, o1, o2, o3, o4].getD ((1 : Int) + ((0 + 1 : Nat) : Int)).toNat 0 == (1 : Int) + ((0 + 1 : Nat) : Int))) = true) by rw [h1]; exact Bool.false_ne_true), if_neg (show ¬ ((dmF (Str.ofString "y" ++ x) (Str.ofString "." ++ r3 ++ Str.ofString "." ++ r4) != ([o0, o1, o2, o3, o4].getD ((1 : Int) + ((0 + 1 + 1 : Nat) : Int)).toNat 0 == (1 : Int) + ((0 + 1 + 1 : Nat) : Int))) = true) by rw [h2]; exact Bool.false_ne_true)]
end Mine
local macro_rules | `(tactic| walk_at $s:str) => `(tactic| k_extra $s)
theorem Mine.rows_S50 : True := by
  k_with_none
  k_with "UnrEnd" => (k_here; k_dflt (with_unfolding_all refine' UnrEnd.intro ?F ?N _ (fun p hp => hp) ?off ?_; (case F => k_asm); (case N => k_asm); (case off => k_all)))
  k_with "call ref" => (k_here; (with_reducible show wpAny _ _ (call (Value.ref 148) [Value.str _ _, Value.str _ _]) _ _ _); k_dflt (refine' Mine.dm_ok ?k1 ?k2 ?k3 ?k4 ?k5 ?kK ?q0 ?q1 ?kd ?ku ?_; (case k1 => k_asm); (case k2 => k_asm); (case k3 => k_asm); (case k4 => k_asm); (case k5 => k_asm); (case kK => first | exact rfl | assumption); (case q0 => first | assumption | omega | ((have e09 : (PySem.Str.ofString ".").length = 1 := (by decide)); (have e19 : (PySem.Str.ofString ".7").length = 2 := (by decide)); (have e29 : (PySem.Str.ofString ".7.").length = 3 := (by decide)); (have e39 : (PySem.Str.ofString "y").length = 1 := (by decide)); (have e49 : (PySem.Str.ofString "xyz").length = 3 := (by decide)); (have e59 : (PySem.Str.ofString "yz").length = 2 := (by decide)); (have e69 : (PySem.Str.ofString ".xlocal").length = 7 := (by decide)); (have e79 : (PySem.Str.ofString " ").length = 1 := (by decide)); (have e89 : (PySem.Str.ofString ". ").length = 2 := (by decide)); omega)); (case q1 => first | assumption | omega | ((have e09 : (PySem.Str.ofString ".").length = 1 := (by decide)); (have e19 : (PySem.Str.ofString ".7").length = 2 := (by decide)); (have e29 : (PySem.Str.ofString ".7.").length = 3 := (by decide)); (have e39 : (PySem.Str.ofString "y").length = 1 := (by decide)); (have e49 : (PySem.Str.ofString "xyz").length = 3 := (by decide)); (have e59 : (PySem.Str.ofString "yz").length = 2 := (by decide)); (have e69 : (PySem.Str.ofString ".xlocal").length = 7 := (by decide)); (have e79 : (PySem.Str.ofString " ").length = 1 := (by decide)); (have e89 : (PySem.Str.ofString ". ").length = 2 := (by decide)); omega)); (case kd => ktr_room); (case ku => ktr_units)); intro tk8 h9 tk9 F9 N9; (try dsimp only); (try k_fold))
  k_with "call ref" => (k_here; (with_reducible show wpAny _ _ (call (Value.ref 162) [Value.str _ _, Value.str _ _]) _ _ _); k_dflt (refine' Mine.udm_ok ?k1 ?k2 ?k3 ?k4 ?k5 ?kK ?q0 ?q1 ?kd ?ku ?_; (case k1 => k_asm); (case k2 => k_asm); (case k3 => k_asm); (case k4 => k_asm); (case k5 => k_asm); (case kK => first | exact rfl | assumption); (case q0 => first | assumption | omega | ((have e09 : (PySem.Str.ofString ".").length = 1 := (by decide)); (have e19 : (PySem.Str.ofString ".7").length = 2 := (by decide)); (have e29 : (PySem.Str.ofString ".7.").length = 3 := (by decide)); (have e39 : (PySem.Str.ofString "y").length = 1 := (by decide)); (have e49 : (PySem.Str.ofString "xyz").length = 3 := (by decide)); (have e59 : (PySem.Str.ofString "yz").length = 2 := (by decide)); (have e69 : (PySem.Str.ofString ".xlocal").length = 7 := (by decide)); (have e79 : (PySem.Str.ofString " ").length = 1 := (by decide)); (have e89 : (PySem.Str.ofString ". ").length = 2 := (by decide)); omega)); (case q1 => first | assumption | omega | ((have e09 : (PySem.Str.ofString ".").length = 1 := (by decide)); (have e19 : (PySem.Str.ofString ".7").length = 2 := (by decide)); (have e29 : (PySem.Str.ofString ".7.").length = 3 := (by decide)); (have e39 : (PySem.Str.ofString "y").length = 1 := (by decide)); (have e49 : (PySem.Str.ofString "xyz").length = 3 := (by decide)); (have e59 : (PySem.Str.ofString "yz").length = 2 := (by decide)); (have e69 : (PySem.Str.ofString ".xlocal").length = 7 := (by decide)); (have e79 : (PySem.Str.ofString " ").length = 1 := (by decide)); (have e89 : (PySem.Str.ofString ". ").length = 2 := (by decide)); omega)); (case kd => ktr_room); (case ku => ktr_units)); intro tk8 h9 tk9 F9 N9; (try dsimp only); (try k_fold))
  trivial
namespace Mine

set_option maxHeartbeats 4000000 in
theorem beside_ok {p : Program} {w : World} {lo : List Str} {mean : ExcName → Option Value} {mg mb : Str → Option Value} {dp un : Nat} {gd : Option (List Code)} {cn : Str} {cs : Scope} {a : Addr} {ccd : Value} {cl : List (Str × Addr)} {outer : List Env} {A₀ : Around} {base h₀ : Heap} {L : Addr} {m : Str → Option Value} {news : List (Addr × Obj)} {s : Shared} {Q E : Value → Shared → Prop} {x : Str} {tk : Tok} {ra oa : Addr} {rn on : Nat} {r0 r1 r2 r3 r4 : Str} {u0 u1 u2 u3 u4 : Tok} {o0 o1 o2 o3 o4 : Int} {v0 v1 v2 v3 v4 : Tok}
    (B : Below A₀ base outer h₀) (F : Fr h₀ L s.heap m) (X : (Mine.K w.params).In h₀) (N : News h₀ L s.heap ((ra, listOf [Value.str r0 u0, Value.str r1 u1, Value.str r2 u2, Value.str r3 u3, Value.str r4 u4].toArray rn) :: (oa, listOf [Value.int o0 v0, Value.int o1 v1, Value.int o2 v2, Value.int o3 v3, Value.int o4 v4].toArray on) :: news)) (T : Top p lo mean mg mb h₀) (hk : cs.kind = .function) (hx : x.length ≤ 1000) (hr1 : r1.length ≤ 10) (hr2 : r2.length ≤ 10) (hr3 : r3.length ≤ 10) (hr4 : r4.length ≤ 10) (hd : dp + 4 < recursionLimit) (hu : un + 32 < cLine)
    (hret : ∀ (t : Tok) (h' : Heap) (tk' : Nat), Fr h₀ L h' m → News h₀ L h' ((ra, listOf [Value.str r0 u0, Value.str r1 u1, Value.str r2 u2, Value.str r3 u3, Value.str r4 u4].toArray rn) :: (oa, listOf [Value.int o0 v0, Value.int o1 v1, Value.int o2 v2, Value.int o3 v3, Value.int o4 v4].toArray on) :: news) → Q (.bool (besideF x r1 r2 r3 r4 o0 o1 o2 o3 o4)) { s with heap := h', toks := tk' }) :
    wpAny (model PySem.Challenge.rw_xl0024_01.prog w) (ktrTop dp un gd cn cs L a ccd cl outer) (call (.ref 212) [.str x tk, .ref ra, .ref oa]) Q E s := by
  revert X; k_fill; intro X
  
  refine wpAny_call ?_
  k_dflt cell_enter
  k_steps
  all_goals (refine' cb_retB hret ?e1 ?e2 ?e3; (case e2 => k_asm); (case e3 => first | k_asm | (refine' cb_drop ?cbN ?cbS; (case cbN => assumption); (case cbS => first | ((repeat (first | with_reducible exact Mine.sub_refl | with_reducible refine Mine.sub_cons ?_)); done) | kcj_all))); (case e1 => first | (with_reducible refine beside_0 ?_ <;> with_reducible assumption) | (with_reducible refine beside_1 ?_ ?_ <;> with_reducible assumption) | (with_reducible refine beside_2 ?_ ?_ ?_ <;> with_reducible assumption) | (with_reducible refine beside_3 ?_ ?_ ?_ <;> with_reducible assumption)))
end Mine

theorem Mine.rows_S5_end : True := by
  k_with_none
  trivial
end
section
open PySem PySem.W PyProof.Rows PySem.Spec
namespace Mine
theorem le_app {a b : Str} {A B C : Nat} (ha : a.length ≤ A) (hb : b.length ≤ B) (h : A + B ≤ C) : (a ++ b).length ≤ C := by
  have e : (a ++ b).length = a.length + b.length := Str.length_append ..
  omega
theorem strs_sameAll : ∀ ns ms : List Str, PySem.Spec.sameAll (ns.map PyData.str) (ms.map PyData.str) = decide (ns = ms)
  | [], [] => by simp [PySem.Spec.sameAll]
  | [], _ :: _ => by simp [PySem.Spec.sameAll]
  | _ :: _, [] => by simp [PySem.Spec.sameAll]
  | a :: r, b :: t => by
    simp only [List.map_cons, PySem.Spec.sameAll, PySem.Spec.same, strs_sameAll r t]
    by_cases h : a = b <;> by_cases h' : r = t <;> simp [h, h']
theorem strs_same (ns ms : List Str) : PySem.Spec.same (.list (ns.map PyData.str)) (.list (ms.map PyData.str)) = decide (ns = ms) := by
  simp only [PySem.Spec.same]; exact strs_sameAll ns ms
theorem strs_carried : ∀ {vs : List Value} {ns : List Str}, StrsAre vs ns → CarriedAll vs (ns.map PyData.str)
  | _, _, .nil => .nil
  | _, _, .cons _ t r => .cons (.str _ t) (strs_carried r)
theorem strs_depth : ∀ ns : List Str, PyData.depthAll (ns.map PyData.str) = 0
  | [] => rfl
  | _ :: r => by simp [PyData.depthAll, PyData.depth, strs_depth r]
theorem strs_shaped (ns : List Str) (h : ns.all PyData.strOk = true) : SeqAt.shaped (.list (ns.map PyData.str)) = true := by
  have e := canLayAll_strs' ns
  rw [h] at e
  have e' : (ns.map PyData.str) = ns.map .str := rfl
  simp [SeqAt.shaped, PyData.canLay0, PyData.depth, strs_depth, e]
section
variable {prog : Program} {w : World} {A : Around} {E : Value → Shared → Prop} {s : Shared} {a b : Addr} {xs ys : List Value} {ns ms : List Str} {Q : Value → Shared → Prop}
theorem strs_eq (ha : s.heap.IsList a xs.toArray) (hb : s.heap.IsList b ys.toArray) (hi : StrsAre xs ns) (hj : StrsAre ys ms) (on : ns.all PyData.strOk = true) (om : ms.all PyData.strOk = true) (hu : A.units + 64 < cLine) (h : Q (.bool (decide (ns = ms))) s) :
    wpAny (model prog w) A (compareOp .Eq (.ref a) (.ref b)) Q E s :=
  eq_dataH_same (reads_newData ha (strs_carried hi)) (reads_newData hb (strs_carried hj)) (strs_shaped _ on) (strs_shaped _ om) hu (SeqAt.noMix_of_shape (.list .str) rfl _ _ (list_map_has fun _ => rfl) (list_map_has fun _ => rfl)) (by rw [strs_same]; exact h)
end
end Mine
-- TO
namespace Mine
theorem reach_to {p : Program} {w : World} {lo : List Str} {mean : ExcName → Option Value} {mg mb : Str → Option Value} {dp un : Nat} {gd : Option (List Code)} {cn : Str} {cs : Scope} {a : Addr} {ccd : Value} {cl : List (Str × Addr)} {outer : List Env} {A₀ : Around} {base h₀ : Heap} {L : Addr} {m : Str → Option Value} {news : List (Addr × Obj)} {s : Shared} {Q E : Value → Shared → Prop} {x : Str} {tk : Tok} {r : Str}
    (B : Below A₀ base outer h₀) (F : Fr h₀ L s.heap m) (X : (Mine.K w.params).In h₀) (N : News h₀ L s.heap news) (T : Top p lo mean mg mb h₀) (hk : cs.kind = .function) (hx : x.length ≤ 9000) (e : reachF x = r) (hd : dp + 2 < recursionLimit) (hu : un + 16 < cLine)
    (hret : ∀ (t : Tok) (h' : Heap) (tk' : Nat), Fr h₀ L h' m → News h₀ L h' news → Q (.str r t) { s with heap := h', toks := tk' }) :
    wpAny (model PySem.Challenge.rw_xl0024_01.prog w) (ktrTop dp un gd cn cs L a ccd cl outer) (call (.ref 169) [.str x tk]) Q E s := by
  subst e
  exact reach_ok B F X N T hk hx hd hu (fun t h' tk' _ f n => hret t h' tk' f n)
theorem dm_to {p : Program} {w : World} {lo : List Str} {mean : ExcName → Option Value} {mg mb : Str → Option Value} {dp un : Nat} {gd : Option (List Code)} {cn : Str} {cs : Scope} {a : Addr} {ccd : Value} {cl : List (Str × Addr)} {outer : List Env} {A₀ : Around} {base h₀ : Heap} {L : Addr} {m : Str → Option Value} {news : List (Addr × Obj)} {s : Shared} {Q E : Value → Shared → Prop} {x y : Str} {tk tk2 : Tok} {r : Bool}
    (B : Below A₀ base outer h₀) (F : Fr h₀ L s.heap m) (X : (Mine.K w.params).In h₀) (N : News h₀ L s.heap news) (T : Top p lo mean mg mb h₀) (hk : cs.kind = .function) (hx : x.length ≤ 3000) (hy : y.length ≤ 3000) (e : dmF x y = r) (hd : dp + 2 < recursionLimit) (hu : un + 16 < cLine)
    (hret : ∀ (t : Tok) (h' : Heap) (tk' : Nat), Fr h₀ L h' m → News h₀ L h' news → Q (.bool r) { s with heap := h', toks := tk' }) :
    wpAny (model PySem.Challenge.rw_xl0024_01.prog w) (ktrTop dp un gd cn cs L a ccd cl outer) (call (.ref 148) [.str x tk, .str y tk2]) Q E s := by
  subst e
  exact dm_ok B F X N T hk hx hy hd hu hret
theorem udm_to {p : Program} {w : World} {lo : List Str} {mean : ExcName → Option Value} {mg mb : Str → Option Value} {dp un : Nat} {gd : Option (List Code)} {cn : Str} {cs : Scope} {a : Addr} {ccd : Value} {cl : List (Str × Addr)} {outer : List Env} {A₀ : Around} {base h₀ : Heap} {L : Addr} {m : Str → Option Value} {news : List (Addr × Obj)} {s : Shared} {Q E : Value → Shared → Prop} {x y : Str} {tk tk2 : Tok} {r : Bool}
    (B : Below A₀ base outer h₀) (F : Fr h₀ L s.heap m) (X : (Mine.K w.params).In h₀) (N : News h₀ L s.heap news) (T : Top p lo mean mg mb h₀) (hk : cs.kind = .function) (hx : x.length ≤ 3000) (hy : y.length ≤ 3000) (e : udmF x y = r) (hd : dp + 2 < recursionLimit) (hu : un + 16 < cLine)
    (hret : ∀ (t : Tok) (h' : Heap) (tk' : Nat), Fr h₀ L h' m → News h₀ L h' news → Q (.bool r) { s with heap := h', toks := tk' }) :
    wpAny (model PySem.Challenge.rw_xl0024_01.prog w) (ktrTop dp un gd cn cs L a ccd cl outer) (call (.ref 162) [.str x tk, .str y tk2]) Q E s := by
  subst e
  exact udm_ok B F X N T hk hx hy hd hu hret
end Mine
end
section
open PySem PySem.W PyProof.Rows PySem.Spec
namespace Mine
inductive All2 (R : Str → Value → Prop) : List Str → List Value → Prop
  | nil : All2 R [] []
  | cons {x y xs ys} : R x y → All2 R xs ys → All2 R (x :: xs) (y :: ys)
theorem All2.snoc {R : Str → Value → Prop} : ∀ {xs : List Str} {ys : List Value} {x : Str} {y : Value}, All2 R xs ys → R x y → All2 R (xs ++ [x]) (ys ++ [y])
  | _, _, _, _, .nil, h => .cons h .nil
  | _, _, _, _, .cons h r, h' => .cons h (r.snoc h')
theorem StrsAre.at {vs : List Value} {xs : List Str} (h : StrsAre vs xs) : ∀ (i : Nat) (v : Value), vs[i]? = some v → ∃ x t, xs[i]? = some x ∧ v = .str x t := by
  induction h with
  | nil => intro i v e; simp at e
  | cons y t r ih =>
    intro i v e
    cases i with
    | zero => exact ⟨y, t, rfl, by simpa using e.symm⟩
    | succ i => exact ih i v (by simpa using e)
theorem strs_len {vs : List Value} {xs : List Str} (h : StrsAre vs xs) : vs.length = xs.length := by
  induction h with
  | nil => rfl
  | cons y t r ih => simp [ih]
theorem strs_app {vs ws : List Value} {xs ys : List Str} (h : StrsAre vs xs) (k : StrsAre ws ys) : StrsAre (vs ++ ws) (xs ++ ys) := by
  induction h with
  | nil => exact k
  | cons y t r ih => exact .cons y t ih
theorem All2.strs {g : Str → Str} : ∀ {xs : List Str} {ys : List Value}, All2 (fun x y => ∃ t, y = .str (g x) t) xs ys → StrsAre ys (xs.map g)
  | _, _, .nil => .nil
  | _, _, .cons ⟨t, e⟩ r => by rw [e]; exact .cons _ t r.strs
theorem All2.ints {g : Str → Int} : ∀ {xs : List Str} {ys : List Value}, All2 (fun x y => ∃ t, y = .int (g x) t) xs ys → IntsAre ys (xs.map g)
  | _, _, .nil => .nil
  | _, _, .cons ⟨t, e⟩ r => by rw [e]; exact .cons _ t r.ints
theorem All2.len {R : Str → Value → Prop} : ∀ {xs : List Str} {ys : List Value}, All2 R xs ys → ys.length = xs.length
  | _, _, .nil => rfl
  | _, _, .cons _ r => congrArg (· + 1) r.len
section
variable {prog : Program} {w : World} {A : Around} {h₀ : Heap} {L : Addr} {m : Str → Option Value} {env : Env} {elt : PySem.Expr} {x : Str} {scope : Scope} {cl : List (Str × Addr)} {s : Shared} {S : List (Addr × Obj) → Prop} {P : Nat → Value → Prop} {Fin : List Value → List (Addr × Obj) → Prop} {news : List (Addr × Obj)}
theorem comp_rel {n : Nat} {vs : List Value} {xs : List Str} (R : Str → Value → Prop) (hv : StrsAre vs xs) (hn : n = vs.length) (hP : ∀ i v, P i v → vs[i]? = some v)
    (turn : ∀ x₀ t I oI C oC D m₂ ys h tk (E' : Value → Shared → Prop), x₀ ∈ xs → LCg.NsObj oC m₂ → m₂ x = some (.str x₀ t) → Fr h₀ L h m → News h₀ L h ((I, oI) :: (C, oC) :: (D, LCg.lst ys) :: news) → LCg.Off3 I C D news → ((@Ne Nat I C) ∧ (@Ne Nat I D) ∧ (@Ne Nat C D)) →
      wpAny (model prog w) A (eval elt (compEnvC scope cl C env)) (LCg.CompEnd h₀ L m { s with heap := h, toks := tk } I oI C oC D (LCg.lst ys) S (fun y news' => news' = news ∧ R x₀ y)) E' { s with heap := h, toks := tk })
    (fin : ∀ ys, All2 R xs ys → ys.length = xs.length → Fin ys news) : LCg.CompRest prog w A h₀ L m env elt x scope cl s S P Fin n 0 [] news := by
  have hl : n = xs.length := hn.trans (strs_len hv)
  have key : ∀ (j i : Nat) (ys : List Value), i + j = n → All2 R (xs.take i) ys → LCg.CompRest prog w A h₀ L m env elt x scope cl s S P Fin j i ys news := by
    intro j
    induction j with
    | zero =>
      intro i ys hi hy
      have e : i = xs.length := by omega
      subst e
      rw [List.take_length] at hy
      exact LCg.CompRest.zero (fin ys hy hy.len)
    | succ j ih =>
      intro i ys hi hy
      refine LCg.CompRest.succ ?_
      intro v I oI C oC D m₂ h tk E' hv' hC hx F N off ne
      obtain ⟨k, t, hk, hv''⟩ := StrsAre.at hv i v (hP i v hv')
      rw [hv''] at hx
      refine wpAny_mono (turn k t I oI C oC D m₂ ys h tk E' (List.mem_of_getElem? hk) hC hx F N off ne) (fun y s₂ hq => ?_) fun _ _ e => e
      obtain ⟨h', tk', nw, e, F', N', off', hS, hnw, hy'⟩ := hq
      subst hnw
      refine ⟨h', tk', nw, e, F', N', off', hS, ?_⟩
      refine ih (i + 1) _ (by omega) ?_
      rw [List.take_add_one, hk]
      exact hy.snoc hy'
  exact key n 0 [] (by omega) (by simp only [List.take_zero]; exact .nil)
noncomputable def GMarkS (_g : Str → Str) : Prop := True
noncomputable def GMarkI (_g : Str → Int) : Prop := True
theorem comp_strs {n : Nat} {vs : List Value} {xs : List Str} {g : Str → Str} (_mk : GMarkS g) (hv : StrsAre vs xs) (hx : xs.length ≤ 100) {b : Nat} (hb : ∀ x ∈ xs, x.length ≤ b) (hn : n = vs.length) (hP : ∀ i v, P i v → vs[i]? = some v)
    (turn : ∀ x₀ t I oI C oC D m₂ ys h tk (E' : Value → Shared → Prop), x₀ ∈ xs → x₀.length ≤ b → LCg.NsObj oC m₂ → m₂ x = some (.str x₀ t) → Fr h₀ L h m → News h₀ L h ((I, oI) :: (C, oC) :: (D, LCg.lst ys) :: news) → LCg.Off3 I C D news → ((@Ne Nat I C) ∧ (@Ne Nat I D) ∧ (@Ne Nat C D)) →
      wpAny (model prog w) A (eval elt (compEnvC scope cl C env)) (LCg.CompEnd h₀ L m { s with heap := h, toks := tk } I oI C oC D (LCg.lst ys) S (fun y news' => news' = news ∧ ∃ t, y = .str (g x₀) t)) E' { s with heap := h, toks := tk })
    (fin : ∀ ys, StrsAre ys (xs.map g) → (xs.map g).length ≤ 100 → Fin ys news) : LCg.CompRest prog w A h₀ L m env elt x scope cl s S P Fin n 0 [] news :=
  comp_rel (fun x y => ∃ t, y = .str (g x) t) hv hn hP (fun x₀ t I oI C oC D m₂ ys h tk E' hm => turn x₀ t I oI C oC D m₂ ys h tk E' hm (hb x₀ hm)) fun ys h _ => fin ys h.strs (by rw [List.length_map]; exact hx)
theorem comp_ints {n : Nat} {vs : List Value} {xs : List Str} {g : Str → Int} (_mk : GMarkI g) (hv : StrsAre vs xs) (hx : xs.length ≤ 100) {b : Nat} (hb : ∀ x ∈ xs, x.length ≤ b) (hn : n = vs.length) (hP : ∀ i v, P i v → vs[i]? = some v)
    (turn : ∀ x₀ t I oI C oC D m₂ ys h tk (E' : Value → Shared → Prop), x₀ ∈ xs → x₀.length ≤ b → LCg.NsObj oC m₂ → m₂ x = some (.str x₀ t) → Fr h₀ L h m → News h₀ L h ((I, oI) :: (C, oC) :: (D, LCg.lst ys) :: news) → LCg.Off3 I C D news → ((@Ne Nat I C) ∧ (@Ne Nat I D) ∧ (@Ne Nat C D)) →
      wpAny (model prog w) A (eval elt (compEnvC scope cl C env)) (LCg.CompEnd h₀ L m { s with heap := h, toks := tk } I oI C oC D (LCg.lst ys) S (fun y news' => news' = news ∧ ∃ t, y = .int (g x₀) t)) E' { s with heap := h, toks := tk })
    (fin : ∀ ys, IntsAre ys (xs.map g) → (xs.map g).length ≤ 100 → Fin ys news) : LCg.CompRest prog w A h₀ L m env elt x scope cl s S P Fin n 0 [] news :=
  comp_rel (fun x y => ∃ t, y = .int (g x) t) hv hn hP (fun x₀ t I oI C oC D m₂ ys h tk E' hm => turn x₀ t I oI C oC D m₂ ys h tk E' hm (hb x₀ hm)) fun ys h _ => fin ys h.ints (by rw [List.length_map]; exact hx)
end
section
variable {prog : Program} {w : World} {A : Around} {E : Value → Shared → Prop} {s : Shared} {a b : Addr} {xs ys : List Value} {ns ms : List Str} {Q : Value → Shared → Prop}
theorem strs_eqT {as bs : Array Value} (ha : s.heap.IsList a as) (hb : s.heap.IsList b bs) (hi : StrsAre as.toList ns) (hj : StrsAre bs.toList ms) (e : ns = ms) (on : ns.all PyData.strOk = true) (hu : A.units + 64 < cLine) (h : Q (.bool true) s) :
    wpAny (model prog w) A (compareOp .Eq (.ref a) (.ref b)) Q E s :=
  strs_eq (xs := as.toList) (ys := bs.toList) ha hb hi hj on (e ▸ on) hu (by rw [decide_eq_true e]; exact h)
end
theorem strs_sz {arr : Array Value} {zs : List Str} (h : StrsAre arr.toList zs) (hl : zs.length ≤ 100) : arr.size ≤ sizeLine := by
  have e := strs_len h
  rw [Array.length_toList] at e
  rw [PySem.sizeLine_eq]; omega
theorem strs_sz' {ys : List Value} {zs : List Str} (h : StrsAre ys zs) (hl : zs.length ≤ 100) : ys.toArray.size ≤ sizeLine := by
  have e := strs_len h
  rw [PySem.sizeLine_eq, List.size_toArray]; omega
theorem ints_sz' {ys : List Value} {zs : List Int} (h : IntsAre ys zs) (hl : zs.length ≤ 100) : ys.toArray.size ≤ sizeLine := by
  have e := IntsAre.length h
  rw [PySem.sizeLine_eq, List.size_toArray]; omega
end Mine
end
section
open PySem PySem.W PyProof.Rows
set_option maxRecDepth 100000
local macro_rules | `(tactic| walk_at $s:str) => `(tactic| k_extra $s)
theorem Mine.rows_S80 : True := by
  k_with_none
  k_with "CompEnd" => (with_unfolding_all refine' LCg.CompEnd.intro ?F ?N _ (fun p hp => hp) ?off ?src ?_; (case F => k_asm); (case N => k_asm); (case off => first | assumption | (simp only [LCg.Off3, and_true]; assumption)); (case src => lcg_src))
  k_with "call ref" => (k_here; (with_reducible show wpAny _ _ (call (Value.ref 45) [Value.str _ _]) _ _ _); k_dflt (refine' Mine.strip_ok ?k1 ?k2 ?k3 ?k4 ?k5 ?kK ?q0 ?kd ?ku ?_; (case k1 => k_asm); (case k2 => k_asm); (case k3 => k_asm); (case k4 => k_asm); (case k5 => k_asm); (case kK => first | exact rfl | assumption); (case q0 => first | with_reducible assumption | (refine' Mine.le_app ?a3 ?b3 ?c3; (case a3 => first | with_reducible assumption | (refine' Mine.le_app ?a2 ?b2 ?c2; (case a2 => first | with_reducible assumption | (refine' Mine.le_app ?a1 ?b1 ?c1; (case a1 => first | with_reducible assumption | (refine' Mine.le_app ?a0 ?b0 ?c0; (case a0 => first | with_reducible assumption | exact Nat.le_refl _); (case b0 => first | with_reducible assumption | exact Nat.le_refl _); (case c0 => exact Nat.le_refl _)) | exact Nat.le_refl _); (case b1 => first | with_reducible assumption | exact Nat.le_refl _); (case c1 => exact Nat.le_refl _)) | exact Nat.le_refl _); (case b2 => first | with_reducible assumption | exact Nat.le_refl _); (case c2 => exact Nat.le_refl _)) | exact Nat.le_refl _); (case b3 => first | with_reducible assumption | exact Nat.le_refl _); (case c3 => decide))); (case kd => ktr_room); (case ku => ktr_units)); intro tk8 h9 tk9 F9 N9; (try dsimp only); (try k_fold))
  k_with "compareOp Eq ref ref" => (k_here; (with_reducible show wpAny _ _ (compareOp CmpOp.Eq (Value.ref _) (Value.ref _)) _ _ _); k_dflt (refine' Mine.strs_eqT ?a ?b ?i ?j ?e ?on ?u ?_; (case a => is_list); (case b => is_list); (case i => ((try simp only [List.toList_toArray]); (repeat (first | with_reducible assumption | exact StrsAre.nil | refine StrsAre.cons _ _ ?_ | refine Mine.strs_app ?_ ?_)))); (case j => ((try simp only [List.toList_toArray]); (repeat (first | with_reducible assumption | exact StrsAre.nil | refine StrsAre.cons _ _ ?_ | refine Mine.strs_app ?_ ?_)))); (case e => with_reducible assumption); (case on => with_reducible assumption); (case u => ke_room)))
  k_with "CompSrc" => (k_here; (with_reducible rename Mine.GMarkS _ => hmk); k_dflt (refine LCg.CompSrc.ledger (by rfl) (by k_asm) (by k_asm) (by k_mem) (by first | size_fits | exact Nat.le_of_ble_eq_true rfl | exact Mine.strs_sz (by with_reducible assumption) (by with_reducible assumption) | exact Mine.strs_sz' (by with_reducible assumption) (by with_reducible assumption) | exact Mine.ints_sz' (by with_reducible assumption) (by with_reducible assumption)) ?_); intro g'; k_dflt (refine' Mine.comp_strs hmk ?hv ?hx ?hb ?hn ?hP (fun x₀ t₀ I₀ oI₀ C₀ oC₀ D₀ m₀' ys₀ h₀' tk₀ E₀ hx₀ hl₀ hC₀ hm₀ F₀ N₀ off₀ ne₀ => ?_) (fun ys₀ hy₀ hl₀ => ?_); (case hP => (intro i9 v9 e9; first | exact (List.getElem?_toArray).symm.trans e9 | exact Array.getElem?_toList.trans e9)); (case hv => (repeat (first | with_reducible assumption | exact StrsAre.nil | refine StrsAre.cons _ _ ?_ | refine Mine.strs_app ?_ ?_))); (case hx => first | with_reducible assumption | exact Nat.le_of_ble_eq_true rfl); (case hb => with_reducible assumption); (case hn => first | rfl | exact List.size_toArray _ | simp)); (all_goals clear hmk); (all_goals (try (simp only [LCg.Off3, and_true] at off₀))))
  k_with "And" => (k_here; (with_reducible show _ ∧ ∃ _, _); refine ⟨rfl, _, rfl⟩)
  trivial
namespace Mine

set_option maxHeartbeats 4000000 in
theorem bare_ok {p : Program} {w : World} {lo : List Str} {mean : ExcName → Option Value} {mg mb : Str → Option Value} {dp un : Nat} {gd : Option (List Code)} {cn : Str} {cs : Scope} {a : Addr} {ccd : Value} {cl : List (Str × Addr)} {outer : List Env} {A₀ : Around} {base h₀ : Heap} {L : Addr} {m : Str → Option Value} {news : List (Addr × Obj)} {s : Shared} {Q E : Value → Shared → Prop} {x : Str} {tk : Tok} {ra : Addr} {rn : Nat} {arr : Array Value} {xs : List Str}
    (B : Below A₀ base outer h₀) (F : Fr h₀ L s.heap m) (X : (Mine.K w.params).In h₀) (N : News h₀ L s.heap ((ra, listOf arr rn) :: news)) (T : Top p lo mean mg mb h₀) (hk : cs.kind = .function) (hx : x.length ≤ 100) (hsa : StrsAre arr.toList xs) (hxl : xs.length ≤ 100) (hr : ∀ r ∈ xs, r.length ≤ 10) (e1 : xs.map (fun y => stripF (y ++ x)) = xs) (o1 : (xs.map (fun y => stripF (y ++ x))).all PyData.strOk = true) (e2 : xs.map (fun y => stripF (Str.ofString ". " ++ y ++ Str.ofString " " ++ x)) = xs.map (fun y => Str.ofString " " ++ y ++ Str.ofString " ")) (o2 : (xs.map (fun y => stripF (Str.ofString ". " ++ y ++ Str.ofString " " ++ x))).all PyData.strOk = true) (hd : dp + 4 < recursionLimit) (hu : un + 200 < cLine)
    (hret : ∀ (t : Tok) (h' : Heap) (tk' : Nat), Fr h₀ L h' m → News h₀ L h' ((ra, listOf arr rn) :: news) → Q (.bool true) { s with heap := h', toks := tk' }) :
    wpAny (model PySem.Challenge.rw_xl0024_01.prog w) (ktrTop dp un gd cn cs L a ccd cl outer) (call (.ref 222) [.ref ra, .str x tk]) Q E s := by
  revert X; k_fill; intro X
  have G3 : GMarkS (fun y => Str.ofString " " ++ y ++ Str.ofString " ") := trivial
  have G2 : GMarkS (fun y => stripF (Str.ofString ". " ++ y ++ Str.ofString " " ++ x)) := trivial
  have G1 : GMarkS (fun y => stripF (y ++ x)) := trivial
  refine wpAny_call ?_
  k_dflt ((refine' code_defC ?k1 ?k2 ?k3 ?k4 ?k5 ?kA ?kF ?kK ?k6 ?k7 ?k8 ?k9 ?kB ?kD ?_ ?c2 ?c3 ?c4; (case kA => exact rfl); (case kF => exact rfl); (case kK => assumption); (case k1 => k_asm); (case k2 => k_asm); (case k3 => k_asm); (case k4 => k_asm); (case k5 => k_asm); (case k6 => k_is); (case k7 => k_is); (case k8 => ktr_room); (case k9 => exact BindsTo.of_eq rfl); (case kB => exact rfl); (case kD => decide +kernel); (case c2 => exact rfl); (case c3 => exact rfl); (case c4 => exact rfl); k_whole; intro g' L' h' tk' cells' FG' F' N' Y' B' X' T' l1; (try k_lt l1); k_cells Y'; (try simp only [List.cons_append, List.nil_append] at N'); (try dsimp only); (try k_lift B'); (try k_fold)); (try (rename (_ = Data.cell _) => hc; replace hc : _ = Data.cell (some (.str x tk)) := hc)))
  k_steps
  all_goals (refine' cb_retB hret ?e1 ?e2 ?e3; (case e2 => k_asm); (case e3 => first | k_asm | (refine' cb_drop ?cbN ?cbS; (case cbN => assumption); (case cbS => first | ((repeat (first | with_reducible exact Mine.sub_refl | with_reducible refine Mine.sub_cons ?_)); done) | kcj_all))); (case e1 => rfl))
end Mine

theorem Mine.rows_S8_end : True := by
  k_with_none
  trivial
end
section
open PySem PySem.W PyProof.Rows PySem.Spec
namespace Mine
section
variable {prog : Program} {w : World} {A : Around} {h₀ : Heap} {L : Addr} {m : Str → Option Value} {env : Env} {ct elt : PySem.Expr} {x : Str} {scope : Scope} {cl : List (Str × Addr)} {s : Shared} {S : List (Addr × Obj) → Prop} {P : Nat → Value → Prop} {Fin : List Value → List (Addr × Obj) → Prop} {news : List (Addr × Obj)}
/-- a test that holds of none of equal items -/
theorem compT_none {n : Nat} (c : Value) (hP : ∀ i v, P i v → v = c)
    (turn : ∀ I oI C oC D m₂ h tk (E' : Value → Shared → Prop), LCg.NsObj oC m₂ → m₂ x = some c → Fr h₀ L h m → News h₀ L h ((I, oI) :: (C, oC) :: (D, LCg.lst []) :: news) → LCg.Off3 I C D news → ((@Ne Nat I C) ∧ (@Ne Nat I D) ∧ (@Ne Nat C D)) →
      wpAny (model prog w) A (isTrue ct (compEnvC scope cl C env) (eval ct (compEnvC scope cl C env))) (fun ok s' => if ok = true then False
        else LCg.CompEnd h₀ L m { s with heap := h, toks := tk } I oI C oC D (LCg.lst []) S (fun _ news' => news' = news) Value.none s') E' { s with heap := h, toks := tk })
    (fin : Fin [] news) : LCt.CompRestT prog w A h₀ L m env ct elt x scope cl s S P Fin n 0 [] news := by
  have key : ∀ (j i : Nat), LCt.CompRestT prog w A h₀ L m env ct elt x scope cl s S P Fin j i [] news := by
    intro j
    induction j with
    | zero => intro i; exact LCt.CompRestT.zero fin
    | succ j ih =>
      intro i
      refine LCt.CompRestT.succ ?_
      intro v I oI C oC D m₂ h tk E' hv' hC hx F N off ne
      rw [hP i v hv'] at hx
      refine wpAny_mono (turn I oI C oC D m₂ h tk E' hC hx F N off ne) (fun ok s₂ hq => ?_) fun _ _ e => e
      cases ok with
      | true => exact absurd hq (by simp)
      | false =>
        simp only [Bool.false_eq_true, if_false] at hq ⊢
        obtain ⟨h', tk', nw, e, F', N', off', hS, hnw⟩ := hq
        subst hnw
        exact ⟨h', tk', nw, e, F', N', off', hS, ih (i + 1)⟩
  exact key n 0
inductive Vals {α : Type} (val : α → Tok → Value) : List α → List Value → Prop
  | nil : Vals val [] []
  | cons (a : α) (t : Tok) {as vs} : Vals val as vs → Vals val (a :: as) (val a t :: vs)
theorem Vals.snoc {α : Type} {val : α → Tok → Value} : ∀ {as : List α} {vs : List Value} (a : α) (t : Tok), Vals val as vs → Vals val (as ++ [a]) (vs ++ [val a t])
  | _, _, _, t, .nil => .cons _ t .nil
  | _, _, a, t, .cons b u r => .cons b u (r.snoc a t)
/-- the items that a test keeps -/
theorem compT_keep {α : Type} {n : Nat} (val : α → Tok → Value) (keep : α → Bool) (as : List α) (hn : n = as.length) (hP : ∀ i v, P i v → ∃ a t, as[i]? = some a ∧ v = val a t)
    (turn : ∀ a t I oI C oC D m₂ ys h tk (E' : Value → Shared → Prop), a ∈ as → LCg.NsObj oC m₂ → m₂ x = some (val a t) → Fr h₀ L h m → News h₀ L h ((I, oI) :: (C, oC) :: (D, LCg.lst ys) :: news) → LCg.Off3 I C D news → ((@Ne Nat I C) ∧ (@Ne Nat I D) ∧ (@Ne Nat C D)) →
      wpAny (model prog w) A (isTrue ct (compEnvC scope cl C env) (eval ct (compEnvC scope cl C env))) (fun ok s' => if ok = true then
        wpAny (model prog w) A (eval elt (compEnvC scope cl C env)) (LCg.CompEnd h₀ L m { s with heap := h, toks := tk } I oI C oC D (LCg.lst ys) S (fun y news' => keep a = true ∧ news' = news ∧ ∃ t, y = val a t)) E' s'
        else LCg.CompEnd h₀ L m { s with heap := h, toks := tk } I oI C oC D (LCg.lst ys) S (fun _ news' => keep a = false ∧ news' = news) Value.none s') E' { s with heap := h, toks := tk })
    (fin : ∀ ys, Vals val (as.filter keep) ys → Fin ys news) : LCt.CompRestT prog w A h₀ L m env ct elt x scope cl s S P Fin n 0 [] news := by
  have key : ∀ (j i : Nat) (ys : List Value), i + j = n → Vals val ((as.take i).filter keep) ys → LCt.CompRestT prog w A h₀ L m env ct elt x scope cl s S P Fin j i ys news := by
    intro j
    induction j with
    | zero =>
      intro i ys hi hy
      have e : i = as.length := by omega
      subst e
      rw [List.take_length] at hy
      exact LCt.CompRestT.zero (fin ys hy)
    | succ j ih =>
      intro i ys hi hy
      refine LCt.CompRestT.succ ?_
      intro v I oI C oC D m₂ h tk E' hv' hC hx F N off ne
      obtain ⟨k, t, hk, hv''⟩ := hP i v hv'
      rw [hv''] at hx
      refine wpAny_mono (turn k t I oI C oC D m₂ ys h tk E' (List.mem_of_getElem? hk) hC hx F N off ne) (fun ok s₂ hq => ?_) fun _ _ e => e
      cases ok with
      | true =>
        simp only [if_true] at hq ⊢
        refine wpAny_mono hq (fun y s₃ hq => ?_) fun _ _ e => e
        obtain ⟨h', tk', nw, e, F', N', off', hS, hkp, hnw, t', hy'⟩ := hq
        subst hnw
        refine ⟨h', tk', nw, e, F', N', off', hS, ih (i + 1) _ (by omega) ?_⟩
        rw [List.take_add_one, hk, List.filter_append, hy']
        show Vals val (_ ++ List.filter keep [k]) _
        rw [show List.filter keep [k] = [k] from by simp [hkp]]
        exact hy.snoc k t'
      | false =>
        simp only [Bool.false_eq_true, if_false] at hq ⊢
        obtain ⟨h', tk', nw, e, F', N', off', hS, hkp, hnw⟩ := hq
        subst hnw
        refine ⟨h', tk', nw, e, F', N', off', hS, ih (i + 1) _ (by omega) ?_⟩
        rw [List.take_add_one, hk, List.filter_append]
        show Vals val (_ ++ List.filter keep [k]) _
        rw [show List.filter keep [k] = [] from by simp [hkp], List.append_nil]
        exact hy
  exact key n 0 [] (by omega) (by simp only [List.take_zero]; exact .nil)
end
noncomputable def GMarkN (_c : Value) : Prop := True
end Mine
end
section
open PySem PySem.W PyProof.Rows PySem.Spec
namespace Mine
theorem inplace_list {M : Model} {A : Around} {E : Value → Shared → Prop} {s : Shared} {a b : Value} {Q : Value → Shared → Prop} (ha : s.TypeIs a "list") (hb : s.TypeIs b "list")
    (hc : wpAny M A (call (.builtin "list.__iadd__") [a, b]) Q E s) : wpAny M A (inplaceOp .Add a b) Q E s := by
  have hlk : typeLookup (.type "list") (dunderI "add") = pure (some (.builtin "list.__iadd__")) := PySem.F.slot_list_iadd.lookup
  have hsq : isSeqSlot (some (.builtin "list.__iadd__")) = true := by decide +kernel
  unfold inplaceOp
  refine wpAny_holding ?_
  have hfi : fillsInplaceSlot (.type "list") "add" (Operator.Add == .Add) = pure false := by
    unfold fillsInplaceSlot
    show (typeLookup (.type "list") (dunderI "add") >>= fun fi => pure (fi.isSome && !isSeqSlot fi)) = pure false
    rw [hlk]
    simp only [pure_bind, hsq]; rfl
  have hsi : seqSlot? (.type "list") (dunderI "add") = pure (some (.builtin "list.__iadd__")) := PyProof.Rows.seqSlot_of hlk hsq
  refine wpAny_bind (wpAny_typeOf ha (wpAny_bind (wpAny_of_eq hfi ?_)))
  show wpAny M A (if false = true then _ else _) Q E s
  rw [if_neg Bool.false_ne_true]
  refine wpAny_bind (wpAny_binaryOp1_none (nm := "add") ha hb noFill_list_add ?_)
  refine wpAny_bind (wpAny_of_eq hsi ?_)
  exact wpAny_bind (wpAny_rule hc)
section
variable {prog : Program} {w : World} {A : Around} {E : Value → Shared → Prop} {s : Shared} {h₀ : Heap} {L D b : Addr} {m : Str → Option Value} {news news' : List (Addr × Obj)} {its its2 : Array Value} {n n2 : Nat} {l : List Value}
theorem list_iadd {Q : Value → Shared → Prop} (F : Fr h₀ L s.heap m) (N : News h₀ L s.heap news) (hb : (b, listOf its2 n2) ∈ news) (e : its.toList ++ its2.toList = l) (hne : its2.toList.length ≠ 0)
    (U : Upd D (listOf its n) (listOf l.toArray (n + 1)) news news') (hd : ¬(!its.isEmpty && Builtin.List.listTooLong (its.size + its2.size)) = true) (hz : its.toList.length ≤ sizeLine) (hz2 : its.size + its2.size ≤ sizeLine + 1)
    (h : ∀ h', Fr h₀ L h' m → News h₀ L h' news' → Q (.ref D) { s with heap := h' }) : wpAny (model prog w) A (inplaceOp .Add (.ref D) (.ref b)) Q E s := by
  obtain ⟨pre, post, rfl, rfl, a, c⟩ := U.split
  have z := N (D, listOf its n) (List.mem_append.mpr (.inr (.head _)))
  refine inplace_list ⟨_, z.1, rfl⟩ ⟨_, (N _ hb).1, rfl⟩ (call_meets PySem.F.slot_list_iadd ⟨_, z.1, rfl⟩ PySem.F.entry_list_iadd (PySem.F.args_list_iadd_2 _ _) (PySem.AutoSeq1.list___iadd___list_list_0 D its n b its2 n2 hd (by simpa using hz) hz2) ⟨z.1, (N _ hb).1, h _ (F.change (Heap.SameBut.update ..) z.2.1 z.2.2) (kl_turn _ N a c ?_ ?_)⟩)
  · subst e
    apply Array.toList_inj.mp
    simp
  · subst e
    simp at hne ⊢
    exact hne
end
theorem add_q {prog : Program} {w : World} {A : Around} {E : Value → Shared → Prop} {s : Shared} {x y : Str} {t u : Tok} {A' B' : Nat} {Q : Value → Shared → Prop} (hx : x.length ≤ A') (hy : y.length ≤ B') (hs : A' + B' ≤ 100000) (h : ∀ t' k, Q (.str (x ++ y) t') { s with toks := k }) : wpAny (model prog w) A (binaryOp .Add (.str x t) (.str y u)) Q E s :=
  SB.add h (by have := sizeLine_eq; omega)
theorem up_to {prog : Program} {w : World} {A : Around} {E : Value → Shared → Prop} {s : Shared} {x y : Str} {t : Tok} {Q : Value → Shared → Prop} (e : Txt.upper x = y) (hf : y.length ≤ 300) (h : ∀ t' k, Q (.str y t') { s with toks := k }) : wpAny (model prog w) A (call (.builtin "str.upper") [.str x t]) Q E s :=
  KXw.upper e (by rw [e]; exact decide_eq_false (fun h => by have := sizeLine_eq; omega)) h
theorem lo_to {prog : Program} {w : World} {A : Around} {E : Value → Shared → Prop} {s : Shared} {x y : Str} {t : Tok} {Q : Value → Shared → Prop} (e : Txt.lower x = y) (hf : y.length ≤ 300) (h : ∀ t' k, Q (.str y t') { s with toks := k }) : wpAny (model prog w) A (call (.builtin "str.lower") [.str x t]) Q E s :=
  KXw.lower e (by rw [e]; exact decide_eq_false (fun h => by have := sizeLine_eq; omega)) h
theorem ne_nil {prog : Program} {w : World} {A : Around} {E : Value → Shared → Prop} {s : Shared} {a b : Addr} {Q : Value → Shared → Prop} (ha : s.heap.IsList a #[]) (hb : s.heap.IsList b #[]) (hu : A.units + 64 < cLine) (h : Q (.bool false) s) :
    wpAny (model prog w) A (compareOp .NotEq (.ref a) (.ref b)) Q E s :=
  ke_ne_ints (xs := []) (ys := []) ha hb .nil .nil hu (by simpa using h)
theorem eq_nil {prog : Program} {w : World} {A : Around} {E : Value → Shared → Prop} {s : Shared} {a b : Addr} {Q : Value → Shared → Prop} (ha : s.heap.IsList a #[]) (hb : s.heap.IsList b #[]) (hu : A.units + 64 < cLine) (h : Q (.bool true) s) :
    wpAny (model prog w) A (compareOp .Eq (.ref a) (.ref b)) Q E s :=
  ke_eq_ints (xs := []) (ys := []) ha hb .nil .nil hu (by simpa using h)
end Mine
end
section
open PySem PySem.W PyProof.Rows PySem.Spec
namespace Mine
theorem isStr_at (k : Str) : ∀ {vs : List Value} {ns : List Str}, StrsAre vs ns → ∀ (j : Nat) (h1 : j < vs.length) (h2 : j < ns.length), isStrOf k vs[j] = (ns[j] == k)
  | _, _, .cons n t _, 0, _, _ => rfl
  | _, _, .cons n t r, j + 1, h1, h2 => isStr_at k r j (Nat.lt_of_succ_lt_succ h1) (Nat.lt_of_succ_lt_succ h2)
theorem str_ne_idx {k : Str} : ∀ {ns : List Str} {j : Nat}, j < ns.idxOf k → ∀ (h2 : j < ns.length), (ns[j] == k) = false
  | n :: r, 0, h, _ => by
    rw [List.idxOf_cons] at h
    cases e : (n == k) with
    | true => rw [e] at h; exact absurd h (Nat.lt_irrefl 0)
    | false => exact e
  | n :: r, j + 1, h, h2 => by
    rw [List.idxOf_cons] at h
    cases e : (n == k) with
    | true => rw [e] at h; exact absurd h (Nat.not_lt_zero _)
    | false =>
      rw [e] at h
      exact str_ne_idx (Nat.lt_of_succ_lt_succ h) (Nat.lt_of_succ_lt_succ h2)
section
variable {prog : Program} {w : World} {A : Around} {E : Value → Shared → Prop} {s : Shared}
theorem index_strs {l : Addr} {vs : List Value} {ns : List Str} {k : Str} {t : Tok} {Q : Value → Shared → Prop} (hl : s.heap.IsList l vs.toArray) (hi : StrsAre vs ns)
    (hb : ns.length ≤ 100) (hk : (ns.any fun x => x == k) = true) (h : Q (.int (ns.idxOf k : Nat) s.toks) { s with toks := s.toks + 1 }) :
    wpAny (model prog w) A (call (.builtin "list.index") [.ref l, .str k t]) Q E s := by
  obtain ⟨⟨cls, dd, data, sl⟩, ho, hc, n, hd⟩ := id hl
  simp only at hc hd
  subst hc hd
  have hk' : k ∈ ns := by
    obtain ⟨x, hx, e⟩ := List.any_eq_true.mp hk
    rwa [← eq_of_beq e]
  have hlen := strs_len hi
  have hj : ns.idxOf k < ns.length := List.idxOf_lt_length_iff.mpr hk'
  refine call_meets PySem.F.slot_list_index ⟨_, ho, rfl⟩ PySem.F.entry_list_index (PySem.F.args_list_index_2 _ _)
    (PySem.SeqAt.list_indexAt l vs.toArray n dd sl (.str k t) (isStrOf k) (ns.idxOf k) (by simpa [hlen] using hj) (by omega) ?_ ?_) ⟨ho, fun y hy => (eq_isStrOf k t hi y (by simpa using hy)).at _ _, h⟩
  · show isStrOf k vs[ns.idxOf k] = true
    rw [isStr_at k hi _ (by omega) hj]
    simpa using List.getElem_idxOf hj
  · intro j hjs hlt
    show isStrOf k vs[j] = false
    rw [isStr_at k hi j (by simpa using hjs) (by omega)]
    exact str_ne_idx hlt _
end
theorem add_tok {prog : Program} {w : World} {A : Around} {E : Value → Shared → Prop} {s : Shared} {x y : Str} {t u : Tok} {A' B' : Nat} {Q : Value → Shared → Prop} (nx : x.length ≠ 0) (ny : y.length ≠ 0) (hx : x.length ≤ A') (hy : y.length ≤ B') (hs : A' + B' ≤ 100000) (h : Q (.str (x ++ y) s.toks) { s with toks := s.toks + 1 }) : wpAny (model prog w) A (binaryOp .Add (.str x t) (.str y u)) Q E s :=
  P.add_str (by
    have e1 : (x.length == 0) = false := by simpa using nx
    have e2 : (y.length == 0) = false := by simpa using ny
    rw [e1, e2]
    simp only [Bool.false_eq_true, if_false]
    exact ⟨by rw [Str.length_append]; have := sizeLine_eq; omega, h⟩)
theorem replace_tok {prog : Program} {w : World} {A : Around} {E : Value → Shared → Prop} {s : Shared} {x y z : Str} {t u v : Tok} {Q : Value → Shared → Prop} (hu : u ≠ 0) (hv : v ≠ 0) (huv : u ≠ v) (hyz : (y == z) = false) (hx : x.length ≤ 100) (hz : z.length ≤ 14)
    (hq : ∀ t' k, Q (.str (Txt.replace x y z) t') { s with toks := k }) : wpAny (model prog w) A (call (.builtin "str.replace") [.str x t, .str y u, .str z v]) Q E s :=
  SC.replaceW hu hv huv hyz (by omega) hz hq
theorem all_nil {c : Value} : ∀ v ∈ ([] : List Value), v = c := fun _ h => nomatch h
theorem all_cons {c : Value} {l : List Value} (h : ∀ v ∈ l, v = c) : ∀ v ∈ c :: l, v = c := fun v hv => by
  rcases List.mem_cons.mp hv with h' | h'
  · exact h'
  · exact h v h'
noncomputable def GKeyS (_x : Str) (_g : Str → Str) : Prop := True
noncomputable def GKeyI (_x : Str) (_g : Str → Int) : Prop := True
section
variable {prog : Program} {w : World} {A : Around} {h₀ : Heap} {L : Addr} {m : Str → Option Value} {env : Env} {elt : PySem.Expr} {x : Str} {scope : Scope} {cl : List (Str × Addr)} {s : Shared} {S : List (Addr × Obj) → Prop} {P : Nat → Value → Prop} {Fin : List Value → List (Addr × Obj) → Prop} {news : List (Addr × Obj)}
theorem comp_strsK {n : Nat} {vs : List Value} {xs : List Str} {g : Str → Str} (_mk : GKeyS x g) (hv : StrsAre vs xs) (hx : xs.length ≤ 100) {b : Nat} (hb : ∀ x ∈ xs, x.length ≤ b) (hn : n = vs.length) (hP : ∀ i v, P i v → vs[i]? = some v)
    (turn : ∀ x₀ t I oI C oC D m₂ ys h tk (E' : Value → Shared → Prop), x₀ ∈ xs → x₀.length ≤ b → LCg.NsObj oC m₂ → m₂ x = some (.str x₀ t) → Fr h₀ L h m → News h₀ L h ((I, oI) :: (C, oC) :: (D, LCg.lst ys) :: news) → LCg.Off3 I C D news → ((@Ne Nat I C) ∧ (@Ne Nat I D) ∧ (@Ne Nat C D)) →
      wpAny (model prog w) A (eval elt (compEnvC scope cl C env)) (LCg.CompEnd h₀ L m { s with heap := h, toks := tk } I oI C oC D (LCg.lst ys) S (fun y news' => news' = news ∧ ∃ t, y = .str (g x₀) t)) E' { s with heap := h, toks := tk })
    (fin : ∀ ys, StrsAre ys (xs.map g) → (xs.map g).length ≤ 100 → Fin ys news) : LCg.CompRest prog w A h₀ L m env elt x scope cl s S P Fin n 0 [] news :=
  comp_rel (fun x y => ∃ t, y = .str (g x) t) hv hn hP (fun x₀ t I oI C oC D m₂ ys h tk E' hm => turn x₀ t I oI C oC D m₂ ys h tk E' hm (hb x₀ hm)) fun ys h _ => fin ys h.strs (by rw [List.length_map]; exact hx)
theorem comp_intsK {n : Nat} {vs : List Value} {xs : List Str} {g : Str → Int} (_mk : GKeyI x g) (hv : StrsAre vs xs) (hx : xs.length ≤ 100) {b : Nat} (hb : ∀ x ∈ xs, x.length ≤ b) (hn : n = vs.length) (hP : ∀ i v, P i v → vs[i]? = some v)
    (turn : ∀ x₀ t I oI C oC D m₂ ys h tk (E' : Value → Shared → Prop), x₀ ∈ xs → x₀.length ≤ b → LCg.NsObj oC m₂ → m₂ x = some (.str x₀ t) → Fr h₀ L h m → News h₀ L h ((I, oI) :: (C, oC) :: (D, LCg.lst ys) :: news) → LCg.Off3 I C D news → ((@Ne Nat I C) ∧ (@Ne Nat I D) ∧ (@Ne Nat C D)) →
      wpAny (model prog w) A (eval elt (compEnvC scope cl C env)) (LCg.CompEnd h₀ L m { s with heap := h, toks := tk } I oI C oC D (LCg.lst ys) S (fun y news' => news' = news ∧ ∃ t, y = .int (g x₀) t)) E' { s with heap := h, toks := tk })
    (fin : ∀ ys, IntsAre ys (xs.map g) → (xs.map g).length ≤ 100 → Fin ys news) : LCg.CompRest prog w A h₀ L m env elt x scope cl s S P Fin n 0 [] news :=
  comp_rel (fun x y => ∃ t, y = .int (g x) t) hv hn hP (fun x₀ t I oI C oC D m₂ ys h tk E' hm => turn x₀ t I oI C oC D m₂ ys h tk E' hm (hb x₀ hm)) fun ys h _ => fin ys h.ints (by rw [List.length_map]; exact hx)
end
theorem st_nil : PyProof.Rows.StrsAre [] [] := .nil
theorem st_cons {y : Str} {t : Tok} {vs : List Value} {ys : List Str} (h : PyProof.Rows.StrsAre vs ys) : PyProof.Rows.StrsAre (.str y t :: vs) (y :: ys) := .cons y t h
section
variable {prog : Program} {w : World} {A : Around} {h₀ : Heap} {L : Addr} {m : Str → Option Value} {env : Env} {ct elt : PySem.Expr} {x : Str} {scope : Scope} {cl : List (Str × Addr)} {s : Shared} {S : List (Addr × Obj) → Prop} {Fin : List Value → List (Addr × Obj) → Prop} {news : List (Addr × Obj)}
theorem compT_noneA {n : Nat} {its : Array Value} {c : Value} (hA : ∀ v ∈ its.toList, v = c)
    (turn : ∀ I oI C oC D m₂ h tk (E' : Value → Shared → Prop), LCg.NsObj oC m₂ → m₂ x = some c → Fr h₀ L h m → News h₀ L h ((I, oI) :: (C, oC) :: (D, LCg.lst []) :: news) → LCg.Off3 I C D news → ((@Ne Nat I C) ∧ (@Ne Nat I D) ∧ (@Ne Nat C D)) →
      wpAny (model prog w) A (isTrue ct (compEnvC scope cl C env) (eval ct (compEnvC scope cl C env))) (fun ok s' => if ok = true then False
        else LCg.CompEnd h₀ L m { s with heap := h, toks := tk } I oI C oC D (LCg.lst []) S (fun _ news' => news' = news) Value.none s') E' { s with heap := h, toks := tk })
    (fin : Fin [] news) : LCt.CompRestT prog w A h₀ L m env ct elt x scope cl s S (fun i v => its[i]? = some v) Fin n 0 [] news :=
  compT_none c (fun i v e => hA v (by
    have e' : its.toList[i]? = some v := by rw [Array.getElem?_toList]; exact e
    exact List.mem_of_getElem? e')) turn fin
end
end Mine
end
section
open PySem PySem.W PyProof.Rows
set_option maxRecDepth 100000
namespace Mine
end Mine
local macro_rules | `(tactic| walk_at $s:str) => `(tactic| k_extra $s)
theorem Mine.rows_S120 : True := by
  k_with_none
  k_with "CompEnd" => (with_unfolding_all refine' LCg.CompEnd.intro ?F ?N _ (fun p hp => hp) ?off ?src ?_; (case F => k_asm); (case N => k_asm); (case off => first | assumption | (simp only [LCg.Off3, and_true]; assumption)); (case src => lcg_src))
  k_with "eval ListComp" => (k_here; lct_look; k_dflt (refine LCt.ListComp_T (F₀ := by k_asm) (by with_unfolding_all rfl) (by decide) (by rfl) (by decide) (by rfl) ?_))
  k_with "call ref" => (k_here; (with_reducible show wpAny _ _ (call (Value.ref 148) [Value.str _ _, Value.str _ _]) _ _ _); k_dflt (refine' Mine.dm_to ?k1 ?k2 ?k3 ?k4 ?k5 ?kK ?q0 ?q1 ?q2 ?kd ?ku ?_; (case k1 => k_asm); (case k2 => k_asm); (case k3 => k_asm); (case k4 => k_asm); (case k5 => k_asm); (case kK => first | exact rfl | assumption); (case q0 => first | with_reducible assumption | (refine' Nat.le_trans ?za ?zb; (case za => with_reducible assumption); (case zb => decide)) | (refine' Mine.le_app ?a3 ?b3 ?c3; (case a3 => first | with_reducible assumption | (refine' Mine.le_app ?a2 ?b2 ?c2; (case a2 => first | with_reducible assumption | (refine' Mine.le_app ?a1 ?b1 ?c1; (case a1 => first | with_reducible assumption | (refine' Mine.le_app ?a0 ?b0 ?c0; (case a0 => first | with_reducible assumption | exact Nat.le_refl _); (case b0 => first | with_reducible assumption | (refine' Mine.le_app ?ra0 ?rb0 ?rc0; (case ra0 => first | with_reducible assumption | exact Nat.le_refl _); (case rb0 => first | with_reducible assumption | exact Nat.le_refl _); (case rc0 => exact Nat.le_refl _)) | exact Nat.le_refl _); (case c0 => exact Nat.le_refl _)) | exact Nat.le_refl _); (case b1 => first | with_reducible assumption | (refine' Mine.le_app ?ra1 ?rb1 ?rc1; (case ra1 => first | with_reducible assumption | exact Nat.le_refl _); (case rb1 => first | with_reducible assumption | exact Nat.le_refl _); (case rc1 => exact Nat.le_refl _)) | exact Nat.le_refl _); (case c1 => exact Nat.le_refl _)) | exact Nat.le_refl _); (case b2 => first | with_reducible assumption | (refine' Mine.le_app ?ra2 ?rb2 ?rc2; (case ra2 => first | with_reducible assumption | exact Nat.le_refl _); (case rb2 => first | with_reducible assumption | exact Nat.le_refl _); (case rc2 => exact Nat.le_refl _)) | exact Nat.le_refl _); (case c2 => exact Nat.le_refl _)) | exact Nat.le_refl _); (case b3 => first | with_reducible assumption | (refine' Mine.le_app ?ra3 ?rb3 ?rc3; (case ra3 => first | with_reducible assumption | exact Nat.le_refl _); (case rb3 => first | with_reducible assumption | exact Nat.le_refl _); (case rc3 => exact Nat.le_refl _)) | exact Nat.le_refl _); (case c3 => decide)) | decide); (case q1 => first | with_reducible assumption | (refine' Nat.le_trans ?za ?zb; (case za => with_reducible assumption); (case zb => decide)) | (refine' Mine.le_app ?a3 ?b3 ?c3; (case a3 => first | with_reducible assumption | (refine' Mine.le_app ?a2 ?b2 ?c2; (case a2 => first | with_reducible assumption | (refine' Mine.le_app ?a1 ?b1 ?c1; (case a1 => first | with_reducible assumption | (refine' Mine.le_app ?a0 ?b0 ?c0; (case a0 => first | with_reducible assumption | exact Nat.le_refl _); (case b0 => first | with_reducible assumption | (refine' Mine.le_app ?ra0 ?rb0 ?rc0; (case ra0 => first | with_reducible assumption | exact Nat.le_refl _); (case rb0 => first | with_reducible assumption | exact Nat.le_refl _); (case rc0 => exact Nat.le_refl _)) | exact Nat.le_refl _); (case c0 => exact Nat.le_refl _)) | exact Nat.le_refl _); (case b1 => first | with_reducible assumption | (refine' Mine.le_app ?ra1 ?rb1 ?rc1; (case ra1 => first | with_reducible assumption | exact Nat.le_refl _); (case rb1 => first | with_reducible assumption | exact Nat.le_refl _); (case rc1 => exact Nat.le_refl _)) | exact Nat.le_refl _); (case c1 => exact Nat.le_refl _)) | exact Nat.le_refl _); (case b2 => first | with_reducible assumption | (refine' Mine.le_app ?ra2 ?rb2 ?rc2; (case ra2 => first | with_reducible assumption | exact Nat.le_refl _); (case rb2 => first | with_reducible assumption | exact Nat.le_refl _); (case rc2 => exact Nat.le_refl _)) | exact Nat.le_refl _); (case c2 => exact Nat.le_refl _)) | exact Nat.le_refl _); (case b3 => first | with_reducible assumption | (refine' Mine.le_app ?ra3 ?rb3 ?rc3; (case ra3 => first | with_reducible assumption | exact Nat.le_refl _); (case rb3 => first | with_reducible assumption | exact Nat.le_refl _); (case rc3 => exact Nat.le_refl _)) | exact Nat.le_refl _); (case c3 => decide)) | decide); (case q2 => with_reducible assumption); (case kd => ktr_room); (case ku => ktr_units)); intro tk8 h9 tk9 F9 N9; (try dsimp only); (try k_fold))
  k_with "call ref" => (k_here; (with_reducible show wpAny _ _ (call (Value.ref 162) [Value.str _ _, Value.str _ _]) _ _ _); k_dflt (refine' Mine.udm_to ?k1 ?k2 ?k3 ?k4 ?k5 ?kK ?q0 ?q1 ?q2 ?kd ?ku ?_; (case k1 => k_asm); (case k2 => k_asm); (case k3 => k_asm); (case k4 => k_asm); (case k5 => k_asm); (case kK => first | exact rfl | assumption); (case q0 => first | with_reducible assumption | (refine' Nat.le_trans ?za ?zb; (case za => with_reducible assumption); (case zb => decide)) | (refine' Mine.le_app ?a3 ?b3 ?c3; (case a3 => first | with_reducible assumption | (refine' Mine.le_app ?a2 ?b2 ?c2; (case a2 => first | with_reducible assumption | (refine' Mine.le_app ?a1 ?b1 ?c1; (case a1 => first | with_reducible assumption | (refine' Mine.le_app ?a0 ?b0 ?c0; (case a0 => first | with_reducible assumption | exact Nat.le_refl _); (case b0 => first | with_reducible assumption | (refine' Mine.le_app ?ra0 ?rb0 ?rc0; (case ra0 => first | with_reducible assumption | exact Nat.le_refl _); (case rb0 => first | with_reducible assumption | exact Nat.le_refl _); (case rc0 => exact Nat.le_refl _)) | exact Nat.le_refl _); (case c0 => exact Nat.le_refl _)) | exact Nat.le_refl _); (case b1 => first | with_reducible assumption | (refine' Mine.le_app ?ra1 ?rb1 ?rc1; (case ra1 => first | with_reducible assumption | exact Nat.le_refl _); (case rb1 => first | with_reducible assumption | exact Nat.le_refl _); (case rc1 => exact Nat.le_refl _)) | exact Nat.le_refl _); (case c1 => exact Nat.le_refl _)) | exact Nat.le_refl _); (case b2 => first | with_reducible assumption | (refine' Mine.le_app ?ra2 ?rb2 ?rc2; (case ra2 => first | with_reducible assumption | exact Nat.le_refl _); (case rb2 => first | with_reducible assumption | exact Nat.le_refl _); (case rc2 => exact Nat.le_refl _)) | exact Nat.le_refl _); (case c2 => exact Nat.le_refl _)) | exact Nat.le_refl _); (case b3 => first | with_reducible assumption | (refine' Mine.le_app ?ra3 ?rb3 ?rc3; (case ra3 => first | with_reducible assumption | exact Nat.le_refl _); (case rb3 => first | with_reducible assumption | exact Nat.le_refl _); (case rc3 => exact Nat.le_refl _)) | exact Nat.le_refl _); (case c3 => decide)) | decide); (case q1 => first | with_reducible assumption | (refine' Nat.le_trans ?za ?zb; (case za => with_reducible assumption); (case zb => decide)) | (refine' Mine.le_app ?a3 ?b3 ?c3; (case a3 => first | with_reducible assumption | (refine' Mine.le_app ?a2 ?b2 ?c2; (case a2 => first | with_reducible assumption | (refine' Mine.le_app ?a1 ?b1 ?c1; (case a1 => first | with_reducible assumption | (refine' Mine.le_app ?a0 ?b0 ?c0; (case a0 => first | with_reducible assumption | exact Nat.le_refl _); (case b0 => first | with_reducible assumption | (refine' Mine.le_app ?ra0 ?rb0 ?rc0; (case ra0 => first | with_reducible assumption | exact Nat.le_refl _); (case rb0 => first | with_reducible assumption | exact Nat.le_refl _); (case rc0 => exact Nat.le_refl _)) | exact Nat.le_refl _); (case c0 => exact Nat.le_refl _)) | exact Nat.le_refl _); (case b1 => first | with_reducible assumption | (refine' Mine.le_app ?ra1 ?rb1 ?rc1; (case ra1 => first | with_reducible assumption | exact Nat.le_refl _); (case rb1 => first | with_reducible assumption | exact Nat.le_refl _); (case rc1 => exact Nat.le_refl _)) | exact Nat.le_refl _); (case c1 => exact Nat.le_refl _)) | exact Nat.le_refl _); (case b2 => first | with_reducible assumption | (refine' Mine.le_app ?ra2 ?rb2 ?rc2; (case ra2 => first | with_reducible assumption | exact Nat.le_refl _); (case rb2 => first | with_reducible assumption | exact Nat.le_refl _); (case rc2 => exact Nat.le_refl _)) | exact Nat.le_refl _); (case c2 => exact Nat.le_refl _)) | exact Nat.le_refl _); (case b3 => first | with_reducible assumption | (refine' Mine.le_app ?ra3 ?rb3 ?rc3; (case ra3 => first | with_reducible assumption | exact Nat.le_refl _); (case rb3 => first | with_reducible assumption | exact Nat.le_refl _); (case rc3 => exact Nat.le_refl _)) | exact Nat.le_refl _); (case c3 => decide)) | decide); (case q2 => with_reducible assumption); (case kd => ktr_room); (case ku => ktr_units)); intro tk8 h9 tk9 F9 N9; (try dsimp only); (try k_fold))
  k_with "call ref" => (k_here; (with_reducible show wpAny _ _ (call (Value.ref 169) [Value.str _ _]) _ _ _); k_dflt (refine' Mine.reach_to ?k1 ?k2 ?k3 ?k4 ?k5 ?kK ?q0 ?q1 ?kd ?ku ?_; (case k1 => k_asm); (case k2 => k_asm); (case k3 => k_asm); (case k4 => k_asm); (case k5 => k_asm); (case kK => first | exact rfl | assumption); (case q0 => first | with_reducible assumption | (refine' Nat.le_trans ?za ?zb; (case za => with_reducible assumption); (case zb => decide)) | (refine' Mine.le_app ?a3 ?b3 ?c3; (case a3 => first | with_reducible assumption | (refine' Mine.le_app ?a2 ?b2 ?c2; (case a2 => first | with_reducible assumption | (refine' Mine.le_app ?a1 ?b1 ?c1; (case a1 => first | with_reducible assumption | (refine' Mine.le_app ?a0 ?b0 ?c0; (case a0 => first | with_reducible assumption | exact Nat.le_refl _); (case b0 => first | with_reducible assumption | (refine' Mine.le_app ?ra0 ?rb0 ?rc0; (case ra0 => first | with_reducible assumption | exact Nat.le_refl _); (case rb0 => first | with_reducible assumption | exact Nat.le_refl _); (case rc0 => exact Nat.le_refl _)) | exact Nat.le_refl _); (case c0 => exact Nat.le_refl _)) | exact Nat.le_refl _); (case b1 => first | with_reducible assumption | (refine' Mine.le_app ?ra1 ?rb1 ?rc1; (case ra1 => first | with_reducible assumption | exact Nat.le_refl _); (case rb1 => first | with_reducible assumption | exact Nat.le_refl _); (case rc1 => exact Nat.le_refl _)) | exact Nat.le_refl _); (case c1 => exact Nat.le_refl _)) | exact Nat.le_refl _); (case b2 => first | with_reducible assumption | (refine' Mine.le_app ?ra2 ?rb2 ?rc2; (case ra2 => first | with_reducible assumption | exact Nat.le_refl _); (case rb2 => first | with_reducible assumption | exact Nat.le_refl _); (case rc2 => exact Nat.le_refl _)) | exact Nat.le_refl _); (case c2 => exact Nat.le_refl _)) | exact Nat.le_refl _); (case b3 => first | with_reducible assumption | (refine' Mine.le_app ?ra3 ?rb3 ?rc3; (case ra3 => first | with_reducible assumption | exact Nat.le_refl _); (case rb3 => first | with_reducible assumption | exact Nat.le_refl _); (case rc3 => exact Nat.le_refl _)) | exact Nat.le_refl _); (case c3 => decide)) | decide); (case q1 => with_reducible assumption); (case kd => ktr_room); (case ku => ktr_units)); intro tk8 h9 tk9 F9 N9; (try dsimp only); (try k_fold))
  k_with "newList" => (k_here; k_dflt (refine' newList_K ?k1 ?k2 ?_ ?k3; (case k1 => k_asm); (case k2 => k_asm); (case k3 => first | exact Nat.le_of_ble_eq_true rfl | size_fits); k_whole); intro l' h' F' N' l1; (try k_lt l1))
  k_with "compareOp NotEq ref ref" => (k_here; (with_reducible show wpAny _ _ (compareOp CmpOp.NotEq (Value.ref _) (Value.ref _)) _ _ _); k_dflt (refine' Mine.ne_nil ?a ?b ?u ?_; (case a => is_list); (case b => is_list); (case u => ke_room)))
  k_with "binaryOp Add str str" => (k_here; k_dflt (with_reducible show wpAny _ _ (binaryOp Operator.Add (Value.str _ _) (Value.str _ _)) _ _ _); (refine' Mine.add_q ?e ?f ?g ?_; (case e => first | with_reducible assumption | (refine' Mine.le_app ?a2 ?b2 ?c2; (case a2 => first | with_reducible assumption | (refine' Mine.le_app ?a1 ?b1 ?c1; (case a1 => first | with_reducible assumption | (refine' Mine.le_app ?a0 ?b0 ?c0; (case a0 => first | with_reducible assumption | exact Nat.le_refl _); (case b0 => first | with_reducible assumption | (refine' Mine.le_app ?ra0 ?rb0 ?rc0; (case ra0 => first | with_reducible assumption | exact Nat.le_refl _); (case rb0 => first | with_reducible assumption | exact Nat.le_refl _); (case rc0 => exact Nat.le_refl _)) | exact Nat.le_refl _); (case c0 => exact Nat.le_refl _)) | exact Nat.le_refl _); (case b1 => first | with_reducible assumption | (refine' Mine.le_app ?ra1 ?rb1 ?rc1; (case ra1 => first | with_reducible assumption | exact Nat.le_refl _); (case rb1 => first | with_reducible assumption | exact Nat.le_refl _); (case rc1 => exact Nat.le_refl _)) | exact Nat.le_refl _); (case c1 => exact Nat.le_refl _)) | exact Nat.le_refl _); (case b2 => first | with_reducible assumption | (refine' Mine.le_app ?ra2 ?rb2 ?rc2; (case ra2 => first | with_reducible assumption | exact Nat.le_refl _); (case rb2 => first | with_reducible assumption | exact Nat.le_refl _); (case rc2 => exact Nat.le_refl _)) | exact Nat.le_refl _); (case c2 => exact Nat.le_refl _)) | exact Nat.le_refl _); (case f => first | with_reducible assumption | (refine' Mine.le_app ?a2 ?b2 ?c2; (case a2 => first | with_reducible assumption | (refine' Mine.le_app ?a1 ?b1 ?c1; (case a1 => first | with_reducible assumption | (refine' Mine.le_app ?a0 ?b0 ?c0; (case a0 => first | with_reducible assumption | exact Nat.le_refl _); (case b0 => first | with_reducible assumption | (refine' Mine.le_app ?ra0 ?rb0 ?rc0; (case ra0 => first | with_reducible assumption | exact Nat.le_refl _); (case rb0 => first | with_reducible assumption | exact Nat.le_refl _); (case rc0 => exact Nat.le_refl _)) | exact Nat.le_refl _); (case c0 => exact Nat.le_refl _)) | exact Nat.le_refl _); (case b1 => first | with_reducible assumption | (refine' Mine.le_app ?ra1 ?rb1 ?rc1; (case ra1 => first | with_reducible assumption | exact Nat.le_refl _); (case rb1 => first | with_reducible assumption | exact Nat.le_refl _); (case rc1 => exact Nat.le_refl _)) | exact Nat.le_refl _); (case c1 => exact Nat.le_refl _)) | exact Nat.le_refl _); (case b2 => first | with_reducible assumption | (refine' Mine.le_app ?ra2 ?rb2 ?rc2; (case ra2 => first | with_reducible assumption | exact Nat.le_refl _); (case rb2 => first | with_reducible assumption | exact Nat.le_refl _); (case rc2 => exact Nat.le_refl _)) | exact Nat.le_refl _); (case c2 => exact Nat.le_refl _)) | exact Nat.le_refl _); (case g => decide)); intro _ _)
  k_with "call builtin:str.upper" => (k_here; k_dflt (with_reducible show wpAny _ _ (call (Value.builtin "str.upper") [Value.str _ _]) _ _ _); (refine' Mine.up_to ?e ?f ?_; (case e => with_reducible assumption); (case f => with_reducible assumption)); intro _ _)
  k_with "call builtin:str.lower" => (k_here; k_dflt (with_reducible show wpAny _ _ (call (Value.builtin "str.lower") [Value.str _ _]) _ _ _); (refine' Mine.lo_to ?e ?f ?_; (case e => with_reducible assumption); (case f => with_reducible assumption)); intro _ _)
  k_with "inplaceOp Add ref ref" => (k_here; (with_reducible show wpAny _ _ (inplaceOp Operator.Add (Value.ref _) (Value.ref _)) _ _ _); k_dflt (refine' Mine.list_iadd ?F ?N ?b ?e ?ne ?U ?d ?z ?y ?_; (case F => k_asm); (case N => k_asm); (case b => k_mem); (case U => k_upd); (case e => kl_lit); (case ne => kl_some); (case d => kl_no); (case z => kl_room); (case y => kl_room)); kl_rest)
  k_with "CompSrcT" => (k_here; k_dflt (refine LCt.CompSrcT.ledger (by rfl) (by k_asm) (by k_asm) (by k_mem) (by first | exact Nat.le_of_ble_eq_true rfl | size_fits) ?_); intro g'; k_dflt (refine' Mine.compT_noneA ?hA (fun I₀ oI₀ C₀ oC₀ D₀ m₀' h₀' tk₀ E₀ hC₀ hm₀ F₀ N₀ off₀ ne₀ => ?_) ?_; (case hA => (repeat (first | exact Mine.all_nil | refine Mine.all_cons ?_)))); (all_goals (try (simp only [LCg.Off3, and_true] at off₀))))
  k_with "Eq" => (k_here; with_reducible exact rfl)
  trivial
namespace Mine

set_option maxHeartbeats 4000000 in
theorem names_ok {p : Program} {w : World} {lo : List Str} {mean : ExcName → Option Value} {mg mb : Str → Option Value} {dp un : Nat} {gd : Option (List Code)} {cn : Str} {cs : Scope} {a : Addr} {ccd : Value} {cl : List (Str × Addr)} {outer : List Env} {A₀ : Around} {base h₀ : Heap} {L : Addr} {m : Str → Option Value} {news : List (Addr × Obj)} {s : Shared} {Q E : Value → Shared → Prop} {x la tp gr fu gl : Str} {tk tk2 tk3 : Tok}
    (B : Below A₀ base outer h₀) (F : Fr h₀ L s.heap m) (X : (Mine.K w.params).In h₀) (N : News h₀ L s.heap news) (T : Top p lo mean mg mb h₀) (hk : cs.kind = .function) (hx : x.length ≤ 100) (hl : la.length ≤ 100) (ht : tp.length ≤ 100) (hg : gr.length ≤ 300) (hf : fu.length ≤ 300) (hgl : gl.length ≤ 300) (u1 : Txt.upper (Str.ofString "." ++ la ++ Str.ofString "." ++ tp) = gr) (u2 : Txt.upper (Str.ofString "y" ++ x ++ Str.ofString "." ++ tp) = fu) (u3 : Txt.lower gr = gl) (d1 : dmF x x = true) (d2 : dmF (Str.ofString "y" ++ x ++ Str.ofString "." ++ tp) gr = true) (d3 : dmF fu gl = true) (d4 : udmF (Str.ofString "y" ++ x ++ Str.ofString "." ++ tp) gr = true) (d5 : udmF fu gl = true) (d6 : udmF (Str.ofString "y" ++ x) (Str.ofString "y" ++ x) = true) (d7 : udmF (Str.ofString "y" ++ x ++ Str.ofString ".7") (Str.ofString "y" ++ x ++ Str.ofString ".7") = true) (e1 : dmF (Str.ofString "y" ++ x ++ Str.ofString ".7") (Str.ofString "." ++ la) = false) (e2 : dmF (Str.ofString "y" ++ x ++ Str.ofString ".7." ++ tp) (Str.ofString "." ++ la ++ Str.ofString ".7") = false) (e3 : dmF (Str.ofString "." ++ (Str.ofString "y" ++ x)) x = false) (e4 : dmF (Str.ofString "xyz" ++ x) (Str.ofString "yz" ++ x) = false) (e5 : dmF (Str.ofString "y" ++ x ++ Str.ofString "." ++ tp) (Str.ofString "." ++ la ++ Str.ofString ".") = false) (e6 : dmF (Str.ofString "y" ++ x) (Str.ofString ".") = false) (e7 : udmF (Str.ofString "y" ++ x) la = false) (e8 : udmF (Str.ofString "y" ++ x ++ Str.ofString ".7") (Str.ofString "." ++ la ++ Str.ofString ".7") = false) (r1 : reachF (Str.ofString "y" ++ x ++ Str.ofString ".7") = (Str.ofString "y" ++ x ++ Str.ofString ".7")) (r2 : reachF (la ++ Str.ofString ".xlocal") = la ++ Str.ofString ".xlocal") (hd : dp + 4 < recursionLimit) (hu : un + 200 < cLine)
    (hret : ∀ (t : Tok) (h' : Heap) (tk' : Nat), Fr h₀ L h' m → News h₀ L h' news → Q (.bool true) { s with heap := h', toks := tk' }) :
    wpAny (model PySem.Challenge.rw_xl0024_01.prog w) (ktrTop dp un gd cn cs L a ccd cl outer) (call (.ref 217) [.str x tk, .str la tk2, .str tp tk3]) Q E s := by
  revert X; k_fill; intro X
  
  refine wpAny_call ?_
  k_dflt cell_enter
  k_steps
  all_goals (refine' cb_retB hret ?e1 ?e2 ?e3; (case e2 => k_asm); (case e3 => first | k_asm | (refine' cb_drop ?cbN ?cbS; (case cbN => assumption); (case cbS => first | ((repeat (first | with_reducible exact Mine.sub_refl | with_reducible refine Mine.sub_cons ?_)); done) | kcj_all))); (case e1 => with_reducible first | exact beq_self_eq_true _ | exact (beq_self_eq_true _).symm))
end Mine

theorem Mine.rows_S12_end : True := by
  k_with_none
  trivial
end
section
open PySem PySem.W PyProof.Rows PySem.Spec
namespace Mine
section
variable {prog : Program} {w : World} {A : Around} {E : Value → Shared → Prop} {s : Shared} {h₀ : Heap} {L a b : Addr} {m : Str → Option Value} {news : List (Addr × Obj)} {its its2 : Array Value} {n n2 : Nat} {l : List Value}
theorem list_add {Q : Value → Shared → Prop} (F : Fr h₀ L s.heap m) (N : News h₀ L s.heap news) (ha : (a, listOf its n) ∈ news) (hb : (b, listOf its2 n2) ∈ news) (e : its.toList ++ its2.toList = l) (hz : its.toList.length + its2.toList.length ≤ 1000)
    (h : ∀ l' h', Fr h₀ L h' m → News h₀ L h' ((l', listOf l.toArray 0) :: news) → (∀ p ∈ news, p.1 < l') → Q (.ref l') { s with heap := h' }) : wpAny (model prog w) A (binaryOp .Add (.ref a) (.ref b)) Q E s := by
  subst e
  exact add_arrays F N ⟨_, (N _ ha).1, rfl, _, rfl⟩ ⟨_, (N _ hb).1, rfl, _, rfl⟩ (fun h' F' N' => h _ h' F' N' fun p hp => Heap.lt_size (N p hp).1) (by rw [sizeLine_eq, ← Array.length_toList, ← Array.length_toList]; omega)
end
theorem sub_keep {α : Type} {l l' : List α} {a : α} (h : ∀ p ∈ l, p ∈ l') : ∀ p ∈ a :: l, p ∈ a :: l' := fun p hp => by
  rcases List.mem_cons.mp hp with rfl | hp
  · exact .head _
  · exact .tail _ (h p hp)
theorem near1 {x : Str} (h : x.length = 1) : x.length ≠ 0 := by omega
theorem if_yes {c : Bool} {i j : Int} {t : Tok} (h : c = true) : ∃ u, Value.int i t = Value.int (if c = true then i else j) u := ⟨t, by rw [if_pos h]⟩
theorem if_no {c : Bool} {i j : Int} {t : Tok} (h : c = false) : ∃ u, Value.int j t = Value.int (if c = true then i else j) u := ⟨t, by rw [if_neg (by rw [h]; decide)]⟩
theorem len_add1 {ys : List Value} {zs : List Str} {l : List Value} (h : StrsAre ys zs) (hl : zs.length ≤ 100) (hk : l.length ≤ 100) : ys.toArray.toList.length + l.length ≤ 1000 := by
  have e := strs_len h
  rw [List.toList_toArray]; omega
end Mine
end
section
open PySem PySem.W PyProof.Rows
set_option maxRecDepth 100000
local macro_rules | `(tactic| walk_at $s:str) => `(tactic| k_extra $s)
theorem Mine.rows_S140 : True := by
  k_with_none
  k_with "CompEnd" => (with_unfolding_all refine' LCg.CompEnd.intro ?F ?N _ (fun p hp => hp) ?off ?src ?_; (case F => k_asm); (case N => k_asm); (case off => first | assumption | (simp only [LCg.Off3, and_true]; assumption)); (case src => lcg_src))
  k_with "eval ListComp" => (k_here; lcf_look; k_dflt (refine LCg.ListComp_U (F₀ := by k_asm) (by with_unfolding_all rfl) (by decide) (by rfl) (by decide) (by rfl) ?_))
  k_with "exec Assign cons ListComp" => (k_here; lcf_look; k_dflt (refine LCg.Assign_ListComp_U (F₀ := by k_asm) (by rfl) (by with_unfolding_all rfl) (by with_unfolding_all rfl) (by decide) (by rfl) (by decide) (by rfl) (by rfl) (by rfl) ?_))
  k_with "binaryOp Add ref ref" => (k_here; (with_reducible show wpAny _ _ (binaryOp Operator.Add (Value.ref _) (Value.ref _)) _ _ _); k_dflt (refine' Mine.list_add ?F ?N ?a ?b ?e ?z ?_; (case F => k_asm); (case N => k_asm); (case a => k_mem); (case b => k_mem); (case e => ((try simp only [List.toList_toArray]); exact rfl)); (case z => first | exact Nat.le_of_ble_eq_true rfl | exact Mine.len_add1 (by with_reducible assumption) (by with_reducible assumption) (Nat.le_of_ble_eq_true rfl)); k_whole); intro l' h' F' N' l1; (try k_lt l1))
  k_with "call ref" => (k_here; (with_reducible show wpAny _ _ (call (Value.ref 45) [Value.str _ _]) _ _ _); k_dflt (refine' Mine.strip_ok ?k1 ?k2 ?k3 ?k4 ?k5 ?kK ?q0 ?kd ?ku ?_; (case k1 => k_asm); (case k2 => k_asm); (case k3 => k_asm); (case k4 => k_asm); (case k5 => k_asm); (case kK => first | exact rfl | assumption); (case q0 => first | with_reducible assumption | (refine' Nat.le_trans ?za ?zb; (case za => with_reducible assumption); (case zb => decide)) | (refine' Mine.le_app ?a3 ?b3 ?c3; (case a3 => first | with_reducible assumption | (refine' Mine.le_app ?a2 ?b2 ?c2; (case a2 => first | with_reducible assumption | (refine' Mine.le_app ?a1 ?b1 ?c1; (case a1 => first | with_reducible assumption | (refine' Mine.le_app ?a0 ?b0 ?c0; (case a0 => first | with_reducible assumption | exact Nat.le_refl _); (case b0 => first | with_reducible assumption | (refine' Mine.le_app ?ra0 ?rb0 ?rc0; (case ra0 => first | with_reducible assumption | exact Nat.le_refl _); (case rb0 => first | with_reducible assumption | exact Nat.le_refl _); (case rc0 => exact Nat.le_refl _)) | exact Nat.le_refl _); (case c0 => exact Nat.le_refl _)) | exact Nat.le_refl _); (case b1 => first | with_reducible assumption | (refine' Mine.le_app ?ra1 ?rb1 ?rc1; (case ra1 => first | with_reducible assumption | exact Nat.le_refl _); (case rb1 => first | with_reducible assumption | exact Nat.le_refl _); (case rc1 => exact Nat.le_refl _)) | exact Nat.le_refl _); (case c1 => exact Nat.le_refl _)) | exact Nat.le_refl _); (case b2 => first | with_reducible assumption | (refine' Mine.le_app ?ra2 ?rb2 ?rc2; (case ra2 => first | with_reducible assumption | exact Nat.le_refl _); (case rb2 => first | with_reducible assumption | exact Nat.le_refl _); (case rc2 => exact Nat.le_refl _)) | exact Nat.le_refl _); (case c2 => exact Nat.le_refl _)) | exact Nat.le_refl _); (case b3 => first | with_reducible assumption | (refine' Mine.le_app ?ra3 ?rb3 ?rc3; (case ra3 => first | with_reducible assumption | exact Nat.le_refl _); (case rb3 => first | with_reducible assumption | exact Nat.le_refl _); (case rc3 => exact Nat.le_refl _)) | exact Nat.le_refl _); (case c3 => decide)) | decide); (case kd => ktr_room); (case ku => ktr_units)); intro tk8 h9 tk9 F9 N9; (try dsimp only); (try k_fold))
  k_with "binaryOp Add str str" => (k_here; k_dflt (with_reducible show wpAny _ _ (binaryOp Operator.Add (Value.str _ _) (Value.str _ _)) _ _ _); (refine' Mine.add_q ?e ?f ?g ?_; (case e => first | with_reducible assumption | (refine' Mine.le_app ?a2 ?b2 ?c2; (case a2 => first | with_reducible assumption | (refine' Mine.le_app ?a1 ?b1 ?c1; (case a1 => first | with_reducible assumption | (refine' Mine.le_app ?a0 ?b0 ?c0; (case a0 => first | with_reducible assumption | exact Nat.le_refl _); (case b0 => first | with_reducible assumption | (refine' Mine.le_app ?ra0 ?rb0 ?rc0; (case ra0 => first | with_reducible assumption | exact Nat.le_refl _); (case rb0 => first | with_reducible assumption | exact Nat.le_refl _); (case rc0 => exact Nat.le_refl _)) | exact Nat.le_refl _); (case c0 => exact Nat.le_refl _)) | exact Nat.le_refl _); (case b1 => first | with_reducible assumption | (refine' Mine.le_app ?ra1 ?rb1 ?rc1; (case ra1 => first | with_reducible assumption | exact Nat.le_refl _); (case rb1 => first | with_reducible assumption | exact Nat.le_refl _); (case rc1 => exact Nat.le_refl _)) | exact Nat.le_refl _); (case c1 => exact Nat.le_refl _)) | exact Nat.le_refl _); (case b2 => first | with_reducible assumption | (refine' Mine.le_app ?ra2 ?rb2 ?rc2; (case ra2 => first | with_reducible assumption | exact Nat.le_refl _); (case rb2 => first | with_reducible assumption | exact Nat.le_refl _); (case rc2 => exact Nat.le_refl _)) | exact Nat.le_refl _); (case c2 => exact Nat.le_refl _)) | exact Nat.le_refl _); (case f => first | with_reducible assumption | (refine' Mine.le_app ?a2 ?b2 ?c2; (case a2 => first | with_reducible assumption | (refine' Mine.le_app ?a1 ?b1 ?c1; (case a1 => first | with_reducible assumption | (refine' Mine.le_app ?a0 ?b0 ?c0; (case a0 => first | with_reducible assumption | exact Nat.le_refl _); (case b0 => first | with_reducible assumption | (refine' Mine.le_app ?ra0 ?rb0 ?rc0; (case ra0 => first | with_reducible assumption | exact Nat.le_refl _); (case rb0 => first | with_reducible assumption | exact Nat.le_refl _); (case rc0 => exact Nat.le_refl _)) | exact Nat.le_refl _); (case c0 => exact Nat.le_refl _)) | exact Nat.le_refl _); (case b1 => first | with_reducible assumption | (refine' Mine.le_app ?ra1 ?rb1 ?rc1; (case ra1 => first | with_reducible assumption | exact Nat.le_refl _); (case rb1 => first | with_reducible assumption | exact Nat.le_refl _); (case rc1 => exact Nat.le_refl _)) | exact Nat.le_refl _); (case c1 => exact Nat.le_refl _)) | exact Nat.le_refl _); (case b2 => first | with_reducible assumption | (refine' Mine.le_app ?ra2 ?rb2 ?rc2; (case ra2 => first | with_reducible assumption | exact Nat.le_refl _); (case rb2 => first | with_reducible assumption | exact Nat.le_refl _); (case rc2 => exact Nat.le_refl _)) | exact Nat.le_refl _); (case c2 => exact Nat.le_refl _)) | exact Nat.le_refl _); (case g => decide)); intro _ _)
  k_with "binaryOp Add str str" => (k_here; k_dflt (with_reducible show wpAny _ _ (binaryOp Operator.Add (Value.str _ _) (Value.str _ _)) _ _ _); (refine' Mine.add_tok ?nx ?ny ?e ?f ?g ?_; (case nx => first | decide | with_reducible assumption | ((with_reducible rename (∀ r ∈ _, Str.length r = 1) => hq9); (with_reducible rename (_ ∈ _) => hx9); exact Mine.near1 (hq9 _ hx9))); (case ny => first | decide | with_reducible assumption | ((with_reducible rename (∀ r ∈ _, Str.length r = 1) => hq9); (with_reducible rename (_ ∈ _) => hx9); exact Mine.near1 (hq9 _ hx9))); (case e => first | with_reducible assumption | (refine' Mine.le_app ?a2 ?b2 ?c2; (case a2 => first | with_reducible assumption | (refine' Mine.le_app ?a1 ?b1 ?c1; (case a1 => first | with_reducible assumption | (refine' Mine.le_app ?a0 ?b0 ?c0; (case a0 => first | with_reducible assumption | exact Nat.le_refl _); (case b0 => first | with_reducible assumption | (refine' Mine.le_app ?ra0 ?rb0 ?rc0; (case ra0 => first | with_reducible assumption | exact Nat.le_refl _); (case rb0 => first | with_reducible assumption | exact Nat.le_refl _); (case rc0 => exact Nat.le_refl _)) | exact Nat.le_refl _); (case c0 => exact Nat.le_refl _)) | exact Nat.le_refl _); (case b1 => first | with_reducible assumption | (refine' Mine.le_app ?ra1 ?rb1 ?rc1; (case ra1 => first | with_reducible assumption | exact Nat.le_refl _); (case rb1 => first | with_reducible assumption | exact Nat.le_refl _); (case rc1 => exact Nat.le_refl _)) | exact Nat.le_refl _); (case c1 => exact Nat.le_refl _)) | exact Nat.le_refl _); (case b2 => first | with_reducible assumption | (refine' Mine.le_app ?ra2 ?rb2 ?rc2; (case ra2 => first | with_reducible assumption | exact Nat.le_refl _); (case rb2 => first | with_reducible assumption | exact Nat.le_refl _); (case rc2 => exact Nat.le_refl _)) | exact Nat.le_refl _); (case c2 => exact Nat.le_refl _)) | exact Nat.le_refl _); (case f => first | with_reducible assumption | (refine' Mine.le_app ?a2 ?b2 ?c2; (case a2 => first | with_reducible assumption | (refine' Mine.le_app ?a1 ?b1 ?c1; (case a1 => first | with_reducible assumption | (refine' Mine.le_app ?a0 ?b0 ?c0; (case a0 => first | with_reducible assumption | exact Nat.le_refl _); (case b0 => first | with_reducible assumption | (refine' Mine.le_app ?ra0 ?rb0 ?rc0; (case ra0 => first | with_reducible assumption | exact Nat.le_refl _); (case rb0 => first | with_reducible assumption | exact Nat.le_refl _); (case rc0 => exact Nat.le_refl _)) | exact Nat.le_refl _); (case c0 => exact Nat.le_refl _)) | exact Nat.le_refl _); (case b1 => first | with_reducible assumption | (refine' Mine.le_app ?ra1 ?rb1 ?rc1; (case ra1 => first | with_reducible assumption | exact Nat.le_refl _); (case rb1 => first | with_reducible assumption | exact Nat.le_refl _); (case rc1 => exact Nat.le_refl _)) | exact Nat.le_refl _); (case c1 => exact Nat.le_refl _)) | exact Nat.le_refl _); (case b2 => first | with_reducible assumption | (refine' Mine.le_app ?ra2 ?rb2 ?rc2; (case ra2 => first | with_reducible assumption | exact Nat.le_refl _); (case rb2 => first | with_reducible assumption | exact Nat.le_refl _); (case rc2 => exact Nat.le_refl _)) | exact Nat.le_refl _); (case c2 => exact Nat.le_refl _)) | exact Nat.le_refl _); (case g => decide)))
  k_with "call builtin:str.replace" => (k_here; k_dflt (show wpAny _ _ (call (Value.builtin "str.replace") [Value.str _ _, Value.str _ _, Value.str _ _]) _ _ _); (refine' Mine.replace_tok ?hu ?hv ?huv ?hyz ?hx ?hz ?_; (case hu => exact Nat.succ_ne_zero _); (case hv => exact Nat.succ_ne_zero _); (case huv => exact Nat.ne_of_lt (Nat.lt_succ_self _)); (case hyz => (with_reducible rename (∀ r ∈ _, (_ == _) = false) => hq9); (with_reducible rename (_ ∈ _) => hx9); exact hq9 _ hx9); (case hx => with_reducible assumption); (case hz => first | with_reducible assumption | (refine' Nat.le_trans ?za ?zb; (case za => with_reducible assumption); (case zb => decide)) | (refine' Mine.le_app ?a3 ?b3 ?c3; (case a3 => first | with_reducible assumption | (refine' Mine.le_app ?a2 ?b2 ?c2; (case a2 => first | with_reducible assumption | (refine' Mine.le_app ?a1 ?b1 ?c1; (case a1 => first | with_reducible assumption | (refine' Mine.le_app ?a0 ?b0 ?c0; (case a0 => first | with_reducible assumption | exact Nat.le_refl _); (case b0 => first | with_reducible assumption | (refine' Mine.le_app ?ra0 ?rb0 ?rc0; (case ra0 => first | with_reducible assumption | exact Nat.le_refl _); (case rb0 => first | with_reducible assumption | exact Nat.le_refl _); (case rc0 => exact Nat.le_refl _)) | exact Nat.le_refl _); (case c0 => exact Nat.le_refl _)) | exact Nat.le_refl _); (case b1 => first | with_reducible assumption | (refine' Mine.le_app ?ra1 ?rb1 ?rc1; (case ra1 => first | with_reducible assumption | exact Nat.le_refl _); (case rb1 => first | with_reducible assumption | exact Nat.le_refl _); (case rc1 => exact Nat.le_refl _)) | exact Nat.le_refl _); (case c1 => exact Nat.le_refl _)) | exact Nat.le_refl _); (case b2 => first | with_reducible assumption | (refine' Mine.le_app ?ra2 ?rb2 ?rc2; (case ra2 => first | with_reducible assumption | exact Nat.le_refl _); (case rb2 => first | with_reducible assumption | exact Nat.le_refl _); (case rc2 => exact Nat.le_refl _)) | exact Nat.le_refl _); (case c2 => exact Nat.le_refl _)) | exact Nat.le_refl _); (case b3 => first | with_reducible assumption | (refine' Mine.le_app ?ra3 ?rb3 ?rc3; (case ra3 => first | with_reducible assumption | exact Nat.le_refl _); (case rb3 => first | with_reducible assumption | exact Nat.le_refl _); (case rc3 => exact Nat.le_refl _)) | exact Nat.le_refl _); (case c3 => decide)) | decide)); intro _ _)
  k_with "CompSrc" => (k_here; k_dflt (refine' LCg.CompSrc.ledger ?ka ?kb ?kc ?kd ?ke ?_; (case ka => rfl); (case kb => k_asm); (case kc => k_asm); (case kd => k_mem); (case ke => first | exact Nat.le_of_ble_eq_true rfl | exact Mine.strs_sz (by with_reducible assumption) (by with_reducible assumption) | exact Mine.strs_sz' (by with_reducible assumption) (by with_reducible assumption) | exact Mine.ints_sz' (by with_reducible assumption) (by with_reducible assumption) | (refine' Mine.strs_sz' ?sA ?sB; (case sA => (repeat (first | exact Mine.st_nil | apply Mine.st_cons | with_reducible assumption | apply Mine.strs_app))); (case sB => exact Nat.le_of_ble_eq_true rfl)) | size_fits)); intro g'; k_dflt (refine' Mine.comp_intsK ?mk ?hv ?hx ?hb ?hn ?hP (fun x₀ t₀ I₀ oI₀ C₀ oC₀ D₀ m₀' ys₀ h₀' tk₀ E₀ hx₀ hl₀ hC₀ hm₀ F₀ N₀ off₀ ne₀ => ?_) (fun ys₀ hy₀ hl₀ => ?_); (case mk => with_reducible assumption); (case hP => (intro i9 v9 e9; first | exact (List.getElem?_toArray).symm.trans e9 | exact Array.getElem?_toList.trans e9)); (case hv => (repeat (first | exact Mine.st_nil | apply Mine.st_cons | with_reducible assumption | apply Mine.strs_app))); (case hx => first | with_reducible assumption | exact Nat.le_of_ble_eq_true rfl); (case hb => with_reducible assumption); (case hn => first | rfl | exact List.size_toArray _ | simp)); (all_goals (try (simp only [LCg.Off3, and_true] at off₀))))
  k_with "And" => (k_here; (with_reducible show _ ∧ ∃ _, _); refine ⟨rfl, _, rfl⟩)
  k_with "CompSrc" => (k_here; k_dflt (refine' LCg.CompSrc.ledger ?ka ?kb ?kc ?kd ?ke ?_; (case ka => rfl); (case kb => k_asm); (case kc => k_asm); (case kd => k_mem); (case ke => first | exact Nat.le_of_ble_eq_true rfl | exact Mine.strs_sz (by with_reducible assumption) (by with_reducible assumption) | exact Mine.strs_sz' (by with_reducible assumption) (by with_reducible assumption) | exact Mine.ints_sz' (by with_reducible assumption) (by with_reducible assumption) | (refine' Mine.strs_sz' ?sA ?sB; (case sA => (repeat (first | exact Mine.st_nil | apply Mine.st_cons | with_reducible assumption | apply Mine.strs_app))); (case sB => exact Nat.le_of_ble_eq_true rfl)) | size_fits)); intro g'; k_dflt (refine' Mine.comp_strsK ?mk ?hv ?hx ?hb ?hn ?hP (fun x₀ t₀ I₀ oI₀ C₀ oC₀ D₀ m₀' ys₀ h₀' tk₀ E₀ hx₀ hl₀ hC₀ hm₀ F₀ N₀ off₀ ne₀ => ?_) (fun ys₀ hy₀ hl₀ => ?_); (case mk => with_reducible assumption); (case hP => (intro i9 v9 e9; first | exact (List.getElem?_toArray).symm.trans e9 | exact Array.getElem?_toList.trans e9)); (case hv => (repeat (first | exact Mine.st_nil | apply Mine.st_cons | with_reducible assumption | apply Mine.strs_app))); (case hx => first | with_reducible assumption | exact Nat.le_of_ble_eq_true rfl); (case hb => with_reducible assumption); (case hn => first | rfl | exact List.size_toArray _ | simp)); (all_goals (try (simp only [LCg.Off3, and_true] at off₀))))
  k_with "And" => (k_here; (with_reducible show _ ∧ ∃ _, _); refine ⟨rfl, _, rfl⟩)
  k_with "call builtin:list.index" => (k_here; k_dflt (show wpAny _ _ (call (Value.builtin "list.index") [Value.ref _, Value.str _ _]) _ _ _); k_dflt (refine' Mine.index_strs ?hl ?hi ?hb ?hk ?_; (case hl => is_list); (case hi => (repeat (first | exact Mine.st_nil | apply Mine.st_cons | with_reducible assumption | apply Mine.strs_app))); (case hb => exact Nat.le_of_ble_eq_true rfl); (case hk => with_reducible assumption)))
  k_with "And" => (k_here; (with_reducible show _ ∧ ∃ _, _); first | (with_reducible exact ⟨rfl, _, rfl⟩) | exact ⟨rfl, Mine.if_yes (by with_reducible assumption)⟩ | exact ⟨rfl, Mine.if_no (by with_reducible assumption)⟩)
  trivial
namespace Mine

set_option maxHeartbeats 4000000 in
theorem leads_ok {p : Program} {w : World} {lo : List Str} {mean : ExcName → Option Value} {mg mb : Str → Option Value} {dp un : Nat} {gd : Option (List Code)} {cn : Str} {cs : Scope} {a : Addr} {ccd : Value} {cl : List (Str × Addr)} {outer : List Env} {A₀ : Around} {base h₀ : Heap} {L : Addr} {m : Str → Option Value} {news : List (Addr × Obj)} {s : Shared} {Q E : Value → Shared → Prop} {x mk tl : Str} {tk tk2 tk3 : Tok} {ra : Addr} {rn : Nat} {r0 r1 r2 r3 r4 : Str} {u0 u1 u2 u3 u4 : Tok}
    (B : Below A₀ base outer h₀) (F : Fr h₀ L s.heap m) (X : (Mine.K w.params).In h₀) (N : News h₀ L s.heap ((ra, listOf [Value.str r0 u0, Value.str r1 u1, Value.str r2 u2, Value.str r3 u3, Value.str r4 u4].toArray rn) :: news)) (T : Top p lo mean mg mb h₀) (hk : cs.kind = .function) (hx : x.length ≤ 100) (hmk : mk.length ≤ 10) (hmk0 : mk.length ≠ 0) (htl : tl.length ≤ 10) (hr : ∀ r ∈ [r1, r2, r3, r4], r.length = 1) (hr1 : ∀ r ∈ [r1, r2, r3, r4], r.length ≤ 1) (hne : ∀ r ∈ [r1, r2, r3, r4], (Str.ofString "." ++ r == mk ++ r) = false) (hb2 : ∀ z ∈ (List.map (fun y => Txt.replace x (Str.ofString "." ++ y) (mk ++ y)) [r1, r2, r3, r4] ++ [x]), z.length ≤ 100) (hb3 : ∀ z ∈ (List.map (fun y => stripF (y ++ tl)) (List.map (fun y => Txt.replace x (Str.ofString "." ++ y) (mk ++ y)) [r1, r2, r3, r4] ++ [x])), z.length ≤ 110) (hd : dp + 4 < recursionLimit) (hu : un + 200 < cLine)
    (hret : ∀ (l' : Addr) (ys : List Value) (h' : Heap) (tk' : Nat), IntsAre ys (List.map (fun y => if ([r0, r1, r2, r3, r4].any fun z => z == y) = true then (([r0, r1, r2, r3, r4].idxOf y : Nat) : Int) else 9) (List.map (fun y => stripF (y ++ tl)) (List.map (fun y => Txt.replace x (Str.ofString "." ++ y) (mk ++ y)) [r1, r2, r3, r4] ++ [x]))) → Fr h₀ L h' m → News h₀ L h' ((l', LCg.lst ys) :: (ra, listOf [Value.str r0 u0, Value.str r1 u1, Value.str r2 u2, Value.str r3 u3, Value.str r4 u4].toArray rn) :: news) → (ra ≠ l' ∧ LCg.Off1 l' news) → Q (.ref l') { s with heap := h', toks := tk' }) :
    wpAny (model PySem.Challenge.rw_xl0024_01.prog w) (ktrTop dp un gd cn cs L a ccd cl outer) (call (.ref 191) [.str x tk, .ref ra, .str mk tk2, .str tl tk3]) Q E s := by
  revert X; k_fill; intro X
  have G3 : GKeyI (Str.ofString "name") (fun y => if ([r0, r1, r2, r3, r4].any fun z => z == y) = true then (([r0, r1, r2, r3, r4].idxOf y : Nat) : Int) else 9) := trivial
  have G2 : GKeyS (Str.ofString "one") (fun y => stripF (y ++ tl)) := trivial
  have G1 : GKeyS (Str.ofString "sign") (fun y => Txt.replace x (Str.ofString "." ++ y) (mk ++ y)) := trivial
  refine wpAny_call ?_
  k_dflt ((refine' code_defC ?k1 ?k2 ?k3 ?k4 ?k5 ?kA ?kF ?kK ?k6 ?k7 ?k8 ?k9 ?kB ?kD ?_ ?c2 ?c3 ?c4; (case kA => exact rfl); (case kF => exact rfl); (case kK => assumption); (case k1 => k_asm); (case k2 => k_asm); (case k3 => k_asm); (case k4 => k_asm); (case k5 => k_asm); (case k6 => k_is); (case k7 => k_is); (case k8 => ktr_room); (case k9 => exact BindsTo.of_eq rfl); (case kB => exact rfl); (case kD => decide +kernel); (case c2 => exact rfl); (case c3 => exact rfl); (case c4 => exact rfl); k_whole; intro g' L' h' tk' cells' FG' F' N' Y' B' X' T' l1; (try k_lt l1); k_cells Y'; (try simp only [List.cons_append, List.nil_append] at N'); (try dsimp only); (try k_lift B'); (try k_fold)); (try (rename (_ = Data.cell (some (Value.str x tk))) => hc0; replace hc0 : _ = Data.cell (some (Value.str x tk)) := hc0)); (try (rename (_ = Data.cell (some (Value.ref ra))) => hc1; replace hc1 : _ = Data.cell (some (Value.ref ra)) := hc1)); (try (rename (_ = Data.cell (some (Value.str mk tk2))) => hc2; replace hc2 : _ = Data.cell (some (Value.str mk tk2)) := hc2)); (try (rename (_ = Data.cell (some (Value.str tl tk3))) => hc3; replace hc3 : _ = Data.cell (some (Value.str tl tk3)) := hc3)))
  k_steps
  all_goals (refine' hret _ _ _ _ ?e1 ?e2 ?e3 ?e4; (case e1 => with_reducible assumption); (case e2 => k_asm); (case e3 => refine' cb_drop ?cbN ?cbS; (case cbN => with_reducible assumption); (case cbS => (refine Mine.sub_keep ?_; (repeat (first | with_reducible exact Mine.sub_refl | with_reducible refine Mine.sub_cons ?_))))); (case e4 => first | with_reducible assumption | with_reducible exact And.right (by assumption) | with_reducible exact And.right (And.right (by assumption)) | with_reducible exact And.right (And.right (And.right (by assumption))) | with_reducible exact And.right (And.right (And.right (And.right (by assumption)))) | with_reducible exact And.right (And.right (And.right (And.right (And.right (by assumption))))) | with_reducible exact And.right (And.right (And.right (And.right (And.right (And.right (by assumption)))))) | with_reducible exact And.right (And.right (And.right (And.right (And.right (And.right (And.right (by assumption))))))) | with_reducible exact And.right (And.right (And.right (And.right (And.right (And.right (And.right (And.right (by assumption)))))))) | with_reducible exact And.right (And.right (And.right (And.right (And.right (And.right (And.right (And.right (And.right (by assumption))))))))) | with_reducible exact And.right (And.right (And.right (And.right (And.right (And.right (And.right (And.right (And.right (And.right (by assumption)))))))))) | with_reducible exact And.right (And.right (And.right (And.right (And.right (And.right (And.right (And.right (And.right (And.right (And.right (by assumption))))))))))) | with_reducible exact And.right (And.right (And.right (And.right (And.right (And.right (And.right (And.right (And.right (And.right (And.right (And.right (by assumption)))))))))))) | with_reducible exact And.right (And.right (And.right (And.right (And.right (And.right (And.right (And.right (And.right (And.right (And.right (And.right (And.right (by assumption))))))))))))) | with_reducible exact And.right (And.right (And.right (And.right (And.right (And.right (And.right (And.right (And.right (And.right (And.right (And.right (And.right (And.right (by assumption)))))))))))))) | with_reducible exact And.right (And.right (And.right (And.right (And.right (And.right (And.right (And.right (And.right (And.right (And.right (And.right (And.right (And.right (And.right (by assumption)))))))))))))))))

end Mine

theorem Mine.rows_S14_end : True := by
  k_with_none
  trivial
end
section
open PySem PySem.W PySem.Calls PyProof.Rows Builtin
set_option maxRecDepth 100000
set_option maxHeartbeats 4000000
namespace Mine
/-- the state of a frame: the ground, the locals, a ledger whose addresses differ -/
structure St (h₀ : Heap) (L : Addr) (m : Str → Option Value) (news : List (Addr × Obj)) (h : Heap) : Prop where
  F : Fr h₀ L h m
  N : News h₀ L h news
  D : news.Pairwise fun p q => p.1 ≠ q.1
/-- the entry of one address is changed -/
inductive At (x : Addr) (o o' : Obj) : List (Addr × Obj) → List (Addr × Obj) → Prop
  | head {r} : At x o o' ((x, o) :: r) ((x, o') :: r)
  | tail {p r r'} : At x o o' r r' → At x o o' (p :: r) (p :: r')
/-- an entry is taken out -/
inductive Del {α : Type} (a : α) : List α → List α → Prop
  | here {l} : Del a (a :: l) l
  | there {b l l'} : Del a l l' → Del a (b :: l) (b :: l')
/-- a choice of entries, none twice -/
inductive Pick {α : Type} : List α → List α → Prop
  | nil {l} : Pick [] l
  | all {l} : Pick l l
  | drop {a r l} : Pick r l → Pick r (a :: l)
  | cons {a r l l'} : Del a l l' → Pick r l' → Pick (a :: r) l
theorem At.mem {x : Addr} {o o' : Obj} {l l' : List (Addr × Obj)} (h : At x o o' l l') : (x, o) ∈ l := by
  induction h with
  | head => exact .head _
  | tail _ ih => exact .tail _ ih
theorem At.upd {x : Addr} {o o' : Obj} {l l' : List (Addr × Obj)} (h : At x o o' l l') : (l.Pairwise fun p q => p.1 ≠ q.1) → Upd x o o' l l' := by
  induction h with
  | head => exact fun d => .head fun p hp e => (List.pairwise_cons.mp d).1 p hp e.symm
  | tail r ih => exact fun d => .tail ((List.pairwise_cons.mp d).1 _ r.mem) (ih (List.pairwise_cons.mp d).2)
theorem At.fst {x : Addr} {o o' : Obj} {l l' : List (Addr × Obj)} (h : At x o o' l l') : ∀ p ∈ l', ∃ q ∈ l, q.1 = p.1 := by
  induction h with
  | head =>
    intro p hp
    rcases List.mem_cons.mp hp with e | hp
    · exact ⟨_, .head _, by rw [e]⟩
    · exact ⟨p, .tail _ hp, rfl⟩
  | tail r ih =>
    intro p hp
    rcases List.mem_cons.mp hp with e | hp
    · exact ⟨_, .head _, by rw [e]⟩
    · exact (ih p hp).elim fun q h => ⟨q, .tail _ h.1, h.2⟩
theorem At.pair {x : Addr} {o o' : Obj} {l l' : List (Addr × Obj)} (h : At x o o' l l') : (l.Pairwise fun p q => p.1 ≠ q.1) → l'.Pairwise fun p q => p.1 ≠ q.1 := by
  induction h with
  | head => exact fun d => List.pairwise_cons.mpr ⟨fun p hp => (List.pairwise_cons.mp d).1 p hp, (List.pairwise_cons.mp d).2⟩
  | tail r ih => exact fun d => List.pairwise_cons.mpr ⟨fun p hp => (r.fst p hp).elim fun q h => h.2 ▸ (List.pairwise_cons.mp d).1 q h.1, ih (List.pairwise_cons.mp d).2⟩
theorem Del.perm {α : Type} {a : α} {l l' : List α} (h : Del a l l') : l.Perm (a :: l') := by
  induction h with
  | here => exact .refl _
  | there _ ih => exact (List.Perm.cons _ ih).trans (List.Perm.swap a _ _)
theorem Pick.mem {α : Type} {r l : List α} (h : Pick r l) : ∀ p ∈ r, p ∈ l := by
  induction h with
  | nil => exact fun _ h => nomatch h
  | all => exact fun _ h => h
  | drop _ ih => exact fun p h => .tail _ (ih p h)
  | cons d _ ih =>
    intro p h
    rcases List.mem_cons.mp h with e | h
    · exact d.perm.mem_iff.mpr (e ▸ .head _)
    · exact d.perm.mem_iff.mpr (.tail _ (ih p h))
theorem Pick.pair {r l : List (Addr × Obj)} (k : Pick r l) (d : l.Pairwise fun p q => p.1 ≠ q.1) : r.Pairwise fun p q => p.1 ≠ q.1 := by
  induction k with
  | nil => exact .nil
  | all => exact d
  | drop k ih => exact ih (List.pairwise_cons.mp d).2
  | cons e k ih =>
    have d' := (List.Perm.pairwise_iff (fun {x y} (h : x.1 ≠ y.1) => Ne.symm h) e.perm).mp d
    have d2 := List.pairwise_cons.mp d'
    exact List.pairwise_cons.mpr ⟨fun p hp => d2.1 p (k.mem p hp), ih d2.2⟩
namespace St
variable {h₀ h h' : Heap} {L x T : Addr} {m m' : Str → Option Value} {news news' : List (Addr × Obj)} {o o' : Obj}
theorem get (S : St h₀ L m news h) (hm : (x, o) ∈ news) : h.get? x = some o := (S.N _ hm).1
theorem all (S : St h₀ L m news h) (k : ∀ b q, h.get? b = some q → h'.get? b = some q) : St h₀ L m news h' := ⟨fr_all S.F k, news_all S.N k, S.D⟩
theorem new (S : St h₀ L m news h) (k : ∀ b q, h.get? b = some q → h'.get? b = some q) (hT : h.get? T = none) (e : h'.get? T = some o) : St h₀ L m ((T, o) :: news) h' :=
  ⟨fr_all S.F k, led_new S.F (news_all S.N k) hT e, List.pairwise_cons.mpr ⟨fun p hp => Ne.symm (led_off S.N hT p hp), S.D⟩⟩
theorem push (S : St h₀ L m news h) (o : Obj) (hf : o.isFreed = false := by rfl) : St h₀ L m ((h.objs.size, o) :: news) (h.push o) :=
  ⟨S.F.push o, S.N.push S.F o hf, List.pairwise_cons.mpr ⟨fun p hp => Nat.ne_of_gt (Heap.lt_size (S.N p hp).1), S.D⟩⟩
theorem upd (S : St h₀ L m news h) (U : At x o o' news news') (k : ∀ b q, b ≠ x → h.get? b = some q → h'.get? b = some q) (e : h'.get? x = some o') : St h₀ L m news' h' :=
  let z := led_upd S.F S.N (U.upd S.D) k e
  ⟨z.1, z.2, U.pair S.D⟩
theorem same (S : St h₀ L m news h) (U : At x o o' news news') (k : Heap.SameBut x h h') (e : h'.get? x = some o') : St h₀ L m news' h' := S.upd U (fun b q hb e' => (k.2 b hb).trans e') e
theorem pick (S : St h₀ L m news h) (k : Pick news' news) : St h₀ L m news' h := ⟨S.F, fun p hp => S.N p (k.mem p hp), k.pair S.D⟩
theorem sub (S : St h₀ L m news h) (k : news'.Sublist news) : St h₀ L m news' h := ⟨S.F, fun p hp => S.N p (k.subset hp), S.D.sublist k⟩
theorem perm (S : St h₀ L m news h) (k : news.Perm news') : St h₀ L m news' h := ⟨S.F, fun p hp => S.N p (k.mem_iff.mpr hp), (List.Perm.pairwise_iff (fun {x y} (h : x.1 ≠ y.1) => Ne.symm h) k).mp S.D⟩
theorem loc (S : St h₀ L m news h) (hn : h'.Ns L m') (k : Heap.SameBut L h h') : St h₀ L m' news h' := ⟨S.F.set hn k, S.N.set k, S.D⟩
theorem loc' (S : St h₀ L m news h) (hn : h'.Ns L m') (k : ∀ b q, b ≠ L → h.get? b = some q → h'.get? b = some q) : St h₀ L m' news h' :=
  ⟨⟨hn, fun b q e => k b q (Nat.ne_of_lt (Nat.lt_of_lt_of_le (Heap.lt_size e) S.F.above)) (S.F.keep b q e), S.F.above⟩, fun p hp => ⟨k _ _ (S.N p hp).2.1 (S.N p hp).1, (S.N p hp).2⟩, S.D⟩
theorem lt (S : St h₀ L m news h) (hm : (x, o) ∈ news) : x < h.objs.size := Heap.lt_size (S.get hm)
theorem ne (S : St h₀ L m ((x, o) :: news) h) : ∀ p ∈ news, p.1 ≠ x := fun p hp e => (List.pairwise_cons.mp S.D).1 p hp e.symm
/-- a kit's contract gives back the ledger with one entry more -/
theorem of (S : St h₀ L m news h) (F : Fr h₀ L h' m') (N : News h₀ L h' ((T, o) :: news)) (off : ∀ p ∈ news, p.1 ≠ T) : St h₀ L m' ((T, o) :: news) h' :=
  ⟨F, N, List.pairwise_cons.mpr ⟨fun p hp => Ne.symm (off p hp), S.D⟩⟩
theorem of0 (S : St h₀ L m news h) (F : Fr h₀ L h' m') (N : News h₀ L h' news) : St h₀ L m' news h' := ⟨F, N, S.D⟩
end St
theorem off1_all {D : Addr} : ∀ {l : List (Addr × Obj)}, LCg.Off1 D l → ∀ p ∈ l, p.1 ≠ D
  | [], _, _, h => nomatch h
  | _ :: _, x, p, h => by
    rcases List.mem_cons.mp h with rfl | h
    · exact x.1
    · exact off1_all x.2 p h
/-- inside a comprehension's turn -/
theorem St.turn {h₀ h : Heap} {L I C D : Addr} {m : Str → Option Value} {news : List (Addr × Obj)} {a b c : Obj} (F : Fr h₀ L h m) (N : News h₀ L h ((I, a) :: (C, b) :: (D, c) :: news)) (dn : news.Pairwise fun p q => p.1 ≠ q.1) (off : LCg.Off3 I C D news) (ne : (@Ne Nat I C) ∧ (@Ne Nat I D) ∧ (@Ne Nat C D)) :
    St h₀ L m ((I, a) :: (C, b) :: (D, c) :: news) h := by
  have o := off.mem
  refine ⟨F, N, List.pairwise_cons.mpr ⟨fun p hp => ?_, List.pairwise_cons.mpr ⟨fun p hp => ?_, List.pairwise_cons.mpr ⟨fun p hp => Ne.symm (o p hp).2.2, dn⟩⟩⟩⟩
  · rcases List.mem_cons.mp hp with rfl | hp
    · exact ne.1
    · rcases List.mem_cons.mp hp with rfl | hp
      · exact ne.2.1
      · exact Ne.symm (o p hp).1
  · rcases List.mem_cons.mp hp with rfl | hp
    · exact ne.2.2
    · exact Ne.symm (o p hp).2.1
/-- the end of a comprehension's turn -/
theorem St.end' {h₀ h' : Heap} {L I C D : Addr} {m : Str → Option Value} {s₁ : Shared} {oI oC oD : Obj} {S : List (Addr × Obj) → Prop} {rest : Value → List (Addr × Obj) → Prop} {y : Value} {tk : Nat} {news' : List (Addr × Obj)}
    (X : St h₀ L m ((I, oI) :: (C, oC) :: (D, oD) :: news') h') (hS : S news') (r : rest y news') : LCg.CompEnd h₀ L m s₁ I oI C oC D oD S rest y { s₁ with heap := h', toks := tk } := by
  have d := List.pairwise_cons.mp X.D
  have d2 := List.pairwise_cons.mp d.2
  have d3 := List.pairwise_cons.mp d2.2
  exact ⟨h', tk, news', rfl, X.F, X.N, LCg.Off3.of fun p hp => ⟨Ne.symm (d.1 p (.tail _ (.tail _ hp))), Ne.symm (d2.1 p (.tail _ hp)), Ne.symm (d3.1 p hp)⟩, hS, r⟩
end Mine
end
section
open PySem PySem.W PySem.Calls PyProof.Rows Builtin
set_option maxRecDepth 100000
set_option maxHeartbeats 4000000
namespace Mine
section
variable {prog : Program} {w : World} {A : Around} {E : Value → Shared → Prop} {s : Shared} {env : Env} {target iter : Expr} {pos : Pos} {body : List Stmt} {Q : Flow → Shared → Prop} {h₀ : Heap} {L : Addr}
/-- the end of a turn -/
inductive TurnEnd (h₀ : Heap) (L I : Addr) (oI : Obj) (J : (Str → Option Value) → List (Addr × Obj) → Shared → Prop) (S : List (Addr × Obj) → Prop) (s₃ : Shared) : Prop
  | mk (m' : Str → Option Value) (news' : List (Addr × Obj)) (st : St h₀ L m' ((I, oI) :: news') s₃.heap) (j : J m' news' s₃) (src : S news') : TurnEnd h₀ L I oI J S s₃
/-- what a loop needs once its source stands: J holds between the turns -/
structure ForGo (prog : Program) (w : World) (A : Around) (env : Env) (target : Expr) (body : List Stmt) (h₀ : Heap) (L : Addr) (n : Nat) (P : Nat → Value → Prop) (S : List (Addr × Obj) → Prop) (Q : Flow → Shared → Prop)
    (J : Nat → (Str → Option Value) → List (Addr × Obj) → Shared → Prop) (m : Str → Option Value) (news : List (Addr × Obj)) (s₁ : Shared) : Prop where
  st : St h₀ L m news s₁.heap
  src : S news
  init : ∀ g, J 0 m news { s₁ with heap := g }
  turn : ∀ i v m news t tk I oI, i < n → P i v → J i m news t → S news → St h₀ L m ((I, oI) :: news) t.heap → oI.cls ≠ .type "tuple" → ∀ E', wpAny (model prog w) A (assign target env v) (fun _ s₂ => wpAny (model prog w) A (execs body env) (fun f s₃ => match f with
      | .next | .cont => TurnEnd h₀ L I oI (J (i + 1)) S s₃
      | .brk => Q .next s₃
      | .ret v => Q (.ret v) s₃) E' s₂) E' { t with toks := tk }
  done : ∀ m news t tk, J n m news t → St h₀ L m news t.heap → Q .next { t with toks := tk }
theorem St.but {h h' : Heap} {I : Addr} {o : Obj} {m : Str → Option Value} {news : List (Addr × Obj)} (S : St h₀ L m ((I, o) :: news) h) (k : ∀ b q, b ≠ I → h.get? b = some q → h'.get? b = some q) : St h₀ L m news h' := by
  have z := S.N _ (.head _)
  refine ⟨⟨S.F.ns.at' fun q e => k _ q (Ne.symm z.2.1) e, fun b q e => k b q (fun hb => by rw [hb, z.2.2] at e; cases e) (S.F.keep b q e), S.F.above⟩, fun p hp => ?_, (List.pairwise_cons.mp S.D).2⟩
  have y := S.N p (.tail _ hp)
  exact ⟨k _ _ (S.ne p hp) y.1, y.2⟩
theorem for_walk {s₁ s₂ : Shared} {I : Addr} {fp : List Addr} {n : Nat} {P : Nat → Value → Prop} {Sg : Nat → Heap → Prop} {S : List (Addr × Obj) → Prop} {J : Nat → (Str → Option Value) → List (Addr × Obj) → Shared → Prop} {m : Str → Option Value} {news : List (Addr × Obj)}
    (W : Walks prog w A I fp [I] n P Sg) (hIo : ∀ i h, Sg i h → ∃ o, h.get? I = some o ∧ o.cls ≠ .type "tuple")
    (hSt : ∀ i h h' o nw, Sg i h → h.get? I = some o → h'.get? I = some o → (∀ b o, h₀.get? b = some o → h'.get? b = some o) → News h₀ L h' nw → S nw → Sg i h')
    (G : ForGo prog w A env target body h₀ L n P S Q J m news s₁) (e2 : ∃ o, o.isFreed = false ∧ s₂ = { s₁ with heap := s₁.heap.push o }) (hI : I = s₁.heap.objs.size) (st0 : Sg 0 s₂.heap) (hJ : ∀ i m news t g tk, J i m news t → J i m news { t with heap := g, toks := tk })
    (hgo : ∀ i v s' (Q' : Unit → Shared → Prop) (E' : Value → Shared → Prop), Sg i s'.heap → Q' () s' → wpAny (model prog w) A (letOwnedTupleGo target (.ref I) v) Q' E' s') :
    codeAny (model prog w) A (.forLoop target (.ref I) body [] env) (fun r s' => match r with | .ok f => Q f s' | .error e => cameBackBy (model prog w) A env E e s') s₂ := by
  obtain ⟨o0, hf0, rfl⟩ := e2
  subst hI
  have S0 := G.st.push o0 hf0
  refine codeAny_forLoop_any (fun k t => ∃ i m news, k = n - i ∧ i ≤ n ∧ (∃ oI, St h₀ L m ((s₁.heap.objs.size, oI) :: news) t.heap) ∧ Sg i t.heap ∧ S news ∧ J i m news t) ?_ n ⟨0, m, news, rfl, Nat.zero_le _, ⟨_, S0⟩, st0, G.src, G.init _⟩
  rintro k t ⟨i, m, news, rfl, hi, ⟨oI, S1⟩, sg, src, hj⟩
  by_cases hlt : i < n
  · refine W.item i t _ _ hlt sg fun v h' tk hP sg' hk => ?_
    obtain ⟨oI', eI, cI⟩ := hIo _ _ sg'
    have S2 : St h₀ L m ((s₁.heap.objs.size, oI') :: news) h' := S1.upd .head (fun b q hb e => hk b q (by simpa using hb) e) eI
    refine hgo (i + 1) v _ _ _ sg' ?_
    refine wpAny_mono (G.turn i v m news { t with heap := h' } tk _ oI' hlt hP (hJ i m news t h' t.toks hj) src S2 cI _) (fun _ s₂ h₂ => wpAny_mono h₂ (fun f s₃ h₃ => ?_) fun _ _ e => e) fun _ _ e => e
    cases f with
    | ret v => exact h₃
    | brk => exact h₃
    | cont =>
      obtain ⟨m', news', S3, hj', src'⟩ := h₃
      exact ⟨n - (i + 1), by omega, i + 1, m', news', rfl, hlt, ⟨oI', S3⟩, hSt _ _ _ _ _ sg' eI (S3.get (.head _)) S3.F.keep (fun p hp => S3.N p (.tail _ hp)) src', src', hj'⟩
    | next =>
      obtain ⟨m', news', S3, hj', src'⟩ := h₃
      exact ⟨n - (i + 1), by omega, i + 1, m', news', rfl, hlt, ⟨oI', S3⟩, hSt _ _ _ _ _ sg' eI (S3.get (.head _)) S3.F.keep (fun p hp => S3.N p (.tail _ hp)) src', src', hj'⟩
  · have hin : i = n := by omega
    subst hin
    refine W.done t _ _ sg fun h' tk hk => ?_
    exact wpAny_execs_nil (G.done m news { t with heap := h' } tk (hJ _ _ _ _ _ t.toks hj) (S1.but fun b q hb e => hk b q (by simpa using hb) e))
theorem letGo_listiter {E : Value → Shared → Prop} {target : PySem.Expr} {I l : Addr} {i : Nat} {v : Value} {Q' : Unit → Shared → Prop} {s' : Shared} (hit : s'.heap.IsListIter I l i) (h : Q' () s') :
    wpAny (model prog w) A (letOwnedTupleGo target (.ref I) v) Q' E s' := by
  obtain ⟨o, ho, hc, hd⟩ := hit
  unfold letOwnedTupleGo
  cases target <;> first
    | exact wpAny_pure h
    | (cases v <;> first
        | exact wpAny_pure h
        | (refine wpAny_bind (wpAny_load ho ?_)
           rw [hc, hd]
           exact wpAny_pure h))
inductive ListGo (prog : Program) (w : World) (A : Around) (env : Env) (target : Expr) (body : List Stmt) (h₀ : Heap) (L : Addr) (Q : Flow → Shared → Prop) (J : Nat → (Str → Option Value) → List (Addr × Obj) → Shared → Prop) (v : Value) (s₁ : Shared) : Prop
  | mk (l : Addr) (its : Array Value) (m : Str → Option Value) (news : List (Addr × Obj)) (e : v = .ref l) (G : ForGo prog w A env target body h₀ L its.size (fun i v => its[i]? = some v) (LCg.SrcAt h₀ l its) Q J m news s₁) : ListGo prog w A env target body h₀ L Q J v s₁
inductive RangeGo (prog : Program) (w : World) (A : Around) (env : Env) (target : Expr) (body : List Stmt) (h₀ : Heap) (L : Addr) (Q : Flow → Shared → Prop) (J : Nat → (Str → Option Value) → List (Addr × Obj) → Shared → Prop) (x : Value) (s₁ : Shared) : Prop
  | mk (r : Addr) (a b : Int) (t u v : Tok) (n : Nat) (m : Str → Option Value) (news : List (Addr × Obj)) (e : x = .ref r) (hr : IsRange s₁.heap r a b 1 t u v) (hsm : Builtin.Range.small a b 1 = true) (hn : Builtin.Range.rangeSize a b 1 = ((n : Nat) : Int)) (G : ForGo prog w A env target body h₀ L n (fun i v => ∃ t, v = .int (a + (i : Int)) t) (fun _ => True) Q J m news s₁) : RangeGo prog w A env target body h₀ L Q J x s₁
/-- a loop over a list -/
theorem for_St_list {J : Nat → (Str → Option Value) → List (Addr × Obj) → Shared → Prop} (hh : A.handled = none) (hJ : ∀ i m news t g tk, J i m news t → J i m news { t with heap := g, toks := tk }) (hs : ∀ x, foldedSetIterable iter env x = pure x)
    (h : wpAny (model prog w) A (eval iter env) (fun v s₁ => ListGo prog w A env target body h₀ L Q J v s₁) E s) :
    wpAny (model prog w) A (exec (.For target iter body [] pos) env) Q E s := by
  refine wpAny_For (wpAny_mono h (fun v s₁ h₁ => ?_) fun _ _ e => e) hs
  obtain ⟨l, its, m, news, rfl, G⟩ := h₁
  have hl := G.src.list G.st.F.keep G.st.N
  have hlt : l < s₁.heap.objs.size := by obtain ⟨_, e, _⟩ := hl; exact Heap.lt_size e
  refine wpAny_pyIter_list hl ?_
  exact for_walk (Walks.list hh s₁.heap.objs.size l (Nat.ne_of_lt hlt) its) (fun i h st => by obtain ⟨o, e, hc, _⟩ := st.1; exact ⟨o, e, by rw [hc]; decide⟩) LCg.list_st G ⟨_, rfl, rfl⟩ rfl ⟨⟨_, Heap.get?_push_size _ rfl, rfl, rfl⟩, hl.push _⟩ hJ fun i v s' Q' E' sg q => letGo_listiter sg.1 q
/-- a loop over a range -/
theorem for_St_range {J : Nat → (Str → Option Value) → List (Addr × Obj) → Shared → Prop} (hh : A.handled = none) (hJ : ∀ i m news t g tk, J i m news t → J i m news { t with heap := g, toks := tk }) (hgo : ∀ it r, letOwnedTupleGo target it r = pure ()) (hs : ∀ x, foldedSetIterable iter env x = pure x)
    (h : wpAny (model prog w) A (eval iter env) (fun x s₁ => RangeGo prog w A env target body h₀ L Q J x s₁) E s) :
    wpAny (model prog w) A (exec (.For target iter body [] pos) env) Q E s := by
  refine wpAny_For (wpAny_mono h (fun v s₁ h₁ => ?_) fun _ _ e => e) hs
  obtain ⟨r, a, b, t, u, v, n, m, news, rfl, hr, hsm, hn, G⟩ := h₁
  refine wpAny_pyIter_range hr hsm ?_
  exact for_walk (LCg.range_walks hh a n) (fun i h st => ⟨_, st, (by decide : Value.type "range_iterator" ≠ .type "tuple")⟩) LCg.range_st G ⟨_, rfl, rfl⟩ rfl (by show IsRangeIter _ _ _ _ _; rw [hn]; simpa using Heap.get?_push_size _ rfl) hJ fun i v s' Q' E' _ q => wpAny_of_eq (hgo _ _) q
end
end Mine
end
section
open PySem PySem.W PySem.Calls PyProof.Rows Builtin
set_option maxRecDepth 100000
set_option maxHeartbeats 4000000
namespace Mine
/-- the pieces of a pile: refs of tuples of two strs each, in the ledger -/
inductive Pcs (news : List (Addr × Obj)) : List Value → List (Str × Str) → Prop
  | nil : Pcs news [] []
  | cons {T : Addr} {a b : Str} {ta tb : Tok} {vs ps} : (T, tupO a ta b tb) ∈ news → Pcs news vs ps → Pcs news (.ref T :: vs) ((a, b) :: ps)
namespace Pcs
variable {news news' : List (Addr × Obj)} {vs ws : List Value} {ps qs : List (Str × Str)}
theorem mono (h : Pcs news vs ps) (k : ∀ T a ta b tb, (T, tupO a ta b tb) ∈ news → (T, tupO a ta b tb) ∈ news') : Pcs news' vs ps := by
  induction h with
  | nil => exact .nil
  | cons hm _ ih => exact .cons (k _ _ _ _ _ hm) ih
theorem app (h : Pcs news vs ps) (k : Pcs news ws qs) : Pcs news (vs ++ ws) (ps ++ qs) := by
  induction h with
  | nil => exact k
  | cons hm _ ih => exact .cons hm ih
theorem len (h : Pcs news vs ps) : vs.length = ps.length := by
  induction h with
  | nil => rfl
  | cons hm _ ih => simp [ih]
theorem take (h : Pcs news vs ps) : ∀ n, Pcs news (vs.take n) (ps.take n) := by
  induction h with
  | nil => intro n; simp only [List.take_nil]; exact .nil
  | cons hm _ ih =>
    intro n
    cases n with
    | zero => exact .nil
    | succ n => exact .cons hm (ih n)
theorem drop (h : Pcs news vs ps) : ∀ n, Pcs news (vs.drop n) (ps.drop n) := by
  induction h with
  | nil => intro n; simp only [List.drop_nil]; exact .nil
  | cons hm r ih =>
    intro n
    cases n with
    | zero => exact .cons hm r
    | succ n => exact ih n
theorem at' (h : Pcs news vs ps) : ∀ (i : Nat) (v : Value), vs[i]? = some v → ∃ T a b ta tb, v = .ref T ∧ ps[i]? = some (a, b) ∧ (T, tupO a ta b tb) ∈ news := by
  induction h with
  | nil => intro i v e; simp at e
  | cons hm r ih =>
    intro i v e
    cases i with
    | zero => cases e; exact ⟨_, _, _, _, _, rfl, rfl, hm⟩
    | succ i => exact ih i v (by simpa using e)
end Pcs
noncomputable def forBody : Stmt → List Stmt
  | .For _ _ b _ _ => b
  | _ => []
noncomputable def fstSt : List Stmt → Stmt
  | s :: _ => s
  | [] => .Pass ⟨0, 0, 0, 0⟩
/-- the element of the comprehension that a statement assigns -/
noncomputable def asgElt : Stmt → PySem.Expr
  | .Assign _ (.ListComp e _ _ _) _ => e
  | _ => .Constant .none 0 ⟨0, 0, 0, 0⟩
/-- the parts of _law_exchange -/
noncomputable def stOuter : Stmt := fstSt (f227.b.drop 2)
noncomputable def stInner : Stmt := fstSt (forBody stOuter)
noncomputable def stPush : Stmt := fstSt (forBody stInner)
noncomputable def eltPop : PySem.Expr := asgElt (fstSt f227.b)
section
variable {prog : Program} {w : World} {A : Around} {h₀ : Heap} {L : Addr} {m : Str → Option Value} {env : Env} {scope : Scope} {cl : List (Str × Addr)} {s : Shared} {P : Nat → Value → Prop} {Fin : List Value → List (Addr × Obj) → Prop} {news : List (Addr × Obj)} {x dx c ax : Addr} {its src : Array Value} {n ns : Nat}
/-- pile.pop_from(cut), one turn of the comprehension -/
theorem ex_pop {k : Int} {tk tv : Tok} {i j q : Nat} {ys : List Value} {nx : Nat → List (Addr × Obj)} {oc : Obj} (X₀ : (K w.params).In h₀) (hlim : h₀.NoLimit) (dn : news.Pairwise fun p q => p.1 ≠ q.1) (hroom : A.depth + 4 < recursionLimit)
    (mc : (c, oc) ∈ news) (hoc : oc.data = .cell (some (.ref x))) (md : (dx, dictOf (sizeEs w.params k tk tv) 1) ∈ news) (U : ∀ n', At x (pileO dx its n) (pileO dx (its.toList.take q).toArray n') news (nx n')) (hq : q ≤ its.size) (hz : its.size ≤ 1000)
    (hsrc : ∀ n', ∃ n₂, (ax, listOf src n₂) ∈ nx n') (hv : ∀ v, P i v → ∃ t, v = .int (q : Int) t)
    (ek : ∀ C, (compEnvC scope cl C env).scope.kind = .function) (ec : ∀ C, (compEnvC scope cl C env).kindOf (Str.ofString "cut") = some .local) (ep : ∀ C, (compEnvC scope cl C env).kindOf (Str.ofString "pile") = some .cell) (el : cl.lookup (Str.ofString "pile") = some c)
    (next : ∀ l n', ((l, listOf (its.toList.drop q).toArray 0) :: nx n').Pairwise (fun p q => p.1 ≠ q.1) → LCg.CompRest prog w A h₀ L m env eltPop (Str.ofString "cut") scope cl s (LCg.SrcAt h₀ ax src) P Fin j (i + 1) (ys ++ [.ref l]) ((l, listOf (its.toList.drop q).toArray 0) :: nx n')) :
    LCg.CompRest prog w A h₀ L m env eltPop (Str.ofString "cut") scope cl s (LCg.SrcAt h₀ ax src) P Fin (j + 1) i ys news := by
  refine LCg.CompRest.succ ?_
  intro v I oI C oC D m₂ h tk2 E' hPv hC hx F N off ne
  obtain ⟨t, rfl⟩ := hv v hPv
  have S0 := St.turn F N dn off ne
  have mx := (U 0).mem
  have nC := hC.ns (S0.get (.tail _ (.head _)))
  have Xt := X₀.keeps F.keep
  refine MethodCall_ ?_ rfl
  refine wpAny_Name (wpAny_loadName_cell (ek C) (ep C) el ⟨_, S0.get (.tail _ (.tail _ (.tail _ mc))), hoc⟩ ?_) (by decide)
  refine pile_gm (f := .ref 77) (T := "function") Xt ⟨S0.get (.tail _ (.tail _ (.tail _ mx))), rfl, rfl, S0.get (.tail _ (.tail _ (.tail _ md)))⟩ (by kernel_rfl) (by kernel_rfl) (by decide) rfl ?_
  refine callWith_K (K := K w.params) (h₀ := h) Xt (by kernel_rfl) ?_
  refine Calls.spliced_cons (load_local (ek C) (ec C) nC hx (by decide) (Calls.spliced_nil ⟨Xt, ?_⟩))
  refine pop_from_ok hroom Xt (hlim.keeps F.keep) (led_K X₀ N (.tail _ (.tail _ (.tail _ mx)))) (led_K X₀ N (.tail _ (.tail _ (.tail _ md)))) (S0.get (.tail _ (.tail _ (.tail _ mx)))) (S0.get (.tail _ (.tail _ (.tail _ md)))) hz hq fun h' tk' l n' keep fresh hl hx' => ?_
  have S1 := S0.upd (.tail (.tail (.tail (U n')))) keep hx'
  have S2 : St h₀ L m ((l, listOf (its.toList.drop q).toArray 0) :: (I, oI) :: (C, oC) :: (D, LCg.lst ys) :: nx n') h' := by
    refine ⟨S1.F, ?_, ?_⟩
    · exact led_new S0.F S1.N fresh hl
    · refine List.pairwise_cons.mpr ⟨fun p hp => ?_, S1.D⟩
      obtain ⟨p', hp', e⟩ := (At.tail (.tail (.tail (U n')))).fst p hp
      have := led_off S0.N fresh p' hp'
      rw [e] at this
      exact Ne.symm this
  have S3 : St h₀ L m ((I, oI) :: (C, oC) :: (D, LCg.lst ys) :: (l, listOf (its.toList.drop q).toArray 0) :: nx n') h' := S2.pick (.cons (.there .here) (.cons (.there .here) (.cons (.there .here) .all)))
  obtain ⟨n₂, hs⟩ := hsrc n'
  refine S3.end' (.inr ⟨_, .tail _ hs, rfl, _, rfl⟩) (next l n' ?_)
  exact (List.pairwise_cons.mp (List.pairwise_cons.mp (List.pairwise_cons.mp S3.D).2).2).2
end
theorem At.keep {x y : Addr} {o o' q : Obj} {l l' : List (Addr × Obj)} (U : At x o o' l l') : (y, q) ∈ l → q ≠ o → (y, q) ∈ l' := by
  induction U with
  | head =>
    intro h ne
    rcases List.mem_cons.mp h with e | h
    · exact absurd (Prod.mk.inj e).2 ne
    · exact .tail _ h
  | tail _ ih =>
    intro h ne
    rcases List.mem_cons.mp h with e | h
    · exact e ▸ .head _
    · exact .tail _ (ih h ne)
theorem At.trans {x : Addr} {o o' o2 : Obj} {l l' l2 : List (Addr × Obj)} (U : At x o o' l l') : At x o o2 l l2 → (l.Pairwise fun p q => p.1 ≠ q.1) → At x o' o2 l' l2 := by
  induction U generalizing l2 with
  | head =>
    intro V d
    cases V with
    | head => exact .head
    | tail r => exact absurd rfl ((List.pairwise_cons.mp d).1 _ r.mem)
  | tail r ih =>
    intro V d
    cases V with
    | head => exact absurd rfl ((List.pairwise_cons.mp d).1 _ r.mem)
    | tail q => exact .tail (ih q (List.pairwise_cons.mp d).2)
end Mine
end
section
open PySem PySem.W PySem.Calls PyProof.Rows Builtin
set_option maxRecDepth 100000
set_option maxHeartbeats 4000000
namespace Mine
theorem At.app {x : Addr} {o o' : Obj} {l l' : List (Addr × Obj)} (h : At x o o' l l') : ∀ tl : List (Addr × Obj), At x o o' (tl ++ l) (tl ++ l')
  | [] => h
  | _ :: tl => .tail (h.app tl)
section
variable {prog : Program} {w : World} {A : Around} {E : Value → Shared → Prop} {h₀ : Heap} {t : Shared} {env : Env} {c x dx gl I : Addr} {oI oc : Obj} {m : Str → Option Value} {its arr : Array Value} {n gn : Nat} {tl : List (Addr × Obj)} {rest : Array Value → Nat → List (Addr × Obj)} {k : Int} {tk tv : Tok}
/-- given.append(pile.push(lead, sign)) -/
theorem ex_push {a b : Str} {ta tb : Tok} {Q : Flow → Shared → Prop} (S : St h₀ env.locals m ((I, oI) :: (gl, listOf arr gn) :: (tl ++ rest its n)) t.heap) (X : (K w.params).In h₀) (hlim : h₀.NoLimit) (hroom : A.depth + 4 < recursionLimit)
    (U : ∀ i1 n1 i2 n2, At x (pileO dx i1 n1) (pileO dx i2 n2) (rest i1 n1) (rest i2 n2)) (mc : ∀ i1 n1, (c, oc) ∈ rest i1 n1) (hoc : oc.data = .cell (some (.ref x))) (md : ∀ i1 n1, (dx, dictOf (sizeEs w.params k tk tv) 1) ∈ rest i1 n1) (hz : its.size ≤ 900) (hg : arr.size ≤ 900)
    (hk : env.scope.kind = .function) (kg : env.kindOf (Str.ofString "given") = some .local) (kp : env.kindOf (Str.ofString "pile") = some .cell) (kl : env.kindOf (Str.ofString "lead") = some .local) (ks : env.kindOf (Str.ofString "sign") = some .local)
    (hc : env.cells.lookup (Str.ofString "pile") = some c) (mg : m (Str.ofString "given") = some (.ref gl)) (ml : m (Str.ofString "lead") = some (.str a ta)) (ms : m (Str.ofString "sign") = some (.str b tb)) (hint : interactive env = false)
    (hQ : ∀ T n' gn' h' tk', St h₀ env.locals m ((I, oI) :: (gl, listOf (arr.push .none) gn') :: ((T, tupO a ta b tb) :: tl ++ rest (its.push (.ref T)) n')) h' → Q .next { t with heap := h', toks := tk' }) :
    wpAny (model prog w) A (exec stPush env) Q E t := by
  have Xt := X.keeps S.F.keep
  have hx : t.heap.get? x = some (pileO dx its n) := S.get (.tail _ (.tail _ (List.mem_append_right _ (U its n its n).mem)))
  have hd : t.heap.get? dx = _ := S.get (.tail _ (.tail _ (List.mem_append_right _ (md its n))))
  refine wpAny_Expr ?_ hint rfl
  refine MethodCall_ ?_ rfl
  refine load_local hk kg S.F.ns mg (by decide) (getMethod_list_append (S.get (.tail _ (.head _))) rfl rfl ?_)
  refine callWith_method1 (Calls.spliced_cons ?_)
  refine MethodCall_ ?_ rfl
  refine wpAny_Name (wpAny_loadName_cell hk kp hc ⟨_, S.get (.tail _ (.tail _ (List.mem_append_right _ (mc its n)))), hoc⟩ ?_) (by decide)
  refine pile_gm (f := .ref 69) (T := "function") Xt ⟨hx, rfl, rfl, hd⟩ (by kernel_rfl) (by kernel_rfl) (by decide) rfl ?_
  refine callWith_K (K := K w.params) (h₀ := t.heap) Xt (by kernel_rfl) ?_
  refine Calls.spliced_cons (load_local hk kl S.F.ns ml (by decide) (Calls.spliced_cons (load_local hk ks S.F.ns ms (by decide) (Calls.spliced_nil ⟨Xt, ?_⟩))))
  refine push_ok hroom Xt (hlim.keeps S.F.keep) (led_K X S.N (.tail _ (.tail _ (List.mem_append_right _ (U its n its n).mem)))) (led_K X S.N (.tail _ (.tail _ (List.mem_append_right _ (md its n))))) hx hd (by omega) fun h' tk' T n' keep lT hT hx' => ?_
  have fr : t.heap.get? T = none := by
    cases e : t.heap.get? T with
    | none => rfl
    | some q => exact absurd (Heap.lt_size e) (Nat.not_lt.mpr lT)
  have S1 := S.upd (.tail (.tail ((U its n (its.push (.ref T)) n').app tl))) keep hx'
  have S2 : St h₀ env.locals m ((T, tupO a ta b tb) :: (I, oI) :: (gl, listOf arr gn) :: (tl ++ rest (its.push (.ref T)) n')) h' := by
    refine ⟨S1.F, led_new S.F S1.N fr hT, List.pairwise_cons.mpr ⟨fun p hp => ?_, S1.D⟩⟩
    obtain ⟨p', hp', e⟩ := (At.tail (.tail ((U its n (its.push (.ref T)) n').app tl))).fst p hp
    have := led_off S.N fr p' hp'
    rw [e] at this
    exact Ne.symm this
  refine Calls.spliced_nil ?_
  refine wpAny_list_append_plain (items := arr) ⟨gn, S2.get (.tail _ (.tail _ (.head _)))⟩ (fun h2 e2 sb => ?_) (by rw [sizeLine_eq]; omega)
  obtain ⟨gn', e2⟩ := e2
  have S3 := S2.same (.tail (.tail .head)) sb e2
  exact hQ T n' gn' h2 _ (S3.pick (.cons (.there .here) (.cons (.there .here) .all)))
/-- what the inner loop asks of its frame -/
structure XEnv (env : Env) (c : Addr) : Prop where
  k : env.scope.kind = .function
  g : env.kindOf (Str.ofString "given") = some .local
  p : env.kindOf (Str.ofString "pile") = some .cell
  l : env.kindOf (Str.ofString "lead") = some .local
  s : env.kindOf (Str.ofString "sign") = some .local
  t : env.kindOf (Str.ofString "part") = some .local
  c : env.cells.lookup (Str.ofString "pile") = some c
  i : interactive env = false
  n : (env.scope.kind == .class || (env.scope.kind == .module && env.locals != env.globals)) = false
/-- between the turns -/
inductive ExI (gl : Addr) (rest : Array Value → Nat → List (Addr × Obj)) (keepm : (Str → Option Value) → Prop) (acc : List (Str × Str)) (m : Str → Option Value) (news : List (Addr × Obj)) (m1 m2 m3 : Prop) : Prop
  | mk (its : Array Value) (n : Nat) (arr : Array Value) (gn : Nat) (tl : List (Addr × Obj)) (e : news = (gl, listOf arr gn) :: (tl ++ rest its n)) (h1 : ∀ v ∈ arr.toList, v = .none) (h2 : arr.size ≤ acc.length) (h3 : Pcs (tl ++ rest its n) its.toList acc) (h4 : keepm m) (h5 : m1) (h6 : m2) (h7 : m3) : ExI gl rest keepm acc m news m1 m2 m3
noncomputable abbrev ExJ (gl : Addr) (rest : Array Value → Nat → List (Addr × Obj)) (t₀ : Shared) (keepm : (Str → Option Value) → Prop) (acc : List (Str × Str)) (m : Str → Option Value) (news : List (Addr × Obj)) (t : Shared) : Prop :=
  ExI gl rest keepm acc m news (t.os = t₀.os) (t.gens = t₀.gens) (t.drawn = t₀.drawn)
theorem ex_inner {lj : Addr} {vs : List Value} {qs acc : List (Str × Str)} {m₀ : Str → Option Value} {t₀ : Shared} {Q : Flow → Shared → Prop} {news : List (Addr × Obj)} (S : St h₀ env.locals m₀ news t.heap) (H : ExJ gl rest t₀ (fun m => m = m₀) acc m₀ news t) (X : (K w.params).In h₀) (hlim : h₀.NoLimit) (hh : A.handled = none) (hroom : A.depth + 4 < recursionLimit)
    (U : ∀ i1 n1 i2 n2, At x (pileO dx i1 n1) (pileO dx i2 n2) (rest i1 n1) (rest i2 n2)) (mc : ∀ i1 n1, (c, oc) ∈ rest i1 n1) (hoc : oc.data = .cell (some (.ref x))) (md : ∀ i1 n1, (dx, dictOf (sizeEs w.params k tk tv) 1) ∈ rest i1 n1) (ml : ∀ i1 n1, (lj, listOf vs.toArray 0) ∈ rest i1 n1)
    (hv : ∀ tl i1 n1, Pcs (tl ++ rest i1 n1) vs qs) (hz : acc.length + qs.length ≤ 800) (V : XEnv env c) (mg : m₀ (Str.ofString "given") = some (.ref gl)) (mp : m₀ (Str.ofString "part") = some (.ref lj))
    (hQ : ∀ m news t', St h₀ env.locals m news t'.heap → ExJ gl rest t₀ (fun m => ∀ y, y ≠ Str.ofString "lead" → y ≠ Str.ofString "sign" → m y = m₀ y) (acc ++ qs) m news t' → Q .next t') :
    wpAny (model prog w) A (exec stInner env) Q E t := by
  have hvl := (hv [] #[] 0).len
  have mg' : ∀ (m : Str → Option Value) {va vb : Value}, (∀ y, y ≠ Str.ofString "lead" → y ≠ Str.ofString "sign" → m y = m₀ y) → (if Str.ofString "given" = Str.ofString "sign" then some vb else if Str.ofString "given" = Str.ofString "lead" then some va else m (Str.ofString "given")) = some (.ref gl) := fun m va vb h => by
    rw [if_neg (by decide), if_neg (by decide), h _ (by decide) (by decide)]; exact mg
  refine for_St_list (h₀ := h₀) (L := env.locals) (J := fun i m news t => ExJ gl rest t₀ (fun m => ∀ y, y ≠ Str.ofString "lead" → y ≠ Str.ofString "sign" → m y = m₀ y) (acc ++ qs.take i) m news t) hh (fun _ _ _ _ _ _ h => h) (fun _ => rfl) ?_
  refine load_local V.k V.t S.F.ns mp (by decide) ?_
  refine ⟨lj, vs.toArray, m₀, news, rfl, S, ?_, fun g => ?_, ?_, ?_⟩
  · obtain ⟨its, n, arr, gn, tl, rfl, _⟩ := H
    exact .inr ⟨_, .tail _ (List.mem_append_right _ (ml its n)), rfl, _, rfl⟩
  · obtain ⟨its, n, arr, gn, tl, e, h1, h2, h3, _, h5, h6, h7⟩ := H
    exact ⟨its, n, arr, gn, tl, e, h1, by simpa using h2, by simpa using h3, fun _ _ _ => rfl, h5, h6, h7⟩
  · rintro i v m news t tk₂ I oI hi hPv ⟨its, n, arr, gn, tl, rfl, h1, h2, h3, h4, h5, h6, h7⟩ src S _ E'
    have hPv' : vs[i]? = some v := by simpa using hPv
    obtain ⟨T, a, b, ta, tb, rfl, hq, hm⟩ := (hv tl its n).at' i v hPv'
    have hiq : i < qs.length := by rw [← hvl]; simpa using hi
    have hm' := S.get (.tail _ (.tail _ hm))
    refine assign2 hh ⟨_, hm', rfl, _, rfl⟩ V.l V.s S.F.ns V.n fun h' tk' ns' keep => ?_
    have S1 := S.loc' ns' keep
    refine wpAny_execs_cons ?_
    have hl3 := h3.len
    rw [Array.length_toList, List.length_append, List.length_take] at hl3
    rw [List.length_append, List.length_take] at h2
    refine ex_push (oc := oc) S1 X hlim hroom U mc hoc md (by omega) (by omega) V.k V.g V.p V.l V.s V.c (mg' m h4) rfl rfl V.i fun T2 n' gn' h2' tk2 S2 => ?_
    refine wpAny_execs_nil ⟨_, _, S2, ⟨_, _, _, _, _, rfl, fun v hv => ?_, ?_, ?_, ?_, h5, h6, h7⟩, ?_⟩
    · rw [Array.toList_push] at hv
      rcases List.mem_append.mp hv with hv | hv
      · exact h1 v hv
      · exact List.mem_singleton.mp hv
    · rw [Array.size_push, List.length_append, List.length_take]; omega
    · rw [Array.toList_push, List.take_add_one, hq, ← List.append_assoc]
      have h3' : Pcs ((T2, tupO a ta b tb) :: tl ++ rest (its.push (.ref T2)) n') its.toList (acc ++ List.take i qs) := h3.mono fun T a ta b tb hm => by
        rcases List.mem_append.mp hm with hm | hm
        · exact List.mem_append_left _ (.tail _ hm)
        · exact List.mem_append_right _ ((U _ _ _ _).keep hm (by intro h; cases h))
      exact h3'.app (.cons (List.mem_append_left _ (.head _)) .nil)
    · intro y y1 y2
      show (if _ then _ else if _ then _ else _) = _
      rw [if_neg y2, if_neg y1]
      exact h4 y y1 y2
    · exact .inr ⟨_, .tail _ (List.mem_append_right _ (ml _ _)), rfl, _, rfl⟩
  · rintro m news t tk H' S'
    refine hQ m news _ S' ?_
    rwa [show qs.take vs.toArray.size = qs from by rw [List.size_toArray, hvl, List.take_length]] at H'
end
end Mine
end
section
open PySem PySem.W PySem.Calls PyProof.Rows Builtin
set_option maxRecDepth 100000
set_option maxHeartbeats 4000000
namespace Mine
section
variable {prog : Program} {w : World} {A : Around} {E : Value → Shared → Prop} {s : Shared} {env : Env}
theorem truthy_b {b : Bool} {Q : Bool → Shared → Prop} (h : Q b s) : wpAny (model prog w) A (truthy (.bool b)) Q E s := fun _ _ _ => h
inductive SubGo (Q : Value → Shared → Prop) (o i : Value) (s₂ : Shared) : Prop
  | mk (l : Addr) (items : Array Value) (k : Int) (t : Tok) (x : Value) (e1 : o = .ref l) (e2 : i = .int k t) (hl : s₂.heap.IsList l items) (h0 : 0 ≤ k) (hf : k < 2 ^ 63) (hx : items[k.toNat]? = some x) (hq : Q x s₂) : SubGo Q o i s₂
theorem sub_list {value slice : PySem.Expr} {pos : Pos} {Q : Value → Shared → Prop}
    (h : wpAny (model prog w) A (eval value env) (fun o s₁ => wpAny (model prog w) A (eval slice env) (fun i s₂ => SubGo Q o i s₂) E s₁) E s)
    (hs : ∀ o i, subscripted slice false o i = operate [o, i] (getItem o i) := by intro _ _; with_unfolding_all rfl) (ht : ∀ o r, letTemporaryGo value o r = pure () := by intro _ _; with_unfolding_all rfl) :
    wpAny (model prog w) A (eval (.Subscript value slice pos) env) Q E s := by
  refine Subscript_ (wpAny_mono h (fun o s₁ h₁ => wpAny_mono h₁ (fun i s₂ h₂ => ?_) fun _ _ e => e) fun _ _ e => e)
  obtain ⟨l, items, k, t, x, rfl, rfl, hl, h0, hf, hx, hq⟩ := h₂
  exact subscriptTail_builtin hl.typeIs list_getitem_lookup (wpAny_getItem_list hl h0 hf hx hq) (hs _ _) (fun r => ht _ r)
theorem rev4 (v0 v1 v2 v3 : Value) : slicePick #[v0, v1, v2, v3] none none (some (-1)) = #[v3, v2, v1, v0] := by kernel_rfl
end
/-- the part of one turn -/
structure PartOf (R : Array Value → Nat → List (Addr × Obj)) (l : Addr) (vs : List Value) (qs : List (Str × Str)) : Prop where
  m : ∀ i n, (l, listOf vs.toArray 0) ∈ R i n
  p : ∀ tl i n, Pcs (tl ++ R i n) vs qs
noncomputable def accAt (P0 q0 q1 q2 q3 : List (Str × Str)) : Nat → List (Str × Str)
  | 0 => P0
  | 1 => P0 ++ q0
  | 2 => P0 ++ q0 ++ q1
  | 3 => P0 ++ q0 ++ q1 ++ q2
  | _ => P0 ++ q0 ++ q1 ++ q2 ++ q3
section
variable {prog : Program} {w : World} {A : Around} {E : Value → Shared → Prop} {h₀ : Heap} {t : Shared} {env : Env} {c x dx gl pl la lb lc ld : Addr} {oc : Obj} {m₀ : Str → Option Value} {its : Array Value} {n pn : Nat} {R : Array Value → Nat → List (Addr × Obj)} {k : Int} {tk tv : Tok}
theorem ex_outer {va vb vc vd : List Value} {P0 qa qb qc qd : List (Str × Str)} {Q : Flow → Shared → Prop} (S : St h₀ env.locals m₀ ((gl, listOf #[] 0) :: R its n) t.heap) (X : (K w.params).In h₀) (hlim : h₀.NoLimit) (hh : A.handled = none) (hroom : A.depth + 4 < recursionLimit)
    (U : ∀ i1 n1 i2 n2, At x (pileO dx i1 n1) (pileO dx i2 n2) (R i1 n1) (R i2 n2)) (mc : ∀ i1 n1, (c, oc) ∈ R i1 n1) (hoc : oc.data = .cell (some (.ref x))) (md : ∀ i1 n1, (dx, dictOf (sizeEs w.params k tk tv) 1) ∈ R i1 n1) (mpl : ∀ i1 n1, (pl, listOf #[.ref ld, .ref la, .ref lb, .ref lc] pn) ∈ R i1 n1)
    (pa : PartOf R la va qa) (pb : PartOf R lb vb qb) (pc : PartOf R lc vc qc) (pd : PartOf R ld vd qd) (hP : Pcs (R its n) its.toList P0) (hz : P0.length + qa.length + qb.length + qc.length + qd.length ≤ 100) (V : XEnv env c) (kp : env.kindOf (Str.ofString "parts") = some .local) (mg : m₀ (Str.ofString "given") = some (.ref gl)) (mp : m₀ (Str.ofString "parts") = some (.ref pl))
    (hQ : ∀ m t' its' n' arr gn tl, St h₀ env.locals m ((gl, listOf arr gn) :: (tl ++ R its' n')) t'.heap → (∀ v ∈ arr.toList, v = .none) → arr.size ≤ 100 → Pcs (tl ++ R its' n') its'.toList (P0 ++ qa ++ qb ++ qc ++ qd) → m (Str.ofString "given") = some (.ref gl) → t'.os = t.os → t'.gens = t.gens → t'.drawn = t.drawn → Q .next t') :
    wpAny (model prog w) A (exec stOuter env) Q E t := by
  have mpl' := S.get (.tail _ (mpl its n))
  have il : ∀ tk : Nat, Heap.IsList ({ t with toks := tk } : Shared).heap pl #[.ref ld, .ref la, .ref lb, .ref lc] := fun _ => ⟨_, mpl', rfl, _, rfl⟩
  have ldp : ∀ (tk : Nat) {pos : Pos} {Q : Value → Shared → Prop} {E : Value → Shared → Prop}, Q (.ref pl) { t with toks := tk } → wpAny (model prog w) A (eval (.Name (Str.ofString "parts") pos) env) Q E { t with toks := tk } := fun tk _ _ _ q => load_local V.k kp S.F.ns mp (by decide) q
  refine for_St_list (h₀ := h₀) (L := env.locals) (J := fun i m news t' => ExJ gl (fun its n => (t.heap.objs.size, listOf #[.ref la, .ref lb, .ref lc, .ref ld] 0) :: R its n) t (fun m => ∀ y, y ≠ Str.ofString "lead" → y ≠ Str.ofString "sign" → y ≠ Str.ofString "part" → m y = m₀ y) (accAt P0 qa qb qc qd i) m news t') hh (fun _ _ _ _ _ _ h => h) (fun _ => rfl) ?_
  refine List_ ?_
  refine Calls.spliced_cons (sub_list (ldp t.toks (wpAny_Constant_int ⟨pl, _, 1, _, _, rfl, rfl, il _, by decide, by decide, rfl, ?_⟩)))
  refine Calls.spliced_cons (sub_list (ldp _ (wpAny_Constant_int ⟨pl, _, 2, _, _, rfl, rfl, il _, by decide, by decide, rfl, ?_⟩)))
  refine Calls.spliced_cons (sub_list (ldp _ (wpAny_Constant_int ⟨pl, _, 3, _, _, rfl, rfl, il _, by decide, by decide, rfl, ?_⟩)))
  refine Calls.spliced_cons (sub_list (ldp _ (wpAny_Constant_int ⟨pl, _, 0, _, _, rfl, rfl, il _, by decide, by decide, rfl, ?_⟩)))
  refine Calls.spliced_nil ?_
  refine wpAny_newObj_type ?_
  have S1 := S.push (listOf #[.ref la, .ref lb, .ref lc, .ref ld] 0)
  dsimp only at S1 ⊢
  generalize hql : t.heap.objs.size = ql at S1 ⊢
  have S2 : St h₀ env.locals m₀ ((gl, listOf #[] 0) :: (ql, listOf #[.ref la, .ref lb, .ref lc, .ref ld] 0) :: R its n) _ := S1.perm (List.Perm.swap _ _ _)
  refine ⟨ql, _, m₀, _, rfl, S2, .inr ⟨_, .tail _ (.head _), rfl, _, rfl⟩, fun g => ?_, ?_, ?_⟩
  · exact ⟨its, n, #[], 0, [], rfl, (fun v hv => nomatch hv), Nat.zero_le _, hP.mono fun _ _ _ _ _ h => .tail _ h, fun _ _ _ _ => rfl, rfl, rfl, rfl⟩
  · rintro i v m news t' tk₂ I oI hi hPv ⟨its, n, arr, gn, tl, rfl, h1, h2, h3, h4, h5, h6, h7⟩ src S cI E'
    obtain ⟨lj, vs, qs, rfl, hp, hq, hlen⟩ : ∃ lj vs qs, v = .ref lj ∧ PartOf R lj vs qs ∧ accAt P0 qa qb qc qd (i + 1) = accAt P0 qa qb qc qd i ++ qs ∧ (accAt P0 qa qb qc qd i).length + qs.length ≤ 100 := by
      have hi' : i < 4 := hi
      rcases i with _ | _ | _ | _ | i
      · cases hPv; exact ⟨la, va, qa, rfl, pa, rfl, by show P0.length + _ ≤ _; omega⟩
      · cases hPv; exact ⟨lb, vb, qb, rfl, pb, rfl, by simp only [accAt, List.length_append]; omega⟩
      · cases hPv; exact ⟨lc, vc, qc, rfl, pc, rfl, by simp only [accAt, List.length_append]; omega⟩
      · cases hPv; exact ⟨ld, vd, qd, rfl, pd, rfl, by simp only [accAt, List.length_append]; omega⟩
      · omega
    refine assign_local V.t S.F.ns V.n fun h' ns' sb => ?_
    have S3 := S.loc ns' sb
    have S4 : St h₀ env.locals _ ((gl, listOf arr gn) :: (tl ++ ((I, oI) :: (ql, listOf #[.ref la, .ref lb, .ref lc, .ref ld] 0) :: R its n))) h' := S3.perm ((List.Perm.swap _ _ _).trans (.cons _ List.perm_middle.symm))
    refine wpAny_execs_cons ?_
    refine ex_inner (t₀ := t) (x := x) (dx := dx) (c := c) (oc := oc) (gl := gl) (rest := fun its n => (I, oI) :: (ql, listOf #[.ref la, .ref lb, .ref lc, .ref ld] 0) :: R its n) (acc := accAt P0 qa qb qc qd i) (qs := qs) (lj := lj) (vs := vs) S4 ⟨its, n, arr, gn, tl, rfl, h1, h2, h3.mono ?_, rfl, h5, h6, h7⟩ X hlim hh hroom
      (fun _ _ _ _ => .tail (.tail (U _ _ _ _))) (fun _ _ => .tail _ (.tail _ (mc _ _))) hoc (fun _ _ => .tail _ (.tail _ (md _ _))) (fun _ _ => .tail _ (.tail _ (hp.m _ _))) (fun tl i1 n1 => ?_) (by omega) V ?_ rfl ?_
    · intro T a ta b tb hm
      rcases List.mem_append.mp hm with hm | hm
      · exact List.mem_append_left _ hm
      · exact List.mem_append_right _ (.tail _ hm)
    · exact (hp.p tl i1 n1).mono fun T a ta b tb hm => by
        rcases List.mem_append.mp hm with hm | hm
        · exact List.mem_append_left _ hm
        · exact List.mem_append_right _ (.tail _ (.tail _ hm))
    · show (if _ then _ else _) = _
      rw [if_neg (by decide), h4 _ (by decide) (by decide) (by decide)]
      exact mg
    · rintro m' news' t2 S5 ⟨its2, n2, arr2, gn2, tl2, rfl, g1, g2, g3, g4, g5, g6, g7⟩
      refine wpAny_execs_nil ⟨m', (gl, listOf arr2 gn2) :: (tl2 ++ ((ql, listOf #[.ref la, .ref lb, .ref lc, .ref ld] 0) :: R its2 n2)), S5.perm ?_, ⟨its2, n2, arr2, gn2, tl2, rfl, g1, hq ▸ g2, ?_, ?_, g5, g6, g7⟩, .inr ⟨_, .tail _ (List.mem_append_right _ (.head _)), rfl, _, rfl⟩⟩
      · exact ((List.Perm.cons _ List.perm_middle).trans (List.Perm.swap _ _ _))
      · rw [hq]
        exact g3.mono fun T a ta b tb hm => by
          rcases List.mem_append.mp hm with hm | hm
          · exact List.mem_append_left _ hm
          · rcases List.mem_cons.mp hm with e | hm
            · exact absurd (congrArg (fun z => z.2.cls) e).symm cI
            · exact List.mem_append_right _ hm
      · intro y y1 y2 y3
        rw [g4 y y1 y2]
        show (if _ then _ else _) = _
        rw [if_neg y3]
        exact h4 y y1 y2 y3
  · rintro m news t' tk ⟨its', n', arr, gn, tl, rfl, h1, h2, h3, h4, h5, h6, h7⟩ S'
    refine hQ m _ its' n' arr gn (tl ++ [(ql, listOf #[.ref la, .ref lb, .ref lc, .ref ld] 0)]) ?_ h1 ?_ ?_ ?_ h5 h6 h7
    · simpa using S'
    · have : (accAt P0 qa qb qc qd 4).length ≤ 100 := by simp only [accAt, List.length_append]; omega
      exact Nat.le_trans h2 this
    · exact h3.mono fun T a ta b tb hm => by simpa using hm
    · rw [h4 _ (by decide) (by decide) (by decide)]
      exact mg
end
end Mine
end
section
open PySem PySem.W PySem.Calls PyProof.Rows Builtin
set_option maxRecDepth 100000
set_option maxHeartbeats 4000000
namespace Mine
noncomputable def exchF (ps : List (Str × Str)) (a b c d : Nat) : List (Str × Str) := ps.take a ++ (ps.take d).drop c ++ (ps.take c).drop b ++ (ps.take b).drop a ++ ps.drop d
theorem tk_le {α : Type} {l : List α} {n : Nat} (h : l.length ≤ n) (k : Nat) : (l.take k).length ≤ n := Nat.le_trans (List.length_take_le' k l) h
theorem dp_le {α : Type} {l : List α} {n : Nat} (h : l.length ≤ n) (k : Nat) : (l.drop k).length ≤ n := Nat.le_trans (List.length_drop ▸ Nat.sub_le _ _) h
theorem five_le {a b c d e : Nat} (ha : a ≤ 4) (hb : b ≤ 4) (hc : c ≤ 4) (hd : d ≤ 4) (he : e ≤ 4) : a + b + c + d + e ≤ 100 :=
  Nat.le_trans (Nat.add_le_add (Nat.add_le_add (Nat.add_le_add (Nat.add_le_add ha hb) hc) hd) he) (show 4 + 4 + 4 + 4 + 4 ≤ 100 by decide)
theorem take_sz {l : List Value} {n k : Nat} (h : l.length = n) (hk : k ≤ n) : (l.take k).toArray.size = k := by rw [List.size_toArray, List.length_take, h, Nat.min_eq_left hk]
theorem exchange_ok {p : Program} {w : World} {lo : List Str} {mean : ExcName → Option Value} {mg mb : Str → Option Value} {dp un : Nat} {gd : Option (List Code)} {cn : Str} {cs : Scope} {a : Addr} {ccd : Value} {cl : List (Str × Addr)} {outer : List Env} {A₀ : Around} {base h₀ : Heap} {L : Addr} {m : Str → Option Value} {news : List (Addr × Obj)} {s : Shared} {Q E : Value → Shared → Prop}
    {x dx ca : Addr} {its : Array Value} {n cn₀ c0 c1 c2 c3 : Nat} {y0 y1 y2 y3 tk tv : Tok} {k : Int} {ps : List (Str × Str)} {nx : Array Value → Nat → List (Addr × Obj)}
    (B : Below A₀ base outer h₀) (S : St h₀ L m news s.heap) (X : (K w.params).In h₀) (T : Top p lo mean mg mb h₀) (hk : cs.kind = .function) (md : (dx, dictOf (sizeEs w.params k tk tv) 1) ∈ news) (mca : (ca, listOf #[.int (c0 : Nat) y0, .int (c1 : Nat) y1, .int (c2 : Nat) y2, .int (c3 : Nat) y3] cn₀) ∈ news)
    (U : ∀ its' n', At x (pileO dx its n) (pileO dx its' n') news (nx its' n')) (hp : Pcs news its.toList ps) (h4 : ps.length = 4) (h01 : c0 < c1) (h12 : c1 ≤ c2) (h23 : c2 < c3) (h3 : c3 ≤ 4) (hd : dp + 8 < recursionLimit) (hu : un + 200 < cLine)
    (hret : ∀ its' n' new h' tk', St h₀ L m (new ++ nx its' n') h' → Pcs (new ++ nx its' n') its'.toList (exchF ps c0 c1 c2 c3) → Q (.bool true) { s with heap := h', toks := tk' }) :
    wpAny (model PySem.Challenge.rw_xl0024_01.prog w) (ktrTop dp un gd cn cs L a ccd cl outer) (call (.ref 227) [.ref x, .ref ca]) Q E s := by
  have hps : ps.length ≤ 4 := Nat.le_of_eq h4
  refine wpAny_call ?_
  refine code_defC (K := K w.params) (f := 227) (args := ⟨[.ref x, .ref ca], []⟩) (binds := [(Str.ofString "pile", .ref x), (Str.ofString "cuts", .ref ca)]) B S.F X S.N T rfl rfl hk (show (K w.params).lookup 227 = some (o227 w.params) from by kernel_rfl) (by kernel_rfl) (by show dp < _; omega) (BindsTo.of_eq rfl) rfl (by decide +kernel) ?_ rfl rfl rfl
  intro g L' h₁ tk₁ cells FG F' N' Y B' X' T' l1
  obtain ⟨oc, rfl, hoc⟩ := (show CellsAre _ [(Str.ofString "pile", L' + 1)] cells from Y).one
  replace hoc : oc.data = .cell (some (.ref x)) := hoc
  have S1 : St g L' _ ((L' + 1, oc) :: news) h₁ := ⟨F', N', List.pairwise_cons.mpr ⟨fun p hp => Nat.ne_of_gt (Nat.lt_succ_of_lt (l1 p hp)), S.D⟩⟩
  show wpAny _ _ (execs (Stmt.Assign [Expr.Name _ _] (Expr.ListComp _ _ _ _) _ :: Stmt.Assign _ _ _ :: Stmt.For _ _ _ _ _ :: Stmt.Return _ _ :: []) _) _ _ _
  refine wpAny_execs_cons ?_
  refine LCg.Assign_ListComp_U (cl := [(Str.ofString "pile", L' + 1)]) S1.F rfl (by with_unfolding_all rfl) (by with_unfolding_all rfl) (by decide) rfl (by decide) rfl rfl rfl ?_
  refine wpAny_Subscript_Slice_step list_getitem_lookup ?_
  refine load_local (v := .ref ca) rfl rfl S1.F.ns rfl (by decide) ?_
  refine wpAny_Slice (evalPart_none_step (evalPart_none_step (evalPart_some_step (wpAny_UnaryOp (wpAny_Constant_int ?_)))))
  refine neg_int ?_
  generalize hA3 : (ktrTop dp un gd cn cs L a ccd cl outer).deeper (envOfC (Str.ofString "_law_exchange") f227.sc L' 227 (Value.ref 226)) = A₃
  dsimp only
  have S2 := (S1.push { cls := .type "slice", data := .fields #[.none, .none, .int (-1) (tk₁ + 1)] })
  refine ⟨⟨_, S2.get (.tail _ (.tail _ mca)), rfl⟩, ?_⟩
  refine wpAny_getItem_list_slice (lo := none) (hi := none) (st := some (-1)) ⟨_, S2.get (.tail _ (.tail _ mca)), rfl, _, rfl⟩ (Heap.IsSliceOf.new ..) .none .none (.int _ _) (by decide) ?_ (by rw [sizeLine_eq]; show 4 ≤ _; decide)
  rw [rev4]
  have S3 := (S2.pick (news' := (L' + 1, oc) :: news) (.drop .all)).push { cls := .type "list", data := .seq #[.int (c3 : Nat) y3, .int (c2 : Nat) y2, .int (c1 : Nat) y1, .int (c0 : Nat) y0] }
  generalize (h₁.push _).objs.size = ra at S3 ⊢
  generalize Heap.push _ _ = h₃ at S3 ⊢
  have hl4 : its.size = 4 := by have := hp.len; rw [Array.length_toList] at this; omega
  have hL4 : its.toList.length = 4 := by rw [Array.length_toList]; exact hl4
  have mdx : ∀ its' n', (dx, dictOf (sizeEs w.params k tk tv) 1) ∈ nx its' n' := fun its' n' => (U its' n').keep md (by intro h; cases h)
  have UU : ∀ i1 n1 i2 n2, At x (pileO dx i1 n1) (pileO dx i2 n2) (nx i1 n1) (nx i2 n2) := fun i1 n1 i2 n2 => (U i1 n1).trans (U i2 n2) S.D
  have s3 : (List.take c3 its.toList).toArray.size = c3 := take_sz hL4 h3
  have s2 : (List.take c2 (List.take c3 its.toList)).toArray.size = c2 := take_sz s3 (Nat.le_of_lt h23)
  have s1 : (List.take c1 (List.take c2 (List.take c3 its.toList))).toArray.size = c1 := take_sz s2 h12
  refine LCg.CompSrc.ledger (by rw [← hA3]; rfl) S3.F S3.N (.head _) (by rw [sizeLine_eq]; show 4 ≤ _; decide) fun g' => ?_
  have hro : A₃.depth + 4 < recursionLimit := by rw [← hA3]; show dp + 1 + 4 < _; omega
  refine ex_pop (x := x) (dx := dx) (c := L' + 1) (its := its) (q := c3) (nx := fun n' => (ra, listOf #[.int (c3 : Nat) y3, .int (c2 : Nat) y2, .int (c1 : Nat) y1, .int (c0 : Nat) y0] 0) :: (L' + 1, oc) :: nx (its.toList.take c3).toArray n') X' T'.nolimit S3.D hro (.tail _ (.head _)) hoc (.tail _ (.tail _ md)) (fun n' => .tail (.tail (U _ n'))) (by omega) (by omega) (fun n' => ⟨_, .head _⟩) (fun v hv => ⟨y3, (Option.some.inj hv).symm⟩) (fun _ => rfl) (fun _ => rfl) (fun _ => rfl) rfl fun l3 n3 D3 => ?_
  refine ex_pop (x := x) (dx := dx) (c := L' + 1) (its := (List.take c3 its.toList).toArray) (q := c2) (nx := fun n' => (l3, _) :: (ra, listOf #[.int (c3 : Nat) y3, .int (c2 : Nat) y2, .int (c1 : Nat) y1, .int (c0 : Nat) y0] 0) :: (L' + 1, oc) :: nx (List.take c2 (List.take c3 its.toList)).toArray n') X' T'.nolimit D3 hro (.tail _ (.tail _ (.head _))) hoc (.tail _ (.tail _ (.tail _ (mdx _ _)))) (fun n' => .tail (.tail (.tail (UU _ _ _ n')))) (by omega) (by omega) (fun n' => ⟨_, .tail _ (.head _)⟩) (fun v hv => ⟨y2, (Option.some.inj hv).symm⟩) (fun _ => rfl) (fun _ => rfl) (fun _ => rfl) rfl fun l2 n2 D2 => ?_
  refine ex_pop (x := x) (dx := dx) (c := L' + 1) (its := (List.take c2 (List.take c3 its.toList)).toArray) (q := c1) (nx := fun n' => (l2, _) :: (l3, _) :: (ra, listOf #[.int (c3 : Nat) y3, .int (c2 : Nat) y2, .int (c1 : Nat) y1, .int (c0 : Nat) y0] 0) :: (L' + 1, oc) :: nx (List.take c1 (List.take c2 (List.take c3 its.toList))).toArray n') X' T'.nolimit D2 hro (.tail _ (.tail _ (.tail _ (.head _)))) hoc (.tail _ (.tail _ (.tail _ (.tail _ (mdx _ _))))) (fun n' => .tail (.tail (.tail (.tail (UU _ _ _ n'))))) (by omega) (by omega) (fun n' => ⟨_, .tail _ (.tail _ (.head _))⟩) (fun v hv => ⟨y1, (Option.some.inj hv).symm⟩) (fun _ => rfl) (fun _ => rfl) (fun _ => rfl) rfl fun l1a n1 D1 => ?_
  refine ex_pop (x := x) (dx := dx) (c := L' + 1) (its := (List.take c1 (List.take c2 (List.take c3 its.toList))).toArray) (q := c0) (nx := fun n' => (l1a, _) :: (l2, _) :: (l3, _) :: (ra, listOf #[.int (c3 : Nat) y3, .int (c2 : Nat) y2, .int (c1 : Nat) y1, .int (c0 : Nat) y0] 0) :: (L' + 1, oc) :: nx (List.take c0 (List.take c1 (List.take c2 (List.take c3 its.toList)))).toArray n') X' T'.nolimit D1 hro (.tail _ (.tail _ (.tail _ (.tail _ (.head _))))) hoc (.tail _ (.tail _ (.tail _ (.tail _ (.tail _ (mdx _ _)))))) (fun n' => .tail (.tail (.tail (.tail (.tail (UU _ _ _ n')))))) (by omega) (by omega) (fun n' => ⟨_, .tail _ (.tail _ (.tail _ (.head _)))⟩) (fun v hv => ⟨y0, (Option.some.inj hv).symm⟩) (fun _ => rfl) (fun _ => rfl) (fun _ => rfl) rfl fun l0 n0 D0 => ?_
  refine LCg.CompRest.zero ?_
  intro pl h4 tk4 F4 N4 o4
  have S4 := (⟨F4, N4, List.pairwise_cons.mpr ⟨fun p hp => Ne.symm (off1_all o4 p hp), D0⟩⟩ : St _ _ _ _ _)
  clear N4 F4 o4 D0 D1 D2 D3 S3 S2 S1 F' N' Y
  generalize hm4 : (fun z => if z = Str.ofString "parts" then some (Value.ref pl) else _) = m4 at S4
  have hparts : m4 (Str.ofString "parts") = some (.ref pl) := by rw [← hm4]; rfl
  clear hm4
  show wpAny _ _ (execs (Stmt.Assign [Expr.Name _ _] (Expr.List [] _) _ :: Stmt.For _ _ _ _ _ :: Stmt.Return _ _ :: []) _) _ _ _
  refine wpAny_execs_cons (wpAny_Assign_Name (List_ (Calls.spliced_nil ?_)))
  refine wpAny_newObj_type ?_
  have S5 := S4.push (listOf #[] 0)
  refine wpAny_storeName_local rfl S5.F.ns (fun h6 ns6 sb6 => ?_)
  have S6 := S5.loc ns6 sb6
  clear S5 S4
  dsimp only at S6 ⊢
  generalize hgl : h4.objs.size = gl at S6 ns6 ⊢
  refine wpAny_execs_cons ?_
  have hm6 : ∀ {v : Value}, (fun x => if x = Str.ofString "given" then some (Value.ref gl) else m4 x) (Str.ofString "parts") = some (.ref pl) := fun {v} => by
    show (if _ then _ else _) = _
    rw [if_neg (by decide)]
    exact hparts
  have tup : ∀ (tl : List (Addr × Obj)) (i1 : Array Value) (n1 : Nat) (T : Addr) (a : Str) (ta : Tok) (b : Str) (tb : Tok), (T, tupO a ta b tb) ∈ news → (T, tupO a ta b tb) ∈ tl ++ ((pl, LCg.lst ([] ++ [Value.ref l3] ++ [Value.ref l2] ++ [Value.ref l1a] ++ [Value.ref l0])) :: (l0, listOf (List.drop c0 (List.take c1 (List.take c2 (List.take c3 its.toList)))).toArray 0) :: (l1a, listOf (List.drop c1 (List.take c2 (List.take c3 its.toList))).toArray 0) :: (l2, listOf (List.drop c2 (List.take c3 its.toList)).toArray 0) :: (l3, listOf (List.drop c3 its.toList).toArray 0) :: (ra, listOf #[Value.int (c3 : Nat) y3, .int (c2 : Nat) y2, .int (c1 : Nat) y1, .int (c0 : Nat) y0] 0) :: (L' + 1, oc) :: nx i1 n1) := fun tl i1 n1 T a ta b tb hm =>
    List.mem_append_right _ (.tail _ (.tail _ (.tail _ (.tail _ (.tail _ (.tail _ (.tail _ ((U i1 n1).keep hm (by intro h; cases h)))))))))
  refine ex_outer (gl := gl) (c := L' + 1) (oc := oc) (x := x) (dx := dx) (R := fun i1 n1 => (pl, LCg.lst ([] ++ [Value.ref l3] ++ [Value.ref l2] ++ [Value.ref l1a] ++ [Value.ref l0])) :: (l0, listOf (List.drop c0 (List.take c1 (List.take c2 (List.take c3 its.toList)))).toArray 0) :: (l1a, listOf (List.drop c1 (List.take c2 (List.take c3 its.toList))).toArray 0) :: (l2, listOf (List.drop c2 (List.take c3 its.toList)).toArray 0) :: (l3, listOf (List.drop c3 its.toList).toArray 0) :: (ra, listOf #[Value.int (c3 : Nat) y3, .int (c2 : Nat) y2, .int (c1 : Nat) y1, .int (c0 : Nat) y0] 0) :: (L' + 1, oc) :: nx i1 n1)
    (P0 := List.take c0 (List.take c1 (List.take c2 (List.take c3 ps)))) (qa := List.drop c2 (List.take c3 ps)) (qb := List.drop c1 (List.take c2 (List.take c3 ps))) (qc := List.drop c0 (List.take c1 (List.take c2 (List.take c3 ps)))) (qd := List.drop c3 ps) (la := l2) (lb := l1a) (lc := l0) (ld := l3) (pl := pl)
    S6 X' T'.nolimit (by rw [← hA3]; rfl) hro (fun _ _ _ _ => .tail (.tail (.tail (.tail (.tail (.tail (.tail (UU _ _ _ _)))))))) (fun _ _ => .tail _ (.tail _ (.tail _ (.tail _ (.tail _ (.tail _ (.head _))))))) hoc (fun _ _ => .tail _ (.tail _ (.tail _ (.tail _ (.tail _ (.tail _ (.tail _ (mdx _ _)))))))) (fun _ _ => .head _)
    ⟨fun _ _ => .tail _ (.tail _ (.tail _ (.head _))), fun tl i1 n1 => ((hp.take c3).drop c2).mono (tup tl i1 n1)⟩
    ⟨fun _ _ => .tail _ (.tail _ (.head _)), fun tl i1 n1 => (((hp.take c3).take c2).drop c1).mono (tup tl i1 n1)⟩
    ⟨fun _ _ => .tail _ (.head _), fun tl i1 n1 => ((((hp.take c3).take c2).take c1).drop c0).mono (tup tl i1 n1)⟩
    ⟨fun _ _ => .tail _ (.tail _ (.tail _ (.tail _ (.head _)))), fun tl i1 n1 => (hp.drop c3).mono (tup tl i1 n1)⟩
    (((((hp.take c3).take c2).take c1).take c0).mono fun T a ta b tb hm => by simpa using tup [] _ _ T a ta b tb hm) (five_le (tk_le (tk_le (tk_le (tk_le hps _) _) _) _) (dp_le (tk_le hps _) _) (dp_le (tk_le (tk_le hps _) _) _) (dp_le (tk_le (tk_le (tk_le hps _) _) _) _) (dp_le hps _)) ⟨rfl, rfl, rfl, rfl, rfl, rfl, rfl, rfl, rfl⟩ rfl rfl (hm6 (v := .none)) ?_
  intro m7 t7 its7 n7 arr gn tl S7 hn hsz hp7 mg7 e1 e2 e3
  show wpAny _ _ (execs (Stmt.Return (some (Expr.Compare (Expr.ListComp _ _ _ _) [CmpOp.Eq] [Expr.List [] _] _)) _ :: []) _) _ _ _
  refine wpAny_execs_cons (wpAny_Return_some (wpAny_Compare1 ?_))
  refine LCt.ListComp_T (F₀ := S7.F) (cl := []) rfl (by decide) rfl (by decide) rfl ?_
  refine load_local rfl rfl S7.F.ns mg7 (by decide) ?_
  refine LCt.CompSrcT.ledger (by rw [← hA3]; rfl) S7.F S7.N (.head _) (by rw [sizeLine_eq]; omega) fun g' => ?_
  refine compT_none .none (fun i v hv => hn v (by simpa using Array.mem_of_getElem? hv)) (fun I oI C oC D m₂ h tk E' hC hx F N off ne => ?_) ?_
  · have S8 := St.turn F N S7.D off ne
    refine wpAny_isTrue_Compare1 (load_local (env := compEnvC _ _ _ _) rfl rfl (hC.ns (S8.get (.tail _ (.head _)))) hx (by decide) (wpAny_Constant_none (wpAny_isNot_self rfl (truthy_b ?_))))
    rw [if_neg Bool.false_ne_true]
    refine St.end' S8 ?_ rfl
    exact .inr ⟨_, .head _, rfl, _, rfl⟩
  intro D h tk F N o1
  have S8 := S7.of F N (off1_all o1)
  refine List_ (Calls.spliced_nil ?_)
  refine wpAny_newObj_type ?_
  have S9 := S8.push (listOf #[] 0)
  refine eq_nil ⟨_, S9.get (.tail _ (.head _)), rfl, _, rfl⟩ ⟨_, S9.get (.head _), rfl, _, rfl⟩ (by rw [← hA3]; show un + _ + 64 < cLine; omega) ?_
  have S10 := S9.sub (news' := tl ++ nx its7 n7) ((((List.Sublist.refl tl).append (List.Sublist.cons _ (List.Sublist.cons _ (List.Sublist.cons _ (List.Sublist.cons _ (List.Sublist.cons _ (List.Sublist.cons _ (List.Sublist.cons _ (List.Sublist.refl _))))))))).cons _).cons _ |>.cons _)
  have hp8 : Pcs (tl ++ nx its7 n7) its7.toList (exchF ps c0 c1 c2 c3) := by
    have e : List.take c0 (List.take c1 (List.take c2 (List.take c3 ps))) ++ List.drop c2 (List.take c3 ps) ++ List.drop c1 (List.take c2 (List.take c3 ps)) ++ List.drop c0 (List.take c1 (List.take c2 (List.take c3 ps))) ++ List.drop c3 ps = exchF ps c0 c1 c2 c3 := by
      unfold exchF
      simp only [List.take_take, Nat.min_eq_left (Nat.le_of_lt h23), Nat.min_eq_left h12, Nat.min_eq_left (Nat.le_of_lt h01)]
    rw [← e]
    refine hp7.mono fun T a ta b tb hm => ?_
    rcases List.mem_append.mp hm with hm | hm
    · exact List.mem_append_left _ hm
    · refine List.mem_append_right _ ?_
      simp only [List.mem_cons] at hm
      rcases hm with e | e | e | e | e | e | e | e
      all_goals first
        | exact e
        | (have h9 : Value.type "tuple" = Value.type "list" := congrArg (fun z : Addr × Obj => z.2.cls) e; exact absurd h9 (by decide))
        | (have h9 : Data.seq #[Value.str a ta, Value.str b tb] = oc.data := congrArg (fun z : Addr × Obj => z.2.data) e; rw [hoc] at h9; cases h9)
  refine leaveK_ (m' := m7) (news' := tl ++ nx its7 n7) S10.F S10.N fun F N => ?_
  obtain ⟨h7, g7, d7, tk7, os7⟩ := t7
  dsimp only at e1 e2 e3
  subst e1 e2 e3
  exact hret its7 n7 tl _ _ ⟨F, N, S10.D⟩ hp8
end Mine
end
section
open PySem PySem.W PySem.Calls PyProof.Rows Builtin
set_option maxRecDepth 100000
set_option maxHeartbeats 4000000
namespace Mine
/-- a cell's object, whatever else it holds -/
noncomputable abbrev cW (q : Obj) (v : Option Value) : Obj := { q with data := .cell v }
theorem cW_of {o : Obj} {v : Option Value} (h : o.data = .cell v) : o = cW o v := by
  obtain ⟨a, b, c, d⟩ := o
  dsimp only at h
  subst h
  rfl
noncomputable abbrev lenv (L : Addr) : Env := envOfC (Str.ofString "law") f232.sc L 232 (.ref 231)
section
variable {prog : Program} {w : World} {A : Around} {E : Value → Shared → Prop} {h₀ : Heap} {s : Shared} {env : Env} {m : Str → Option Value} {news news' : List (Addr × Obj)} {x : Str} {v : Value}
theorem stL {Q : Unit → Shared → Prop} (S : St h₀ env.locals m news s.heap) (hl : env.kindOf x = some .local) (hp : (env.scope.kind == .class || (env.scope.kind == .module && env.locals != env.globals)) = false)
    (h : ∀ h' tk, St h₀ env.locals (fun y => if y = x then some v else m y) news h' → Q () { s with heap := h', toks := tk }) : wpAny (model prog w) A (storeName env x v) Q E s :=
  wpAny_storeName_local hl S.F.ns (fun h' hn hs => h h' _ (S.loc hn hs)) hp
theorem stC {Q : Unit → Shared → Prop} {c : Addr} {q : Obj} {v₀ : Option Value} (S : St h₀ env.locals m news s.heap) (hk : env.scope.kind = .function) (hl : env.kindOf x = some .cell) (hc : env.cells.lookup x = some c) (U : At c (cW q v₀) (cW q (some v)) news news')
    (h : ∀ h', St h₀ env.locals m news' h' → Q () { s with heap := h' }) : wpAny (model prog w) A (storeName env x v) Q E s := by
  have ho := S.get U.mem
  unfold storeName
  simp only [hl, hk]
  refine wpAny_bind (wpAny_cellOf hc ?_)
  unfold cellSet
  refine wpAny_bind (wpAny_load ho ?_)
  have e := Heap.get?_update_self (fun o : Obj => { o with data := Data.cell (some v) }) ho rfl
  exact wpAny_update ho (h _ (S.same U (Heap.SameBut.update ..) e))
theorem ldC {Q : Value → Shared → Prop} {pos : Pos} {c : Addr} {q : Obj} (S : St h₀ env.locals m news s.heap) (hk : env.scope.kind = .function) (hl : env.kindOf x = some .cell) (hc : env.cells.lookup x = some c) (hm : (c, cW q (some v)) ∈ news) (hd : (x == ("__debug__" : Str)) = false) (h : Q v s) :
    wpAny (model prog w) A (eval (.Name x pos) env) Q E s := wpAny_Name (wpAny_loadName_cell hk hl hc ⟨_, S.get hm, rfl⟩ h) hd
theorem se_const {env : Env} {rest : List PySem.Expr} {c : Const} {k : Nat} {pos : Pos} : starEach (.Constant c k pos :: rest) env = (false, eval (.Constant c k pos) env) :: starEach rest env := rfl
theorem se_name {env : Env} {rest : List PySem.Expr} {x : Str} {pos : Pos} : starEach (.Name x pos :: rest) env = (false, eval (.Name x pos) env) :: starEach rest env := rfl
theorem se_sub {env : Env} {rest : List PySem.Expr} {a b : PySem.Expr} {pos : Pos} : starEach (.Subscript a b pos :: rest) env = (false, eval (.Subscript a b pos) env) :: starEach rest env := rfl
theorem se_bin {env : Env} {rest : List PySem.Expr} {a b : PySem.Expr} {o : Operator} {pos : Pos} : starEach (.BinOp a o b pos :: rest) env = (false, eval (.BinOp a o b pos) env) :: starEach rest env := rfl
theorem se_un {env : Env} {rest : List PySem.Expr} {a : PySem.Expr} {o : UnaryOp} {pos : Pos} : starEach (.UnaryOp o a pos :: rest) env = (false, eval (.UnaryOp o a pos) env) :: starEach rest env := rfl
theorem spl {Q : List Value → Shared → Prop} {e : PySem.Expr} {rest : List PySem.Expr} {pos : Pos} (h : wpAny (model prog w) A (eval e env) (fun v s₁ => wpAny (model prog w) A (spliced (backTo pos (starEach rest env))) (fun vs s₂ => Q (v :: vs) s₂) E s₁) E s)
    (he : starEach (e :: rest) env = (false, eval e env) :: starEach rest env := by first | exact se_const | exact se_name | exact se_sub | exact se_bin | exact se_un | rfl) : wpAny (model prog w) A (spliced (backTo pos (starEach (e :: rest) env))) Q E s := by
  rw [he]
  exact Calls.spliced_cons h
theorem spl0 {Q : List Value → Shared → Prop} {pos : Pos} (h : Q [] s) : wpAny (model prog w) A (spliced (backTo pos (starEach [] env))) Q E s := Calls.spliced_nil h
theorem newL {Q : Value → Shared → Prop} {vs : List Value} (S : St h₀ env.locals m news s.heap) (hz : vs.length ≤ 1000) (h : ∀ l h', s.heap.get? l = none → St h₀ env.locals m ((l, listOf vs.toArray 0) :: news) h' → Q (.ref l) { s with heap := h' }) : wpAny (model prog w) A (newList vs) Q E s := by
  refine wpAny_newObj_type (h _ _ ?_ (S.push _)) (by show vs.toArray.size ≤ _; rw [List.size_toArray, sizeLine_eq]; omega)
  exact Heap.get?_none_of_le (Nat.le_refl _)
end
section
variable (L : Addr)
theorem lk_k : (lenv L).cells.lookup (Str.ofString "k") = some (L + 1) := rfl
theorem lk_order : (lenv L).cells.lookup (Str.ofString "order") = some (L + 1 + 1) := rfl
theorem lk_row : (lenv L).cells.lookup (Str.ofString "row") = some (L + 1 + 1 + 1) := rfl
theorem lk_rising : (lenv L).cells.lookup (Str.ofString "rising") = some (L + 1 + 1 + 1 + 1) := rfl
theorem lk_pile : (lenv L).cells.lookup (Str.ofString "pile") = some (L + 1 + 1 + 1 + 1 + 1) := rfl
theorem lk_numbers : (lenv L).cells.lookup (Str.ofString "numbers") = some (L + 1 + 1 + 1 + 1 + 1 + 1) := rfl
theorem lk_ring : (lenv L).cells.lookup (Str.ofString "ring") = some (L + 1 + 1 + 1 + 1 + 1 + 1 + 1) := rfl
theorem lk_late : (lenv L).cells.lookup (Str.ofString "late") = some (L + 1 + 1 + 1 + 1 + 1 + 1 + 1 + 1) := rfl
theorem lk_great : (lenv L).cells.lookup (Str.ofString "great") = some (L + 1 + 1 + 1 + 1 + 1 + 1 + 1 + 1 + 1) := rfl
end
/-- the law's nine cells -/
noncomputable abbrev cells9 (L : Addr) (q : Nat → Obj) (vk vo vr vs vp vn vg vl vt : Option Value) (rest : List (Addr × Obj)) : List (Addr × Obj) :=
  (L + 1, cW (q 1) vk) :: (L + 1 + 1, cW (q 2) vo) :: (L + 1 + 1 + 1, cW (q 3) vr) :: (L + 1 + 1 + 1 + 1, cW (q 4) vs) :: (L + 1 + 1 + 1 + 1 + 1, cW (q 5) vp) :: (L + 1 + 1 + 1 + 1 + 1 + 1, cW (q 6) vn) :: (L + 1 + 1 + 1 + 1 + 1 + 1 + 1, cW (q 7) vg) :: (L + 1 + 1 + 1 + 1 + 1 + 1 + 1 + 1, cW (q 8) vl) :: (L + 1 + 1 + 1 + 1 + 1 + 1 + 1 + 1 + 1, cW (q 9) vt) :: rest
section
variable {p : Program} {w : World} {lo : List Str} {mean : ExcName → Option Value} {mg mb : Str → Option Value} {E : Value → Shared → Prop} {A : Around} {prog : Program} {h₀ : Heap} {L : Addr} {m : Str → Option Value} {s : Shared} {news : List (Addr × Obj)} {Q : Value → Shared → Prop} {pos : Pos}
theorem ldB {x : Str} {v : Value} (hx : x ≠ "__name__") (e1 : nsIn (K w.params) mainGlobals x = some none) (e2 : bootBuiltins x = some v) (hk : (lenv L).kindOf x = some .globalImplicit) (hd : (x == ("__debug__" : Str)) = false)
    (X : (K w.params).In h₀) (T : Top p lo mean mg mb h₀) (S : St h₀ L m news s.heap) (h : Q v s) : wpAny (model prog w) A (eval (.Name x pos) (lenv L)) Q E s :=
  load_builtin rfl hk (T.g.keeps S.F.keep) (mg_none_of X T.g e1) (T.b.keeps S.F.keep) ((T.builtins _ hx).trans e2) hd h
theorem ldK {x : Str} {v : Value} (e1 : nsIn (K w.params) mainGlobals x = some (some v)) (hk : (lenv L).kindOf x = some .globalImplicit) (hd : (x == ("__debug__" : Str)) = false)
    (X : (K w.params).In h₀) (T : Top p lo mean mg mb h₀) (S : St h₀ L m news s.heap) (h : Q v s) : wpAny (model prog w) A (eval (.Name x pos) (lenv L)) Q E s :=
  load_global rfl hk (T.g.keeps S.F.keep) (mg_of X T.g e1) hd h
theorem ld_range (X : (K w.params).In h₀) (T : Top p lo mean mg mb h₀) (S : St h₀ L m news s.heap) (h : Q (.type "range") s) : wpAny (model prog w) A (eval (.Name (Str.ofString "range") pos) (lenv L)) Q E s := ldB (by decide) (by kernel_rfl) (by kernel_rfl) rfl (by decide) X T S h
theorem ld_len (X : (K w.params).In h₀) (T : Top p lo mean mg mb h₀) (S : St h₀ L m news s.heap) (h : Q (.builtin "len") s) : wpAny (model prog w) A (eval (.Name (Str.ofString "len") pos) (lenv L)) Q E s := ldB (by decide) (by kernel_rfl) (by kernel_rfl) rfl (by decide) X T S h
theorem ld_str (X : (K w.params).In h₀) (T : Top p lo mean mg mb h₀) (S : St h₀ L m news s.heap) (h : Q (.type "str") s) : wpAny (model prog w) A (eval (.Name (Str.ofString "str") pos) (lenv L)) Q E s := ldB (by decide) (by kernel_rfl) (by kernel_rfl) rfl (by decide) X T S h
theorem ld_min (X : (K w.params).In h₀) (T : Top p lo mean mg mb h₀) (S : St h₀ L m news s.heap) (h : Q (.builtin "min") s) : wpAny (model prog w) A (eval (.Name (Str.ofString "min") pos) (lenv L)) Q E s := ldB (by decide) (by kernel_rfl) (by kernel_rfl) rfl (by decide) X T S h
theorem ld_max (X : (K w.params).In h₀) (T : Top p lo mean mg mb h₀) (S : St h₀ L m news s.heap) (h : Q (.builtin "max") s) : wpAny (model prog w) A (eval (.Name (Str.ofString "max") pos) (lenv L)) Q E s := ldB (by decide) (by kernel_rfl) (by kernel_rfl) rfl (by decide) X T S h
end
theorem apart9 {L : Nat} {q : Nat → Obj} {o1 o2 : Obj} (h1 : 87 < L) (h2 : 94 < L) : (cells9 L q none none none none none none none none none [(87, o1), (94, o2)]).Pairwise fun p q => p.1 ≠ q.1 := by
  simp only [cells9, List.pairwise_cons, List.mem_cons, List.not_mem_nil, or_false, forall_eq_or_imp, forall_eq, ne_eq]
  refine ⟨?_, ?_, ?_, ?_, ?_, ?_, ?_, ?_, ?_, ?_, ?_, List.Pairwise.nil⟩
  all_goals (first | (exact fun _ h => h.elim) | decide | ((repeat' apply And.intro) <;> first | exact Nat.ne_of_lt (by omega) | exact Nat.ne_of_gt (by omega)))
/-- the law's frame stands -/
theorem law_enter {p : Program} {w : World} {lo : List Str} {mean : ExcName → Option Value} {mg mb : Str → Option Value} {R : Result → Shared → Prop} {s : Shared} {sa : Addr} (X : (K w.params).In s.heap) (T : Top p lo mean mg mb s.heap) (t1 : s.heap.get? 87 = some (tabO #[])) (t2 : s.heap.get? 94 = some (tabO #[]))
    (h : ∀ (p' : Program) (lo' : List Str) h₀ L h₁ tk q m, m (Str.ofString "script") = some (.ref sa) → h₀ = hideAll s.heap [87, 94] → (K w.params).In h₀ → Top p' lo' mean mg mb h₀ → St h₀ L m (cells9 L q none none none none none none none none none [(87, tabO #[]), (94, tabO #[])]) h₁ →
      wpAny (model prog w) (callerA.deeper (lenv L)) (execs f232.b (lenv L)) (fun f s' => R (.ok (.ret (match f with | .ret v => v | _ => .none))) s') (fun _ _ => False) { s with heap := h₁, toks := tk }) :
    codeAny (model prog w) callerA (.call (.ref 232) ⟨[.ref sa], []⟩) R s := by
  refine codeAny_call_cells (binds := [(Str.ofString "script", .ref sa)]) (by decide +kernel) (X 232 (o232 w.params) (by kernel_rfl)) rfl T.nolimit (codeRec_of X (by kernel_rfl)) rfl rfl rfl (fun y hy => by cases List.mem_singleton.mp hy; exact .inl rfl) fun s₁ Y => ?_
  have hT : TabsAt [(91, 87), (98, 94)] s.heap := by
    intro q hq
    rcases List.mem_cons.mp hq with rfl | hq
    · exact ⟨codeHd_of_K X (by kernel_rfl), t1⟩
    · cases List.mem_singleton.mp hq
      exact ⟨codeHd_of_K X (by kernel_rfl), t2⟩
  obtain ⟨h₁, tk, rfl, keep⟩ := Y.done
  dsimp only at Y keep
  have cell : ∀ n c, (cellsFrom (s.heap.objs.size + 1) f232.sc.names []).lookup n = some c → ∃ o, h₁.get? c = some o ∧ o.data = .cell none := fun n c hc => by
    obtain ⟨o, e, d⟩ := Y.cell n c hc
    exact ⟨o, e, d.trans rfl⟩
  generalize hL : s.heap.objs.size = L at *
  let g : Addr → Obj := fun c => (h₁.get? c).getD default
  have fresh : ∀ b, L ≤ b → (hideAll s.heap [87, 94]).get? b = none := fun b hb => Heap.get?_none_of_le (by rw [hideAll_size, hL]; exact hb)
  have l1 : 87 < L := hL ▸ Heap.lt_size t1
  have l2 : 94 < L := hL ▸ Heap.lt_size t2
  refine wpAny_mono (h _ _ _ L h₁ tk (fun i => g (L + i)) _ ?_ rfl (ghost_K hT X (by kernel_rfl)) (ghost_top hT T) ⟨⟨Y.toInCall.ns, fun b o e => keep b o (of_hideAll _ e), by rw [hideAll_size, hL]; exact Nat.le_refl _⟩, ?_, ?_⟩) (fun _ _ q => q) (fun _ _ q => q.elim)
  · rfl
  · have mk : ∀ n c, (cellsFrom (L + 1) f232.sc.names []).lookup n = some c → L < c → h₁.get? c = some (cW (g c) none) ∧ c ≠ L ∧ (hideAll s.heap [87, 94]).get? c = none := fun n c hl hc => by
      obtain ⟨o, e, d⟩ := cell n c hl
      refine ⟨?_, Nat.ne_of_gt hc, fresh c (Nat.le_of_lt hc)⟩
      show _ = some (cW ((h₁.get? c).getD default) none)
      rw [e]
      exact congrArg some (cW_of d)
    intro p hp
    simp only [cells9, List.mem_cons, List.not_mem_nil, or_false] at hp
    rcases hp with rfl | rfl | rfl | rfl | rfl | rfl | rfl | rfl | rfl | rfl | rfl
    · exact mk _ _ (lk_k L) (Nat.le_add_right (L + 1) 0)
    · exact mk _ _ (lk_order L) (Nat.le_add_right (L + 1) 1)
    · exact mk _ _ (lk_row L) (Nat.le_add_right (L + 1) 2)
    · exact mk _ _ (lk_rising L) (Nat.le_add_right (L + 1) 3)
    · exact mk _ _ (lk_pile L) (Nat.le_add_right (L + 1) 4)
    · exact mk _ _ (lk_numbers L) (Nat.le_add_right (L + 1) 5)
    · exact mk _ _ (lk_ring L) (Nat.le_add_right (L + 1) 6)
    · exact mk _ _ (lk_late L) (Nat.le_add_right (L + 1) 7)
    · exact mk _ _ (lk_great L) (Nat.le_add_right (L + 1) 8)
    · exact ⟨keep _ _ t1, Nat.ne_of_lt l1, hideAll_none _ (.head _)⟩
    · exact ⟨keep _ _ t2, Nat.ne_of_lt l2, hideAll_none _ (.tail _ (.head _))⟩
  · have l1' : (87 : Nat) < L := l1
    have l2' : (94 : Nat) < L := l2
    exact apart9 l1' l2'
end Mine
end
section
open PySem PySem.W PySem.Calls PyProof.Rows Builtin
set_option maxRecDepth 100000
set_option maxHeartbeats 4000000
namespace Mine
/-- another state of the same call: heap and tokens alone have moved -/
noncomputable abbrev Mv (s t : Shared) : Prop := t.os = s.os ∧ t.gens = s.gens ∧ t.drawn = s.drawn
theorem Mv.refl (s : Shared) : Mv s s := ⟨rfl, rfl, rfl⟩
theorem Mv.to {s t : Shared} (a : Mv s t) : t = { s with heap := t.heap, toks := t.toks } := by
  obtain ⟨h, g, d, k, o⟩ := t
  obtain ⟨e1, e2, e3⟩ := a
  dsimp only at e1 e2 e3
  subst e1 e2 e3
  rfl
noncomputable abbrev tabs (p1 p2 : Array Value) : List (Addr × Obj) := [(87, tabO p1), (94, tabO p2)]
/-- a list's object -/
structure LO (its : Array Value) (o : Obj) : Prop where
  c : o.cls = .type "list"
  d : ∃ n, o.data = .seq its n
theorem LO.mk' {its : Array Value} {n : Nat} : LO its (listOf its n) := ⟨rfl, n, rfl⟩
theorem St.isL {h₀ h : Heap} {L l : Addr} {m : Str → Option Value} {news : List (Addr × Obj)} {its : Array Value} {o : Obj} (S : St h₀ L m news h) (hm : (l, o) ∈ news) (ho : LO its o) : h.IsList l its := ⟨o, S.get hm, ho.c, ho.d⟩
/-- where a segment stands -/
structure Now (s₀ : Shared) (h₀ : Heap) (L : Addr) (m : Str → Option Value) (news : List (Addr × Obj)) (s : Shared) : Prop where
  st : St h₀ L m news s.heap
  mv : Mv s₀ s
theorem Now.isL {s₀ s : Shared} {h₀ : Heap} {L l : Addr} {m : Str → Option Value} {news : List (Addr × Obj)} {its : Array Value} {o : Obj} (S : Now s₀ h₀ L m news s) (hm : (l, o) ∈ news) (ho : LO its o) : s.heap.IsList l its := S.st.isL hm ho
theorem Now.pick {s₀ s : Shared} {h₀ : Heap} {L : Addr} {m : Str → Option Value} {news news' : List (Addr × Obj)} (S : Now s₀ h₀ L m news s) (k : Pick news' news) : Now s₀ h₀ L m news' s := ⟨S.st.pick k, S.mv⟩
section
variable {prog : Program} {w : World} {A : Around} {E : Value → Shared → Prop} {h₀ : Heap} {s₀ s : Shared} {env : Env} {m : Str → Option Value} {news news' : List (Addr × Obj)} {x : Str} {v : Value} {pos : Pos} {k : Nat} {a b : Int} {t u : Tok}
theorem nInt {Q : Value → Shared → Prop} (S : Now s₀ h₀ env.locals m news s) (h : ∀ t s', Now s₀ h₀ env.locals m news s' → Q (.int a t) s') : wpAny (model prog w) A (eval (.Constant (.int a) k pos) env) Q E s := wpAny_Constant_int (h _ _ ⟨S.st, S.mv⟩)
theorem nStr {y : Str} {Q : Value → Shared → Prop} (S : Now s₀ h₀ env.locals m news s) (h : ∀ t s', Now s₀ h₀ env.locals m news s' → Q (.str y t) s') : wpAny (model prog w) A (eval (.Constant (.str y) k pos) env) Q E s := wpAny_Constant_str (h _ _ ⟨S.st, S.mv⟩)
theorem eL {Q : Value → Shared → Prop} (S : Now s₀ h₀ env.locals m news s) (e : m x = some v) (h : Q v s) (hk : env.scope.kind = .function := by rfl) (hl : env.kindOf x = some .local := by rfl) (hd : (x == ("__debug__" : Str)) = false := by decide) : wpAny (model prog w) A (eval (.Name x pos) env) Q E s := load_local hk hl S.st.F.ns e hd h
theorem eC {Q : Value → Shared → Prop} {c : Addr} {q : Obj} (S : Now s₀ h₀ env.locals m news s) (hc : env.cells.lookup x = some c) (hm : (c, cW q (some v)) ∈ news) (h : Q v s) (hk : env.scope.kind = .function := by rfl) (hl : env.kindOf x = some .cell := by rfl) (hd : (x == ("__debug__" : Str)) = false := by decide) : wpAny (model prog w) A (eval (.Name x pos) env) Q E s := ldC S.st hk hl hc hm hd h
theorem sL {Q : Unit → Shared → Prop} (S : Now s₀ h₀ env.locals m news s) (h : ∀ s', Now s₀ h₀ env.locals (fun y => if y = x then some v else m y) news s' → Q () s') (hl : env.kindOf x = some .local := by rfl) (hp : (env.scope.kind == .class || (env.scope.kind == .module && env.locals != env.globals)) = false := by rfl) :
    wpAny (model prog w) A (storeName env x v) Q E s := stL S.st hl hp fun _ _ S' => h _ ⟨S', S.mv⟩
theorem sC {Q : Unit → Shared → Prop} {c : Addr} {q : Obj} {v₀ : Option Value} (S : Now s₀ h₀ env.locals m news s) (hc : env.cells.lookup x = some c) (U : At c (cW q v₀) (cW q (some v)) news news') (h : ∀ s', Now s₀ h₀ env.locals m news' s' → Q () s') (hk : env.scope.kind = .function := by rfl) (hl : env.kindOf x = some .cell := by rfl) :
    wpAny (model prog w) A (storeName env x v) Q E s := stC S.st hk hl hc U fun _ S' => h _ ⟨S', S.mv⟩
theorem tL {Q : Unit → Shared → Prop} (S : Now s₀ h₀ env.locals m news s) (h : ∀ s', Now s₀ h₀ env.locals (fun y => if y = x then some v else m y) news s' → Q () s') (hl : env.kindOf x = some .local := by rfl) (hp : (env.scope.kind == .class || (env.scope.kind == .module && env.locals != env.globals)) = false := by rfl) :
    wpAny (model prog w) A (assign (.Name x pos) env v) Q E s := wpAny_bind (wpAny_standAt (wpAny_bindName (sL S h hl hp)))
theorem tC {Q : Unit → Shared → Prop} {c : Addr} {q : Obj} {v₀ : Option Value} (S : Now s₀ h₀ env.locals m news s) (hc : env.cells.lookup x = some c) (U : At c (cW q v₀) (cW q (some v)) news news') (h : ∀ s', Now s₀ h₀ env.locals m news' s' → Q () s') (hk : env.scope.kind = .function := by rfl) (hl : env.kindOf x = some .cell := by rfl) :
    wpAny (model prog w) A (assign (.Name x pos) env v) Q E s := wpAny_bind (wpAny_standAt (wpAny_bindName (sC S hc U h hk hl)))
theorem nList {Q : Value → Shared → Prop} {vs : List Value} (S : Now s₀ h₀ env.locals m news s) (hz : vs.length ≤ 1000) (h : ∀ l s', Now s₀ h₀ env.locals m ((l, listOf vs.toArray 0) :: news) s' → Q (.ref l) s') : wpAny (model prog w) A (newList vs) Q E s :=
  newL S.st hz fun _ _ _ S' => h _ _ ⟨S', S.mv⟩
theorem nAdd {Q : Value → Shared → Prop} (S : Now s₀ h₀ env.locals m news s) (h : ∀ t s', Now s₀ h₀ env.locals m news s' → Q (.int (a + b) t) s') : wpAny (model prog w) A (binaryOp .Add (.int a t) (.int b u)) Q E s := wpAny_add_int (h _ _ ⟨S.st, S.mv⟩)
theorem nSub {Q : Value → Shared → Prop} (S : Now s₀ h₀ env.locals m news s) (h : ∀ t s', Now s₀ h₀ env.locals m news s' → Q (.int (a - b) t) s') : wpAny (model prog w) A (binaryOp .Sub (.int a t) (.int b u)) Q E s := sub_int (h _ _ ⟨S.st, S.mv⟩)
theorem nMod {Q : Value → Shared → Prop} (S : Now s₀ h₀ env.locals m news s) (hb : b ≠ 0) (h : ∀ t s', Now s₀ h₀ env.locals m news s' → Q (.int (a.fmod b) t) s') : wpAny (model prog w) A (binaryOp .Mod (.int a t) (.int b u)) Q E s := mod_int' hb (h _ _ ⟨S.st, S.mv⟩)
theorem nIAdd {Q : Value → Shared → Prop} (S : Now s₀ h₀ env.locals m news s) (h : ∀ t s', Now s₀ h₀ env.locals m news s' → Q (.int (a + b) t) s') : wpAny (model prog w) A (inplaceOp .Add (.int a t) (.int b u)) Q E s := iadd_int (h _ _ ⟨S.st, S.mv⟩)
theorem nFdiv {Q : Value → Shared → Prop} (S : Now s₀ h₀ env.locals m news s) (hb : b ≠ 0) (hp : Builtin.divisionGoesByPylong a b = false) (h : ∀ t s', Now s₀ h₀ env.locals m news s' → Q (.int (a.fdiv b) t) s') : wpAny (model prog w) A (binaryOp .FloorDiv (.int a t) (.int b u)) Q E s := floordiv_int hb (h _ _ ⟨S.st, S.mv⟩) (.inl hp)
theorem nIFdiv {Q : Value → Shared → Prop} (S : Now s₀ h₀ env.locals m news s) (hb : b ≠ 0) (hp : Builtin.divisionGoesByPylong a b = false) (h : ∀ t s', Now s₀ h₀ env.locals m news s' → Q (.int (a.fdiv b) t) s') : wpAny (model prog w) A (inplaceOp .FloorDiv (.int a t) (.int b u)) Q E s := ifloordiv_int hb (h _ _ ⟨S.st, S.mv⟩) (.inl hp)
theorem nMul {Q : Value → Shared → Prop} (S : Now s₀ h₀ env.locals m news s) (hm : IntMulOk a b) (h : ∀ t s', Now s₀ h₀ env.locals m news s' → Q (.int (a * b) t) s') : wpAny (model prog w) A (binaryOp .Mult (.int a t) (.int b u)) Q E s := mul_int (h _ _ ⟨S.st, S.mv⟩) hm
theorem nSet {Q : Unit → Shared → Prop} {l : Addr} {its : Array Value} {o : Obj} {nx : Obj → List (Addr × Obj)} (S : Now s₀ h₀ env.locals m news s) (U : ∀ o', At l o o' news (nx o')) (ho : LO its o) (h0 : 0 ≤ a) (hf : a < 2 ^ 63) (hn : a < its.size) (h : ∀ o' s', LO (its.setIfInBounds a.toNat v) o' → Now s₀ h₀ env.locals m (nx o') s' → Q () s') :
    wpAny (model prog w) A (setItem (.ref l) (.int a t) v) Q E s :=
  wpAny_setItem_list (S.isL (U o).mem ho) h0 hf hn fun _ hl' sb => let ⟨o', e, c, d⟩ := hl'; h o' _ ⟨c, d⟩ ⟨S.st.same (U o') sb e, S.mv⟩
theorem nGet {Q : Value → Shared → Prop} {l : Addr} {its : Array Value} {o : Obj} (S : Now s₀ h₀ env.locals m news s) (hm : (l, o) ∈ news) (ho : LO its o) (h0 : 0 ≤ a) (hf : a < 2 ^ 63) (hv : its[a.toNat]? = some v) (h : Q v s) : wpAny (model prog w) A (getItem (.ref l) (.int a t)) Q E s := wpAny_getItem_list (S.isL hm ho) h0 hf hv h
theorem nApp {Q : Value → Shared → Prop} {l : Addr} {its : Array Value} {n : Nat} {nx : Nat → List (Addr × Obj)} (S : Now s₀ h₀ env.locals m news s) (U : ∀ n', At l (listOf its n) (listOf (its.push v) n') news (nx n')) (hz : its.size ≤ 1000) (h : ∀ n' s', Now s₀ h₀ env.locals m (nx n') s' → Q .none s') :
    wpAny (model prog w) A (call (.builtin "list.append") [.ref l, v]) Q E s :=
  wpAny_list_append_plain ⟨n, S.st.get (U n).mem⟩ (fun _ hl sb => let ⟨n', e⟩ := hl; h n' _ ⟨S.st.same (U n') sb e, S.mv⟩) (by rw [sizeLine_eq]; omega)
theorem gmApp {Q : Value × List Value → Shared → Prop} {pl : Sem Bool} {l : Addr} {its : Array Value} {n : Nat} (S : Now s₀ h₀ env.locals m news s) (hm : (l, listOf its n) ∈ news) (h : Q (.builtin "list.append", [.ref l]) s) : wpAny (model prog w) A (getMethod (.ref l) (Str.ofString "append") pl) Q E s := getMethod_list_append (S.st.get hm) rfl rfl h
theorem gmIdx {Q : Value × List Value → Shared → Prop} {pl : Sem Bool} {l : Addr} {its : Array Value} {n : Nat} (S : Now s₀ h₀ env.locals m news s) (hm : (l, listOf its n) ∈ news) (h : Q (.builtin "list.index", [.ref l]) s) : wpAny (model prog w) A (getMethod (.ref l) (Str.ofString "index") pl) Q E s :=
  getMethod_builtin ⟨_, S.st.get hm, rfl⟩ PySem.F.plainAttrs_list PySem.F.slot_list_index PySem.F.type_list_index (fun a e => by cases e; exact ⟨_, S.st.get hm, rfl⟩) h
theorem gmPop {Q : Value × List Value → Shared → Prop} {pl : Sem Bool} {l : Addr} {its : Array Value} {n : Nat} (S : Now s₀ h₀ env.locals m news s) (hm : (l, listOf its n) ∈ news) (h : Q (.builtin "list.pop", [.ref l]) s) : wpAny (model prog w) A (getMethod (.ref l) (Str.ofString "pop") pl) Q E s :=
  getMethod_builtin ⟨_, S.st.get hm, rfl⟩ PySem.F.plainAttrs_list PySem.F.slot_list_pop PySem.F.type_list_pop (fun a e => by cases e; exact ⟨_, S.st.get hm, rfl⟩) h
theorem nIdx {Q : Value → Shared → Prop} {l : Addr} {vs : List Value} {ns : List Str} {o : Obj} {y : Str} (S : Now s₀ h₀ env.locals m news s) (hm : (l, o) ∈ news) (ho : LO vs.toArray o) (hi : StrsAre vs ns) (hb : ns.length ≤ 100) (hy : y ∈ ns) (h : ∀ t s', Now s₀ h₀ env.locals m news s' → Q (.int (ns.idxOf y : Nat) t) s') :
    wpAny (model prog w) A (call (.builtin "list.index") [.ref l, .str y t]) Q E s :=
  index_strs (S.isL hm ho) hi hb (List.any_eq_true.mpr ⟨y, hy, beq_self_eq_true y⟩) (h _ _ ⟨S.st, S.mv⟩)
theorem nIdxI {Q : Value → Shared → Prop} {l : Addr} {vs : List Value} {ns : List Int} {o : Obj} (S : Now s₀ h₀ env.locals m news s) (hm : (l, o) ∈ news) (ho : LO vs.toArray o) (hi : IntsAre vs ns) (hb : PyData.layable0 (.list (ns.map .int)) = true) (hy : a ∈ ns) (h : ∀ t s', Now s₀ h₀ env.locals m news s' → Q (.int (ns.idxOf a : Nat) t) s') :
    wpAny (model prog w) A (call (.builtin "list.index") [.ref l, .int a t]) Q E s := index_list_ints (S.isL hm ho) hi hb hy (h _ _ ⟨S.st, S.mv⟩)
theorem nPop {Q : Value → Shared → Prop} {l : Addr} {its : Array Value} {n j : Nat} {nx : Nat → List (Addr × Obj)} (S : Now s₀ h₀ env.locals m news s) (U : ∀ n', At l (listOf its n) (listOf (its.eraseIdxIfInBounds j) n') news (nx n')) (hj : a = (j : Int)) (hv : its[j]? = some v) (hz : its.size ≤ 1000) (h : ∀ n' s', Now s₀ h₀ env.locals m (nx n') s' → Q v s') :
    wpAny (model prog w) A (call (.builtin "list.pop") [.ref l, .int a t]) Q E s := by
  have ho := S.st.get (U n).mem
  have hjs : j < its.size := by
    rcases Nat.lt_or_ge j its.size with h | h
    · exact h
    · rw [Array.getElem?_eq_none h] at hv; cases hv
  have hj63 : a < 2 ^ 63 := hj ▸ Int.lt_of_lt_of_le (Int.ofNat_lt.mpr (Nat.lt_of_lt_of_le hjs hz)) (by omega)
  have hfit : Builtin.List.listFitsIndex a = true := fitsIndex_of (hj ▸ Int.natCast_nonneg j) hj63
  have hk : seqIndex? a its.size = some j := by rw [seqIndex_of (hj ▸ Int.natCast_nonneg j) (hj ▸ Int.ofNat_lt.mpr hjs), hj]; rfl
  have e : ∃ n', Obj.mapSeq (fun xs => xs.eraseIdxIfInBounds j) (listOf its n) = listOf (its.eraseIdxIfInBounds j) n' := by
    unfold Obj.mapSeq
    exact ⟨_, rfl⟩
  obtain ⟨n', e⟩ := e
  have hs : its.size ≤ sizeLine := by rw [sizeLine_eq]; omega
  have M := PySem.MeetsSeq.list_pop_at l its n a t j v hfit hk hv hs
  refine call_meets PySem.F.slot_list_pop ⟨_, ho, rfl⟩ PySem.F.entry_list_pop (PySem.F.args_list_pop_2 _ _) M ⟨ho, ?_⟩
  refine h n' _ ⟨S.st.same (U n') (Heap.SameBut.update ..) ?_, S.mv⟩
  rw [Heap.get?_update_self _ ho (by rw [e]; rfl), e]
inductive SliceGo (s₀ : Shared) (h₀ : Heap) (L : Addr) (Q : Value → Shared → Prop) (o vl vu : Value) (s₃ : Shared) : Prop
  | mk (l : Addr) (its : Array Value) (ol : Obj) (lo hi : Option Int) (m : Str → Option Value) (news : List (Addr × Obj)) (e : o = .ref l) (S : Now s₀ h₀ L m news s₃) (hm : (l, ol) ∈ news) (ho : LO its ol) (hz : its.size ≤ 1000) (pl : IsPart vl lo) (pu : IsPart vu hi)
      (hq : ∀ r s', Now s₀ h₀ L m ((r, listOf (slicePick its lo hi none) 0) :: news) s' → Q (.ref r) s') : SliceGo s₀ h₀ L Q o vl vu s₃
theorem nSlice {value : PySem.Expr} {lower upper : Option PySem.Expr} {p₁ p₂ : Pos} {Q : Value → Shared → Prop}
    (h : wpAny (model prog w) A (eval value env) (fun o s₁ => wpAny (model prog w) A (evalPart lower env) (fun vl s₂ => wpAny (model prog w) A (evalPart upper env) (fun vu s₃ => SliceGo s₀ h₀ env.locals Q o vl vu s₃) E s₂) E s₁) E s)
    (ht : ∀ o r, letTemporaryGo value o r = pure () := by intro _ _; rfl) : wpAny (model prog w) A (eval (.Subscript value (.Slice lower upper none p₁) p₂) env) Q E s := by
  refine wpAny_Subscript_list_slice (wpAny_mono h (fun o s₁ h₁ => wpAny_mono h₁ (fun vl s₂ h₂ => wpAny_mono h₂ (fun vu s₃ h₃ => ?_) fun _ _ e => e) fun _ _ e => e) fun _ _ e => e) ht
  obtain ⟨l, its, ol, lo, hi, m, news, rfl, S, hm, ho, hz, pl, pu, hq⟩ := h₃
  refine ⟨l, its, lo, hi, rfl, S.isL hm ho, by rw [sizeLine_eq]; omega, pl, pu, ?_⟩
  have S1 := (S.st.push { cls := .type "slice", data := .fields #[vl, vu, .none] }).push (listOf (slicePick its lo hi none) 0)
  rw [Heap.size_push] at S1
  exact hq _ _ ⟨S1.pick (.cons .here (.drop .all)), S.mv⟩
theorem nCatL {Q : Value → Shared → Prop} {l r : Addr} {its its2 : Array Value} {n n2 : Nat} (S : Now s₀ h₀ env.locals m news s) (hl : (l, listOf its n) ∈ news) (hr : (r, listOf its2 n2) ∈ news) (hz : its.size + its2.size ≤ 1000) (h : ∀ l' s', Now s₀ h₀ env.locals m ((l', listOf (its.toList ++ its2.toList).toArray 0) :: news) s' → Q (.ref l') s') :
    wpAny (model prog w) A (binaryOp .Add (.ref l) (.ref r)) Q E s :=
  list_add S.st.F S.st.N hl hr rfl (by rw [Array.length_toList, Array.length_toList]; exact hz) fun l' _ F N lt => h l' _ ⟨S.st.of F N fun p hp => Nat.ne_of_lt (lt p hp), S.mv⟩
theorem nRange1 {Q : Value → Shared → Prop} (S : Now s₀ h₀ env.locals m news s) (h : ∀ r t1 t2 t3 s', Now s₀ h₀ env.locals m news s' → IsRange s'.heap r 0 a 1 t1 t2 t3 → Q (.ref r) s') : wpAny (model prog w) A (call (.type "range") [.int a t]) Q E s :=
  call_range_1 (h _ _ _ _ _ ⟨(S.st.push _).pick (.drop .all), S.mv⟩ (IsRange.new ..))
theorem nRange2 {Q : Value → Shared → Prop} (S : Now s₀ h₀ env.locals m news s) (h : ∀ r t1 t2 t3 s', Now s₀ h₀ env.locals m news s' → IsRange s'.heap r a b 1 t1 t2 t3 → Q (.ref r) s') : wpAny (model prog w) A (call (.type "range") [.int a t, .int b u]) Q E s :=
  call_range_2 (h _ _ _ _ _ ⟨(S.st.push _).pick (.drop .all), S.mv⟩ (IsRange.new ..))
theorem nLen {Q : Value → Shared → Prop} {l : Addr} {its : Array Value} {o : Obj} (S : Now s₀ h₀ env.locals m news s) (hm : (l, o) ∈ news) (ho : LO its o) (hz : its.size ≤ 1000) (h : ∀ t s', Now s₀ h₀ env.locals m news s' → Q (.int (its.size : Nat) t) s') : wpAny (model prog w) A (call (.builtin "len") [.ref l]) Q E s :=
  call_len_list (S.isL hm ho) (by omega) (h _ _ ⟨S.st, S.mv⟩)
/-- a display of written strs or ints -/
inductive SConsts : List PySem.Expr → List Str → Prop
  | nil : SConsts [] []
  | cons {x : Str} {k : Nat} {pos : Pos} {es xs} : SConsts es xs → SConsts (.Constant (.str x) k pos :: es) (x :: xs)
inductive IConsts : List PySem.Expr → List Int → Prop
  | nil : IConsts [] []
  | cons {x : Int} {k : Nat} {pos : Pos} {es xs} : IConsts es xs → IConsts (.Constant (.int x) k pos :: es) (x :: xs)
theorem spl_strs {es : List PySem.Expr} {xs : List Str} (c : SConsts es xs) : ∀ {Q : List Value → Shared → Prop} {s : Shared}, Now s₀ h₀ env.locals m news s → (∀ vs s', StrsAre vs xs → Now s₀ h₀ env.locals m news s' → Q vs s') → wpAny (model prog w) A (spliced (backTo pos (starEach es env))) Q E s := by
  induction c with
  | nil => intro Q s S h; exact spl0 (h [] s .nil S)
  | cons c ih => intro Q s S h; exact spl (nStr S fun t s' S' => ih S' fun vs s2 hv S2 => h _ _ (.cons _ t hv) S2)
theorem spl_ints {es : List PySem.Expr} {xs : List Int} (c : IConsts es xs) : ∀ {Q : List Value → Shared → Prop} {s : Shared}, Now s₀ h₀ env.locals m news s → (∀ vs s', IntsAre vs xs → Now s₀ h₀ env.locals m news s' → Q vs s') → wpAny (model prog w) A (spliced (backTo pos (starEach es env))) Q E s := by
  induction c with
  | nil => intro Q s S h; exact spl0 (h [] s .nil S)
  | cons c ih => intro Q s S h; exact spl (nInt S fun t s' S' => ih S' fun vs s2 hv S2 => h _ _ (.cons _ t hv) S2)
theorem dispS {es : List PySem.Expr} {xs : List Str} {Q : Value → Shared → Prop} (c : SConsts es xs) (hz : xs.length ≤ 1000) (S : Now s₀ h₀ env.locals m news s) (h : ∀ l vs s', StrsAre vs xs → Now s₀ h₀ env.locals m ((l, listOf vs.toArray 0) :: news) s' → Q (.ref l) s') : wpAny (model prog w) A (eval (.List es pos) env) Q E s :=
  List_ (spl_strs c S fun vs s' hv S' => nList S' (by rw [strs_len hv]; exact hz) fun l s2 S2 => h l vs s2 hv S2)
theorem dispI {es : List PySem.Expr} {xs : List Int} {Q : Value → Shared → Prop} (c : IConsts es xs) (hz : xs.length ≤ 1000) (S : Now s₀ h₀ env.locals m news s) (h : ∀ l vs s', IntsAre vs xs → Now s₀ h₀ env.locals m ((l, listOf vs.toArray 0) :: news) s' → Q (.ref l) s') : wpAny (model prog w) A (eval (.List es pos) env) Q E s :=
  List_ (spl_ints c S fun vs s' hv S' => nList S' (by rw [IntsAre.length hv]; exact hz) fun l s2 S2 => h l vs s2 hv S2)
inductive ListGoJ (prog : Program) (w : World) (A : Around) (env : Env) (target : PySem.Expr) (body : List Stmt) (h₀ : Heap) (L : Addr) (Q : Flow → Shared → Prop) (v : Value) (s₁ : Shared) : Prop
  | mk (l : Addr) (its : Array Value) (m : Str → Option Value) (news : List (Addr × Obj)) (J : Nat → (Str → Option Value) → List (Addr × Obj) → Shared → Prop) (e : v = .ref l) (hJ : ∀ i m news t g tk, J i m news t → J i m news { t with heap := g, toks := tk }) (G : ForGo prog w A env target body h₀ L its.size (fun i v => its[i]? = some v) (LCg.SrcAt h₀ l its) Q J m news s₁) : ListGoJ prog w A env target body h₀ L Q v s₁
/-- a loop over a list; what holds between the turns may name the list -/
theorem for_List {target iter : PySem.Expr} {body : List Stmt} {L : Addr} {Q : Flow → Shared → Prop} (hh : A.handled = none) (hs : ∀ x, foldedSetIterable iter env x = pure x)
    (h : wpAny (model prog w) A (eval iter env) (fun v s₁ => ListGoJ prog w A env target body h₀ L Q v s₁) E s) :
    wpAny (model prog w) A (exec (.For target iter body [] pos) env) Q E s := by
  refine wpAny_For (wpAny_mono h (fun v s₁ h₁ => ?_) fun _ _ e => e) hs
  obtain ⟨l, its, m, news, J, rfl, hJ, G⟩ := h₁
  have hl := G.src.list G.st.F.keep G.st.N
  have hlt : l < s₁.heap.objs.size := by obtain ⟨_, e, _⟩ := hl; exact Heap.lt_size e
  refine wpAny_pyIter_list hl ?_
  exact for_walk (Walks.list hh s₁.heap.objs.size l (Nat.ne_of_lt hlt) its) (fun i h st => by obtain ⟨o, e, hc, _⟩ := st.1; exact ⟨o, e, by rw [hc]; decide⟩) LCg.list_st G ⟨_, rfl, rfl⟩ rfl ⟨⟨_, Heap.get?_push_size _ rfl, rfl, rfl⟩, hl.push _⟩ hJ fun i v s' Q' E' sg q => letGo_listiter sg.1 q
end
end Mine
end
section
open PySem PySem.W PySem.Calls PyProof.Rows Builtin
set_option maxRecDepth 100000
set_option maxHeartbeats 4000000
namespace Mine
noncomputable abbrev PR : Program := PySem.Challenge.rw_xl0024_01.prog
noncomputable abbrev lawA (L : Addr) : Around := callerA.deeper (lenv L)
/-- what is left of the law from statement i on -/
structure Rest (w : World) (L : Addr) (Q : Flow → Shared → Prop) (E : Value → Shared → Prop) (i : Nat) (s : Shared) : Prop where
  run : wpAny (model PR w) (lawA L) (execs (f232.b.drop i) (lenv L)) Q E s
theorem set2a {x y z : Value} : (#[x, y] : Array Value).setIfInBounds (Int.toNat 0) z = #[z, y] := rfl
theorem set2b {x y z : Value} : (#[x, y] : Array Value).setIfInBounds (Int.toNat 1) z = #[x, z] := rfl
section
variable {p : Program} {w : World} {lo : List Str} {mean : ExcName → Option Value} {mg mb : Str → Option Value} {E : Value → Shared → Prop} {h₀ : Heap} {L sa : Addr} {m : Str → Option Value} {s₀ s : Shared} {Q : Flow → Shared → Prop} {q : Nat → Obj}
inductive J1 (L ce sa : Addr) (q : Nat → Obj) (m' : Str → Option Value) (news : List (Addr × Obj)) (M : Prop) : Prop
  | mk (c0 c1 : Int) (t0 t1 : Tok) (oC : Obj) (vk : Option Value) (e : news = (ce, oC) :: cells9 L q vk none none none none none none none none (tabs #[] #[])) (h1 : LO #[.int c0 t0, .int c1 t1] oC) (h2 : m' (Str.ofString "cells") = some (.ref ce)) (h3 : m' (Str.ofString "script") = some (.ref sa)) (h4 : M) : J1 L ce sa q m' news M
theorem law_1 {vs : List Value} {ns : List Int} (X : (K w.params).In h₀) (T : Top p lo mean mg mb h₀) (S : Now s₀ h₀ L m (cells9 L q none none none none none none none none none (tabs #[] #[])) s) (ms : m (Str.ofString "script") = some (.ref sa)) (hs : h₀.IsList sa vs.toArray) (hi : IntsAre vs ns) (hn : ns.length ≤ 63)
    (hQ : ∀ m' s' ce oC vk c0 c1 t0 t1, Now s₀ h₀ L m' ((ce, oC) :: cells9 L q vk none none none none none none none none (tabs #[] #[])) s' → LO #[.int c0 t0, .int c1 t1] oC → m' (Str.ofString "cells") = some (.ref ce) → Rest w L Q E 2 s') : Rest w L Q E 0 s := by
  refine ⟨?_⟩
  show wpAny _ _ (execs (Stmt.Assign [Expr.Name _ _] (Expr.List _ _) _ :: Stmt.For _ _ _ _ _ :: List.drop 2 f232.b) _) _ _ _
  refine wpAny_execs_cons (wpAny_Assign_Name (List_ ?_))
  refine spl (nInt (env := lenv L) (m := m) S fun t0 s1 S => spl (nInt S fun t1 s2 S => spl0 (nList S (Nat.le_of_ble_eq_true rfl) fun ce s3 S => sL S fun s4 S => ?_)))
  show wpAny _ _ (execs (Stmt.For _ _ _ _ _ :: List.drop 2 f232.b) _) _ _ _
  refine wpAny_execs_cons ?_
  have hvn : vs.length = ns.length := IntsAre.length hi
  refine for_St_range (h₀ := h₀) (L := L) (J := fun i m' news t => J1 L ce sa q m' news (Mv s₀ t)) rfl (fun _ _ _ _ _ _ h => h) (fun _ _ => rfl) (fun _ => rfl) ?_
  refine Call_Name1 (ld_range X T S.st (callWith_type1 ?_))
  refine Call_Name1 (ld_len X T S.st (PySem.callWith_builtin1 ?_))
  have ms4 : (fun y => if y = Str.ofString "cells" then some (Value.ref ce) else m y) (Str.ofString "script") = some (.ref sa) := by
    show (if _ then _ else _) = _
    rw [if_neg (by decide)]
    exact ms
  refine eL (v := .ref sa) S ms4 ?_
  refine call_len_list (hs.at fun o e => S.st.F.keep _ _ e) (by rw [List.size_toArray]; omega) ?_
  refine nRange1 (env := lenv L) ⟨S.st, S.mv⟩ fun r u1 u2 u3 s5 S hr => ?_
  refine ⟨r, 0, (vs.toArray.size : Nat), _, _, _, vs.toArray.size, _, (ce, listOf #[.int 10684 t0, .int 12 t1] 0) :: cells9 L q none none none none none none none none none (tabs #[] #[]), rfl, hr, small_one (by omega) (by omega) (by omega) (by rw [List.size_toArray]; omega), (rangeSize_nat _ _).trans (by simp), ⟨S.st, trivial, fun g => ⟨_, _, _, _, _, _, rfl, LO.mk', rfl, ms4, S.mv⟩, ?_, ?_⟩⟩
  · rintro i v m' news t tk I oI hi' ⟨u, rfl⟩ ⟨c0, c1, t0, t1, oC, vk, rfl, hL, mc, ms', mv⟩ - S4 - E'
    have S : Now s₀ h₀ L m' _ { t with toks := tk } := ⟨S4, mv⟩
    refine tC (q := q 1) S (lk_k L) (.tail (.tail .head)) fun s6 S => ?_
    refine wpAny_execs_cons (wpAny_AugAssign_Subscript_any ?_)
    refine eL (v := .ref ce) S mc ?_
    refine wpAny_BinOp (eC (q := q 1) S (lk_k L) (.tail _ (.tail _ (.head _))) (nInt S fun _ s7 S => nMod S (by decide) fun _ s8 S => ?_))
    obtain ⟨n, tn, hv⟩ : ∃ n tn, vs[i]? = some (.int n tn) := by
      have hlt : i < vs.length := by simpa using hi'
      obtain ⟨n, t, e, _⟩ := IntsAre.at hi i vs[i] (by simp [hlt])
      exact ⟨n, t, by rw [← e]; simp [hlt]⟩
    have hib : i < 63 := by
      have : i < vs.length := by simpa using hi'
      omega
    have hj : ((0 : Int) + (i : Int)).fmod 2 = 0 ∨ ((0 : Int) + (i : Int)).fmod 2 = 1 := by
      rw [Int.fmod_eq_emod_of_nonneg _ (by decide)]; omega
    have key : ∀ (p1 p2 p3 : Pos) c, wpAny (model PR w) (lawA L) (eval (Expr.Subscript (Expr.Name (Str.ofString "script") p1) (Expr.Name (Str.ofString "k") p2) p3) (lenv L)) (fun v s' => s' = s8 ∧ v = .int n tn) c s8 := fun _ _ _ c =>
      sub_list (eL (v := .ref sa) S ms' (eC (q := q 1) S (lk_k L) (.tail _ (.tail _ (.head _))) ⟨sa, vs.toArray, _, _, .int n tn, rfl, rfl, hs.at fun o e => S.st.F.keep _ _ e, by omega, by omega, by rw [show ((0 : Int) + (i : Int)).toNat = i by omega]; simpa using hv, rfl, rfl⟩))
    rcases hj with hj | hj
    all_goals
      rw [hj]
      refine nGet S (.tail _ (.head _)) hL (by decide) (by decide) rfl ?_
      refine wpAny_mono (key _ _ _ _) (fun v s' e => ?_) fun _ _ e => e
      obtain ⟨rfl, rfl⟩ := e
      refine nIAdd S fun _ s9 S => ?_
      refine nSet (nx := fun o' => (I, oI) :: (ce, o') :: _) S (fun _ => .tail .head) hL (by decide) (by decide) (by show _ < (2 : Int); decide) fun o6 s10 hl6 S => ?_
      first | rw [set2a] at hl6 | rw [set2b] at hl6
      exact wpAny_execs_nil ⟨m', _, S.st, ⟨_, _, _, _, o6, _, rfl, hl6, mc, ms', S.mv⟩, trivial⟩
  · rintro m' news t tk ⟨c0, c1, t0, t1, oC, vk, rfl, hL, mc, ms', mv⟩ S'
    obtain ⟨r⟩ := hQ m' { t with toks := tk } ce oC vk c0 c1 t0 t1 ⟨S', mv⟩ hL mc
    show wpAny (model PR w) (lawA L) (execs (f232.b.drop 2) (lenv L)) Q E _
    with_reducible exact @r
end
end Mine
end
section
open PySem PySem.W PySem.Calls PyProof.Rows Builtin
set_option maxRecDepth 100000
set_option maxHeartbeats 1000000
namespace Mine
/-- the twelve signs -/
noncomputable def ordL : List Str := [Str.ofString "(", Str.ofString ")", Str.ofString "[", Str.ofString "]", Str.ofString "+", Str.ofString "-", Str.ofString "*", Str.ofString "/", Str.ofString "|", Str.ofString "&", Str.ofString "<", Str.ofString ">"]
/-- the row that is being drawn from the pool -/
structure Draw (i : Nat) (pool row : List Str) : Prop where
  p : (row ++ pool).Perm ordL
  n : row.length = i
theorem strs_erase {vs : List Value} {xs : List Str} (h : StrsAre vs xs) : ∀ j, StrsAre (vs.eraseIdx j) (xs.eraseIdx j) := by
  induction h with
  | nil => intro j; simp only [List.eraseIdx_nil]; exact .nil
  | cons x t r ih =>
    intro j
    cases j with
    | zero => exact r
    | succ j => exact .cons x t (ih j)
theorem perm_erase {α : Type} : ∀ {l : List α} {j : Nat} {y : α}, l[j]? = some y → (y :: l.eraseIdx j).Perm l
  | [], j, y, h => by simp at h
  | a :: l, 0, y, h => by cases h; exact .refl _
  | a :: l, j + 1, y, h => (List.Perm.swap _ _ _).trans (.cons _ (perm_erase (l := l) (j := j) (by simpa using h)))
theorem Draw.step {i j : Nat} {pool row : List Str} {y : Str} (d : Draw i pool row) (h : pool[j]? = some y) : Draw (i + 1) (pool.eraseIdx j) (row ++ [y]) := by
  have p := perm_erase h
  refine ⟨?_, by rw [List.length_append, d.n]; rfl⟩
  rw [List.append_assoc]
  exact (p.append_left row).trans d.p
theorem erase_toList (a : Array Value) (j : Nat) : (a.eraseIdxIfInBounds j).toList = a.toList.eraseIdx j := by
  rcases a with ⟨l⟩
  simp only [Array.eraseIdxIfInBounds, List.size_toArray]
  split
  · simp
  · rename_i h
    simp only [List.eraseIdx_of_length_le (Nat.le_of_not_lt h)]
section
variable {p : Program} {w : World} {lo : List Str} {mean : ExcName → Option Value} {mg mb : Str → Option Value} {E : Value → Shared → Prop} {h₀ : Heap} {L ce : Addr} {m : Str → Option Value} {s₀ s : Shared} {Q : Flow → Shared → Prop} {q : Nat → Obj} {oC : Obj} {vk : Option Value} {c0 c1 : Int} {t0 t1 : Tok}
inductive J2 (L sz rl pl od ce : Addr) (q : Nat → Obj) (szL oL : List Value) (vk : Option Value) (c1 : Int) (t1 : Tok) (i : Nat) (m' : Str → Option Value) (news : List (Addr × Obj)) (M : Prop) : Prop
  | mk (pA : Array Value) (pn : Nat) (rA : Array Value) (rn : Nat) (c0 : Int) (t0 : Tok) (oC : Obj) (pool row : List Str) (e : news = (sz, listOf szL.toArray 0) :: (rl, listOf rA rn) :: (pl, listOf pA pn) :: (od, listOf oL.toArray 0) :: (ce, oC) :: cells9 L q vk (some (.ref od)) (some (.ref rl)) none none none none none none (tabs #[] #[])) (h1 : LO #[.int c0 t0, .int c1 t1] oC) (h2 : m' (Str.ofString "cells") = some (.ref ce)) (h3 : m' (Str.ofString "pool") = some (.ref pl)) (h4 : StrsAre pA.toList pool) (h5 : StrsAre rA.toList row) (h6 : Draw i pool row) (h7 : M) : J2 L sz rl pl od ce q szL oL vk c1 t1 i m' news M
theorem law_2 (X : (K w.params).In h₀) (T : Top p lo mean mg mb h₀) (S : Now s₀ h₀ L m ((ce, oC) :: cells9 L q vk none none none none none none none none (tabs #[] #[])) s) (hC : LO #[.int c0 t0, .int c1 t1] oC) (mc : m (Str.ofString "cells") = some (.ref ce))
    (hQ : ∀ m' s' od rl oC c0 t0 oA rA rn row, Now s₀ h₀ L m' ((ce, oC) :: (rl, listOf rA rn) :: (od, listOf oA 0) :: cells9 L q vk (some (.ref od)) (some (.ref rl)) none none none none none none (tabs #[] #[])) s' → LO #[.int c0 t0, .int c1 t1] oC → m' (Str.ofString "cells") = some (.ref ce) → StrsAre oA.toList ordL → StrsAre rA.toList row → (∀ x ∈ row, x ∈ ordL) → row.Nodup → row.length = 4 → Rest w L Q E 6 s') : Rest w L Q E 2 s := by
  refine ⟨?_⟩
  show wpAny _ _ (execs (Stmt.Assign [Expr.Name _ _] (Expr.List _ _) _ :: Stmt.Assign [Expr.Name _ _] (Expr.Subscript _ _ _) _ :: Stmt.Assign [Expr.Name _ _] (Expr.List _ _) _ :: Stmt.For _ _ _ _ _ :: List.drop 6 f232.b) _) _ _ _
  refine wpAny_execs_cons ?_
  refine wpAny_Assign_Name ?_
  refine' dispS ?c ?z ?S ?h
  case c => exact (show SConsts _ ordL from by repeat constructor)
  case z => exact Nat.le_of_ble_eq_true rfl
  case S => exact S
  intro od oL _ hO S
  have hOz : oL.length = 12 := strs_len hO
  refine sC (q := q 2) S (lk_order L) (.tail (.tail (.tail .head))) fun _ S => ?_
  show wpAny _ _ (execs (Stmt.Assign [Expr.Name _ _] (Expr.Subscript _ _ _) _ :: _) _) _ _ _
  refine wpAny_execs_cons ?_
  refine wpAny_Assign_Name ?_
  refine nSlice (s₀ := s₀) (h₀ := h₀) ?_
  refine (eC (q := q 2) S (lk_order L) (.tail _ (.tail _ (.tail _ (.head _)))) (evalPart_none_step (evalPart_none_step ⟨od, oL.toArray, _, none, none, _, _, rfl, S, .head _, LO.mk', by rw [List.size_toArray]; omega, .none, .none, fun pl _ S => ?_⟩)))
  rw [slicePick_all] at S
  refine sL S fun _ S => ?_
  show wpAny _ _ (execs (Stmt.Assign [Expr.Name _ _] (Expr.List _ _) _ :: _) _) _ _ _
  refine wpAny_execs_cons ?_
  refine wpAny_Assign_Name ?_
  refine List_ ?_
  refine spl0 (nList S (Nat.zero_le _) fun rl _ S => ?_)
  refine sC (q := q 3) S (lk_row L) (.tail (.tail (.tail (.tail (.tail (.tail .head)))))) fun _ S => ?_
  show wpAny _ _ (execs (Stmt.For _ _ _ _ _ :: _) _) _ _ _
  refine wpAny_execs_cons ?_
  refine for_List (h₀ := h₀) (L := L) ?hh ?hs ?hgo
  case hh => rfl
  case hs => exact fun _ => rfl
  refine' dispI ?c2 ?z2 ?S2 ?h2
  case c2 => exact (show IConsts _ [12, 11, 10, 9] from by repeat constructor)
  case z2 => exact Nat.le_of_ble_eq_true rfl
  case S2 => exact S
  intro sz szL _ hz S
  have mc1 : (fun y => if y = Str.ofString "pool" then some (Value.ref pl) else m y) (Str.ofString "cells") = some (.ref ce) := by
    show (if _ then _ else _) = _
    rw [if_neg (by decide)]
    exact mc
  refine ⟨sz, szL.toArray, _, _, fun i m' news t => J2 L sz rl pl od ce q szL oL vk c1 t1 i m' news (Mv s₀ t), rfl, fun _ _ _ _ _ _ h => h, S.st, .inr ⟨_, .head _, rfl, _, rfl⟩, fun g => ⟨oL.toArray, 0, #[], 0, c0, t0, oC, ordL, [], rfl, hC, mc1, rfl, hO, .nil, ⟨List.Perm.refl _, rfl⟩, S.mv⟩, ?_, ?_⟩
  · rintro i v m' news t tk I oI hi hv ⟨pA, pn, rA, rn, c0, t0, oC, pool, row, rfl, hC, mc, mp, hp, hr, dr, mv⟩ - S4 - E'
    have S : Now s₀ h₀ L m' _ { t with toks := tk } := ⟨S4, mv⟩
    clear S4
    have hi4 : i < 4 := by have := IntsAre.length hz; rw [List.size_toArray] at hi; simpa [this] using hi
    obtain ⟨u, rfl⟩ : ∃ u, v = .int (12 - (i : Int)) u := by
      obtain ⟨n, u, rfl, e⟩ := IntsAre.at hz i v (by simpa using hv)
      rcases i with _ | _ | _ | _ | i
      · cases e; exact ⟨u, rfl⟩
      · cases e; exact ⟨u, rfl⟩
      · cases e; exact ⟨u, rfl⟩
      · cases e; exact ⟨u, rfl⟩
      · omega
    have hpl : pool.length = 12 - i := by
      have := dr.p.length_eq
      rw [List.length_append, dr.n, show ordL.length = 12 from rfl] at this
      omega
    refine tL S fun _ S => ?_
    refine wpAny_execs_cons ?_
    refine wpAny_Expr ?_ rfl rfl
    refine MethodCall_ ?_ rfl
    refine eC (q := q 3) S (lk_row L) (by k_mem) ?_
    refine gmApp S (by k_mem) ?_
    refine callWith_method1 ?_
    refine spl ?_
    refine MethodCall_ ?_ rfl
    refine eL S (v := .ref pl) ?_ ?_
    · show (if _ then _ else _) = _
      rw [if_neg (by decide)]
      exact mp
    refine gmPop S (by k_mem) ?_
    refine callWith_method1 ?_
    refine spl ?_
    refine wpAny_BinOp ?_
    refine sub_list ?_
    refine eL S (v := .ref ce) ?_ ?_
    · show (if _ then _ else _) = _
      rw [if_neg (by decide)]
      exact mc
    refine nInt S ?_
    intro _ _ S
    refine ⟨ce, _, 0, _, _, rfl, rfl, S.isL (by k_mem) hC, by decide, by decide, rfl, ?_⟩
    refine eL S (v := .int (12 - (i : Int)) u) rfl ?_
    refine nMod S (by omega) ?_
    intro _ _ S
    have hj0 : 0 ≤ c0.fmod (12 - (i : Int)) := Int.fmod_nonneg_of_pos _ (by omega)
    have hj1 : c0.fmod (12 - (i : Int)) < 12 - (i : Int) := Int.fmod_lt_of_pos _ (by omega)
    generalize c0.fmod (12 - (i : Int)) = jj at hj0 hj1 ⊢
    obtain ⟨j, rfl⟩ := Int.eq_ofNat_of_zero_le hj0
    have hjp : j < pool.length := by omega
    have hpz : pA.size = pool.length := by rw [← Array.length_toList, strs_len hp]
    obtain ⟨y, uy, hy, hvy⟩ : ∃ y uy, pool[j]? = some y ∧ pA[j]? = some (.str y uy) := by
      have e1 : pA.toList[j]? = some pA[j] := by simp [hpz, hjp]
      obtain ⟨y, t, h1, h2⟩ := StrsAre.at hp j _ e1
      exact ⟨y, t, h1, by rw [← h2]; simp [hpz, hjp]⟩
    refine spl0 ?_
    refine nPop S (fun _ => by repeat (first | exact At.head | apply At.tail)) rfl hvy (by omega) ?_
    intro pn' _ S
    refine spl0 ?_
    have hrz : rA.size = row.length := by rw [← Array.length_toList, strs_len hr]
    refine nApp S (fun _ => by repeat (first | exact At.head | apply At.tail)) (by rw [hrz, dr.n]; omega) ?_
    intro rn' _ S
    refine wpAny_execs_cons ?_
    refine wpAny_AugAssign_Subscript_any ?_
    refine eL S (v := .ref ce) ?_ ?_
    · show (if _ then _ else _) = _
      rw [if_neg (by decide)]
      exact mc
    refine nInt S ?_
    intro _ _ S
    refine nGet S (by k_mem) hC (by decide) (by decide) rfl ?_
    refine eL S (v := .int (12 - (i : Int)) u) rfl ?_
    refine nIFdiv S (by omega) (PyProof.noPylong_small (by omega)) ?_
    intro _ _ S
    refine nSet (nx := fun o' => (I, oI) :: (sz, listOf szL.toArray 0) :: (rl, listOf (rA.push (.str y uy)) rn') :: (pl, listOf (pA.eraseIdxIfInBounds j) pn') :: (od, listOf oL.toArray 0) :: (ce, o') :: cells9 L q vk (some (.ref od)) (some (.ref rl)) none none none none none none (tabs #[] #[])) S (fun _ => by repeat (first | exact At.head | apply At.tail)) hC (by decide) (by decide) (by show _ < (2 : Int); decide) ?_
    intro oC' _ hC' S
    rw [set2a] at hC'
    refine wpAny_execs_nil ⟨_, _, S.st, ⟨pA.eraseIdxIfInBounds j, pn', rA.push (.str y uy), rn', _, _, oC', pool.eraseIdx j, row ++ [y], rfl, hC', ?_, ?_, ?_, ?_, dr.step hy, S.mv⟩, .inr ⟨_, .head _, rfl, _, rfl⟩⟩
    · show (if _ then _ else _) = _
      rw [if_neg (by decide)]
      exact mc
    · show (if _ then _ else _) = _
      rw [if_neg (by decide)]
      exact mp
    · rw [erase_toList]
      exact strs_erase hp j
    · rw [Array.toList_push]
      exact strs_app hr (.cons _ _ .nil)
  · rintro m' news t tk ⟨pA, pn, rA, rn, c0, t0, oC, pool, row, rfl, hC, mc, mp, hp, hr, dr, mv⟩ S'
    have S : Now s₀ h₀ L m' _ { t with toks := tk } := ⟨S', mv⟩
    have nd : (row ++ pool).Nodup := (List.Perm.nodup_iff dr.p).mpr (by decide +kernel)
    have S := S.pick (news' := (ce, oC) :: (rl, listOf rA rn) :: (od, listOf oL.toArray 0) :: cells9 L q vk (some (.ref od)) (some (.ref rl)) none none none none none none (tabs #[] #[])) (.cons (.there (.there (.there (.there .here)))) (.drop (.cons .here (.drop (.cons .here .all)))))
    have n4 : row.length = 4 := by have := dr.n; have e := IntsAre.length hz; rw [List.size_toArray, e] at this; exact this
    obtain ⟨r⟩ := hQ m' { t with toks := tk } od rl oC c0 t0 oL.toArray rA rn row S hC mc hO hr (fun x hx => (dr.p.mem_iff).mp (List.mem_append_left _ hx)) (List.nodup_append.mp nd).1 n4
    show wpAny (model PR w) (lawA L) (execs (f232.b.drop 6) (lenv L)) Q E _
    with_reducible exact @r
end
end Mine
end
section
open PySem PySem.W PySem.Calls PyProof.Rows Builtin
set_option maxRecDepth 100000
set_option maxHeartbeats 1000000
namespace Mine
noncomputable def tops : List Str := [Str.ofString "local", Str.ofString "7.local7"]
noncomputable def marks : List Str := [Str.ofString ":", Str.ofString "\n"]
noncomputable def tails : List Str := [Str.ofString "", Str.ofString ":", Str.ofString "\n.x:y", Str.ofString ": x.y\n"]
section
variable {prog : Program} {w : World} {A : Around} {E : Value → Shared → Prop} {s : Shared} {env : Env}
/-- an item of a list that no name holds -/
theorem sub_tmp {value slice : PySem.Expr} {pos : Pos} {Q : Value → Shared → Prop}
    (h : wpAny (model prog w) A (eval value env) (fun o s₁ => wpAny (model prog w) A (eval slice env) (fun i s₂ => SubGo Q o i s₂) E s₁) E s)
    (hs : ∀ o i, subscripted slice false o i = operate [o, i] (getItem o i) := by intro _ _; with_unfolding_all rfl) :
    wpAny (model prog w) A (eval (.Subscript value slice pos) env) Q E s := by
  refine Subscript_ (wpAny_mono h (fun o s₁ h₁ => wpAny_mono h₁ (fun i s₂ h₂ => ?_) fun _ _ e => e) fun _ _ e => e)
  obtain ⟨l, items, k, t, x, rfl, rfl, hl, h0, hf, hx, hq⟩ := h₂
  exact kba_turn (value' := PySem.Expr.Name (PySem.Str.ofString "_") ⟨0, 0, 0, 0⟩) (fun _ => rfl) (subscriptTail_builtin hl.typeIs list_getitem_lookup (wpAny_getItem_list hl h0 hf hx hq) (hs _ _) (fun _ => rfl))
end
theorem pick_str {vs : List Value} {xs : List Str} (h : StrsAre vs xs) (a : Int) {n : Int} (hn : n = (xs.length : Nat)) (h0 : 0 < n) (h1 : n ≤ 1000) : ∃ x t, x ∈ xs ∧ vs.toArray[(a.fmod n).toNat]? = some (.str x t) ∧ 0 ≤ a.fmod n ∧ a.fmod n < 2 ^ 63 := by
  have g0 := Int.fmod_nonneg_of_pos a h0
  have g1 := Int.fmod_lt_of_pos a h0
  have hl := strs_len h
  have hj : (a.fmod n).toNat < vs.length := by omega
  obtain ⟨x, t, e1, e2⟩ := StrsAre.at h (a.fmod n).toNat vs[(a.fmod n).toNat] (List.getElem?_eq_getElem hj)
  exact ⟨x, t, List.mem_of_getElem? e1, by rw [← e2, List.getElem?_toArray]; exact List.getElem?_eq_getElem hj, g0, by omega⟩
section
variable {p : Program} {w : World} {lo : List Str} {mean : ExcName → Option Value} {mg mb : Str → Option Value} {E : Value → Shared → Prop} {h₀ : Heap} {L ce rl od : Addr} {m : Str → Option Value} {s₀ s : Shared} {Q : Flow → Shared → Prop} {q : Nat → Obj} {oC : Obj} {vk : Option Value} {c0 c1 : Int} {t0 t1 : Tok} {rest : List (Addr × Obj)}
theorem law_3 (S : Now s₀ h₀ L m ((ce, oC) :: rest) s) (hC : LO #[.int c0 t0, .int c1 t1] oC) (mc : m (Str.ofString "cells") = some (.ref ce))
    (hQ : ∀ m' s' tp mk tl u1 u2 u3, Now s₀ h₀ L m' rest s' → tp ∈ tops → mk ∈ marks → tl ∈ tails → m' (Str.ofString "top") = some (.str tp u1) → m' (Str.ofString "mark") = some (.str mk u2) → m' (Str.ofString "tail") = some (.str tl u3) → Rest w L Q E 9 s') : Rest w L Q E 6 s := by
  refine ⟨?_⟩
  show wpAny _ _ (execs (Stmt.Assign [Expr.Name _ _] (Expr.Subscript _ _ _) _ :: Stmt.Assign [Expr.Name _ _] (Expr.Subscript _ _ _) _ :: Stmt.Assign [Expr.Name _ _] (Expr.Subscript _ _ _) _ :: List.drop 9 f232.b) _) _ _ _
  refine wpAny_execs_cons ?_
  refine wpAny_Assign_Name ?_
  refine sub_tmp ?_
  refine' dispS ?c1 ?z1 ?S1 ?h1
  case c1 => exact (show SConsts _ tops from by repeat constructor)
  case z1 => exact Nat.le_of_ble_eq_true rfl
  case S1 => exact S
  intro l1 vs1 _ hv1 S
  refine wpAny_BinOp ?_

  refine sub_list ?_
  refine eL S (v := .ref ce) mc ?_
  refine nInt S ?_
  intro _ _ S
  refine ⟨ce, _, 1, _, _, rfl, rfl, S.isL (by k_mem) hC, by decide, by decide, rfl, ?_⟩
  refine nInt S ?_
  intro _ _ S
  refine nMod S (by decide) ?_
  intro _ _ S
  obtain ⟨x1, u1, hm1, hi1, p1, r1⟩ := pick_str hv1 c1 (n := 2) rfl (by decide) (by decide)
  refine ⟨l1, vs1.toArray, _, _, _, rfl, rfl, S.isL (by k_mem) LO.mk', p1, r1, hi1, ?_⟩
  refine sL S ?_
  intro _ S
  generalize hM1 : (fun y => if y = Str.ofString "top" then some (Value.str x1 u1) else m y) = m1 at S
  have mc1 : m1 (Str.ofString "cells") = some (.ref ce) := by rw [← hM1]; exact (if_neg (by decide)).trans mc
  have mt1 : m1 (Str.ofString "top") = some (.str x1 u1) := by rw [← hM1]; exact if_pos rfl
  clear hM1
  show wpAny _ _ (execs (Stmt.Assign [Expr.Name _ _] (Expr.Subscript _ _ _) _ :: _) _) _ _ _
  refine wpAny_execs_cons ?_
  refine wpAny_Assign_Name ?_
  refine sub_tmp ?_
  refine' dispS ?c2 ?z2 ?S2 ?h2
  case c2 => exact (show SConsts _ marks from by repeat constructor)
  case z2 => exact Nat.le_of_ble_eq_true rfl
  case S2 => exact S
  intro l2 vs2 _ hv2 S
  refine wpAny_BinOp ?_
  refine wpAny_BinOp ?_
  refine sub_list ?_
  refine eL S (v := .ref ce) mc1 ?_
  refine nInt S ?_
  intro _ _ S
  refine ⟨ce, _, 1, _, _, rfl, rfl, S.isL (by k_mem) hC, by decide, by decide, rfl, ?_⟩
  refine nInt S ?_
  intro _ _ S
  refine nFdiv S (by decide) (PyProof.noPylong_small (by decide)) ?_
  intro _ _ S
  refine nInt S ?_
  intro _ _ S
  refine nMod S (by decide) ?_
  intro _ _ S
  obtain ⟨x2, u2, hm2, hi2, p2, r2⟩ := pick_str hv2 (c1.fdiv 2) (n := 2) rfl (by decide) (by decide)
  refine ⟨l2, vs2.toArray, _, _, _, rfl, rfl, S.isL (by k_mem) LO.mk', p2, r2, hi2, ?_⟩
  refine sL S ?_
  intro _ S
  generalize hM2 : (fun y => if y = Str.ofString "mark" then some (Value.str x2 u2) else m1 y) = m2 at S
  have mc2 : m2 (Str.ofString "cells") = some (.ref ce) := by rw [← hM2]; exact (if_neg (by decide)).trans mc1
  have mt2 : m2 (Str.ofString "top") = some (.str x1 u1) := by rw [← hM2]; exact (if_neg (by decide)).trans mt1
  have mm2 : m2 (Str.ofString "mark") = some (.str x2 u2) := by rw [← hM2]; exact if_pos rfl
  clear hM2
  show wpAny _ _ (execs (Stmt.Assign [Expr.Name _ _] (Expr.Subscript _ _ _) _ :: _) _) _ _ _
  refine wpAny_execs_cons ?_
  refine wpAny_Assign_Name ?_
  refine sub_tmp ?_
  refine' dispS ?c3 ?z3 ?S3 ?h3
  case c3 => exact (show SConsts _ tails from by repeat constructor)
  case z3 => exact Nat.le_of_ble_eq_true rfl
  case S3 => exact S
  intro l3 vs3 _ hv3 S
  refine wpAny_BinOp ?_
  refine wpAny_BinOp ?_
  refine sub_list ?_
  refine eL S (v := .ref ce) mc2 ?_
  refine nInt S ?_
  intro _ _ S
  refine ⟨ce, _, 1, _, _, rfl, rfl, S.isL (by k_mem) hC, by decide, by decide, rfl, ?_⟩
  refine nInt S ?_
  intro _ _ S
  refine nFdiv S (by decide) (PyProof.noPylong_small (by decide)) ?_
  intro _ _ S
  refine nInt S ?_
  intro _ _ S
  refine nMod S (by decide) ?_
  intro _ _ S
  obtain ⟨x3, u3, hm3, hi3, p3, r3⟩ := pick_str hv3 (c1.fdiv 4) (n := 4) rfl (by decide) (by decide)
  refine ⟨l3, vs3.toArray, _, _, _, rfl, rfl, S.isL (by k_mem) LO.mk', p3, r3, hi3, ?_⟩
  refine sL S ?_
  intro _ S
  generalize hM3 : (fun y => if y = Str.ofString "tail" then some (Value.str x3 u3) else m2 y) = m3 at S
  have mt3 : m3 (Str.ofString "top") = some (.str x1 u1) := by rw [← hM3]; exact (if_neg (by decide)).trans mt2
  have mm3 : m3 (Str.ofString "mark") = some (.str x2 u2) := by rw [← hM3]; exact (if_neg (by decide)).trans mm2
  have ml3 : m3 (Str.ofString "tail") = some (.str x3 u3) := by rw [← hM3]; exact if_pos rfl
  clear hM3
  obtain ⟨r⟩ := hQ m3 _ x1 x2 x3 u1 u2 u3 (S.pick (.drop (.drop (.drop (.drop .all))))) hm1 hm2 hm3 mt3 mm3 ml3
  show wpAny (model PR w) (lawA L) (execs (f232.b.drop 9) (lenv L)) Q E _
  with_reducible exact @r
end
end Mine
end
section
open PySem PySem.W PySem.Calls PyProof.Rows Builtin
set_option maxRecDepth 100000
set_option maxHeartbeats 1000000
namespace Mine
theorem vals_strs {xs : List Str} {vs : List Value} (h : Vals (fun x t => Value.str x t) xs vs) : StrsAre vs xs := by
  induction h with
  | nil => exact .nil
  | cons a t _ ih => exact .cons a t ih
theorem vals_ints {xs : List Int} {vs : List Value} (h : Vals (fun x t => Value.int x t) xs vs) : IntsAre vs xs := by
  induction h with
  | nil => exact .nil
  | cons a t _ ih => exact .cons a t ih
section
variable {p : Program} {w : World} {lo : List Str} {mean : ExcName → Option Value} {mg mb : Str → Option Value} {E : Value → Shared → Prop} {h₀ : Heap} {L ce rl od : Addr} {m : Str → Option Value} {s₀ s : Shared} {Q : Flow → Shared → Prop} {q : Nat → Obj} {vk : Option Value} {oA rA : Array Value} {rn : Nat} {row : List Str}
theorem law_4 (S : Now s₀ h₀ L m ((rl, listOf rA rn) :: (od, listOf oA 0) :: cells9 L q vk (some (.ref od)) (some (.ref rl)) none none none none none none (tabs #[] #[])) s) (ho : StrsAre oA.toList ordL) (hr : StrsAre rA.toList row) (hn : row.length = 4)
    (hQ : ∀ s' rs rsA, Now s₀ h₀ L m ((rs, listOf rsA 0) :: (rl, listOf rA rn) :: (od, listOf oA 0) :: cells9 L q vk (some (.ref od)) (some (.ref rl)) (some (.ref rs)) none none none none none (tabs #[] #[])) s' → StrsAre rsA.toList (Str.ofString "" :: ordL.filter fun x => row.any (· == x)) → Rest w L Q E 10 s') : Rest w L Q E 9 s := by
  refine ⟨?_⟩
  show wpAny _ _ (execs (Stmt.Assign [Expr.Name _ _] (Expr.BinOp _ _ _ _) _ :: List.drop 10 f232.b) _) _ _ _
  refine wpAny_execs_cons ?_
  refine wpAny_Assign_Name ?_
  refine wpAny_BinOp ?_
  refine' dispS ?c1 ?z1 ?S1 ?h1
  case c1 => exact (show SConsts _ [Str.ofString ""] from by repeat constructor)
  case z1 => exact Nat.le_of_ble_eq_true rfl
  case S1 => exact S
  intro l1 v1 s1 hv1 S
  have oz : oA.size = 12 := by rw [← Array.length_toList, strs_len ho]; rfl
  refine LCt.ListComp_T (F₀ := S.st.F) (cl := [(Str.ofString "row", L + 1 + 1 + 1)]) (by with_unfolding_all rfl) (by decide) rfl (by decide) rfl ?_
  refine eC (q := q 2) S (lk_order L) (by k_mem) ?_
  refine LCt.CompSrcT.ledger rfl S.st.F S.st.N (by k_mem) (by rw [sizeLine_eq]; omega) fun g => ?_
  refine compT_keep (fun x t => Value.str x t) (fun x => row.any (· == x)) ordL ?n ?P ?turn ?fin
  case n => rw [oz]; rfl
  case P =>
    intro i v hv
    obtain ⟨x, t, e1, e2⟩ := StrsAre.at ho i v (by simpa using hv)
    exact ⟨x, t, e1, e2⟩
  case turn =>
    intro x t I oI C oC D m₂ ys h tk E' hx hC hm F N off ne
    have S8 := St.turn F N S.st.D off ne
    have nC := hC.ns (S8.get (.tail _ (.head _)))
    refine wpAny_isTrue_Compare1 ?_
    refine load_local (env := compEnvC _ _ _ _) rfl rfl nC hm (by decide) ?_
    refine wpAny_Name (wpAny_loadName_cell (env := compEnvC _ _ _ _) rfl rfl (c := L + 1 + 1 + 1) (v := .ref rl) rfl ⟨cW (q 3) (some (.ref rl)), S8.get (by k_mem), rfl⟩ ?_) (by decide)
    refine in_list_strs (vs := rA.toList) ⟨_, S8.get (x := rl) (o := listOf rA rn) (by k_mem), rfl, _, rfl⟩ hr ?_
    refine truthy_b ?_
    split
    · rename_i hk
      refine load_local (env := compEnvC _ _ _ _) rfl rfl nC hm (by decide) ?_
      exact St.end' S8 (.inr ⟨_, by k_mem, rfl, _, rfl⟩) ⟨hk, rfl, _, rfl⟩
    · rename_i hk
      exact St.end' S8 (.inr ⟨_, by k_mem, rfl, _, rfl⟩) ⟨Bool.eq_false_iff.mpr hk, rfl⟩
  case fin =>
    intro ys hy D h tk F N o1
    have S : Now s₀ h₀ (lenv L).locals m _ { s1 with heap := h, toks := tk } := ⟨S.st.of F N (off1_all o1), S.mv⟩
    have hys := vals_strs hy
    have yz : ys.length ≤ 12 := by rw [strs_len hys]; exact List.length_filter_le _ _
    refine nCatL (l := l1) (r := D) (n := 0) (n2 := ys.length) (its := v1.toArray) (its2 := ys.toArray) S (by k_mem) (by k_mem) (by rw [List.size_toArray, List.size_toArray, strs_len hv1]; show 1 + _ ≤ _; omega) ?_
    intro rs _ S
    refine sC (q := q 4) S (lk_rising L) (by repeat (first | exact At.head | apply At.tail)) ?_
    intro _ S
    obtain ⟨r⟩ := hQ _ rs (v1 ++ ys).toArray (S.pick (.cons .here (.drop (.drop .all)))) (strs_app hv1 hys)
    show wpAny (model PR w) (lawA L) (execs (f232.b.drop 10) (lenv L)) Q E _
    with_reducible exact @r
end
end Mine
end
section
open PySem PySem.W PySem.Calls PyProof.Rows Builtin
set_option maxRecDepth 100000
set_option maxHeartbeats 1000000
namespace Mine
section
variable {prog : Program} {w : World} {A : Around} {h₀ : Heap} {L : Addr} {m : Str → Option Value} {env : Env} {elt : PySem.Expr} {x : Str} {scope : Scope} {cl : List (Str × Addr)} {s₀ s : Shared} {S : List (Addr × Obj) → Prop} {P : Nat → Value → Prop} {Fin : List Value → List (Addr × Obj) → Prop}
inductive CompTurn (s₀ : Shared) (h₀ : Heap) (L : Addr) (m : Str → Option Value) (I : Addr) (oI : Obj) (C : Addr) (oC : Obj) (D : Addr) (ys : List Value) (S J : List (Addr × Obj) → Prop) (s₂ : Shared) : Prop
  | mk (news' : List (Addr × Obj)) (S2 : Now s₀ h₀ L m ((I, oI) :: (C, oC) :: (D, LCg.lst ys) :: news') s₂) (hs : S news') (hj : J news') : CompTurn s₀ h₀ L m I oI C oC D ys S J s₂
/-- a comprehension whose turns change the ledger -/
theorem comp_inv {n : Nat} (J : Nat → List Value → List (Addr × Obj) → Prop) (mv : Mv s₀ s)
    (turn : ∀ i v I oI C oC D m₂ ys news s₁ (E' : Value → Shared → Prop), i < n → P i v → J i ys news → S news → Now s₀ h₀ L m ((I, oI) :: (C, oC) :: (D, LCg.lst ys) :: news) s₁ → LCg.NsObj oC m₂ → m₂ x = some v →
      wpAny (model prog w) A (eval elt (compEnvC scope cl C env)) (fun y s₂ => CompTurn s₀ h₀ L m I oI C oC D ys S (J (i + 1) (ys ++ [y])) s₂) E' s₁)
    (fin : ∀ ys news, (news.Pairwise fun p q => p.1 ≠ q.1) → J n ys news → Fin ys news) : ∀ (news : List (Addr × Obj)), J 0 [] news → S news → (news.Pairwise fun p q => p.1 ≠ q.1) → LCg.CompRest prog w A h₀ L m env elt x scope cl s S P Fin n 0 [] news := by
  have key : ∀ (j i : Nat) (ys : List Value) (news : List (Addr × Obj)), i + j = n → J i ys news → S news → (news.Pairwise fun p q => p.1 ≠ q.1) → LCg.CompRest prog w A h₀ L m env elt x scope cl s S P Fin j i ys news := by
    intro j
    induction j with
    | zero =>
      intro i ys news hi hj _ dn
      have e : i = n := by omega
      subst e
      exact LCg.CompRest.zero (fin ys news dn hj)
    | succ j ih =>
      intro i ys news hi hj hS dn
      refine LCg.CompRest.succ ?_
      intro v I oI C oC D m₂ h tk E' hv hC hx F N off ne
      have S8 := St.turn F N dn off ne
      refine wpAny_mono (turn i v I oI C oC D m₂ ys news { s with heap := h, toks := tk } E' (by omega) hv hj hS ⟨S8, mv⟩ hC hx) (fun y s₂ hq => ?_) fun _ _ e => e
      obtain ⟨news', S9, hS', hj'⟩ := hq
      have e2 : s₂ = { s with heap := s₂.heap, toks := s₂.toks } := Mv.to ⟨S9.mv.1.trans mv.1.symm, S9.mv.2.1.trans mv.2.1.symm, S9.mv.2.2.trans mv.2.2.symm⟩
      rw [e2]
      have S10 : St h₀ L m ((I, oI) :: (C, oC) :: (D, LCg.lst ys) :: news') s₂.heap := S9.st
      refine St.end' (s₁ := { s with heap := h, toks := tk }) S10 hS' (ih (i + 1) _ news' (by omega) hj' hS' ?_)
      exact (List.pairwise_cons.mp (List.pairwise_cons.mp (List.pairwise_cons.mp S10.D).2).2).2
  exact fun news hj hS dn => key n 0 [] news (by omega) hj hS dn
end
theorem St.new2 {h₀ h h' : Heap} {L x d : Addr} {m : Str → Option Value} {news : List (Addr × Obj)} {o o' : Obj} (S : St h₀ L m news h) (k : ∀ b q, h.get? b = some q → h'.get? b = some q) (fx : h.get? x = none) (fd : h.get? d = none) (nd : d ≠ x) (ex : h'.get? x = some o) (ed : h'.get? d = some o') : St h₀ L m ((x, o) :: (d, o') :: news) h' := by
  have S1 := S.new k fd ed
  refine ⟨S1.F, ?_, List.pairwise_cons.mpr ⟨fun p hp => ?_, S1.D⟩⟩
  · exact led_new S.F S1.N fx ex
  · rcases List.mem_cons.mp hp with rfl | hp
    · exact Ne.symm nd
    · exact Ne.symm (led_off S.N fx p hp)
/-- an entry is changed and an object is new -/
theorem St.upd2 {h₀ h h' : Heap} {L x T : Addr} {m : Str → Option Value} {news news' : List (Addr × Obj)} {o o' oT : Obj} (S1 : St h₀ L m news' h') (S : St h₀ L m news h) (U : At x o o' news news') (fr : h.get? T = none) (hT : h'.get? T = some oT) : St h₀ L m ((T, oT) :: news') h' := by
  refine ⟨S1.F, led_new S.F S1.N fr hT, List.pairwise_cons.mpr ⟨fun p hp => ?_, S1.D⟩⟩
  obtain ⟨p', hp', e⟩ := U.fst p hp
  have := led_off S.N fr p' hp'
  rw [e] at this
  exact Ne.symm this
noncomputable abbrev dot : Str := Str.ofString "."
/-- the pieces of a row -/
noncomputable abbrev dots (row : List Str) : List (Str × Str) := row.map fun r => (dot, r)
noncomputable def txtOf (row : List Str) : Str := match row with
  | [r0, r1, r2, r3] => dot ++ r0 ++ (dot ++ r1) ++ (dot ++ r2) ++ (dot ++ r3)
  | _ => dot
/-- the os is the first one, the generators are bare -/
structure Gd (os : OsState) (s : Shared) : Prop where
  o : s.os = os
  g : AllBare s.gens
theorem Gd.mv {os : OsState} {s t : Shared} (g : Gd os s) (m : Mv s t) : Gd os t := ⟨m.1.trans g.o, m.2.1 ▸ g.g⟩
/-- the law's ledger once the pile stands -/
noncomputable abbrev ledB (P : Params) (L : Addr) (q : Nat → Obj) (x dx rs rl od : Addr) (its : Array Value) (n : Nat) (k : Int) (tk tv : Tok) (rsA rA : Array Value) (rn : Nat) (oA : Array Value) (vk vn vg vl vt : Option Value) (p1 p2 : Array Value) (tl : List (Addr × Obj)) : List (Addr × Obj) :=
  (x, pileO dx its n) :: (dx, dictOf (sizeEs P k tk tv) 1) :: (rs, listOf rsA 0) :: (rl, listOf rA rn) :: (od, listOf oA 0) :: cells9 L q vk (some (.ref od)) (some (.ref rl)) (some (.ref rs)) (some (.ref x)) vn vg vl vt ((87, tabO p1) :: (94, tabO p2) :: tl)
inductive Pcs4 (news : List (Addr × Obj)) (vs : List Value) (row : List Str) : Prop
  | mk (r0 r1 r2 r3 : Str) (T0 T1 T2 T3 : Addr) (u0 u1 u2 u3 v0 v1 v2 v3 : Tok) (e1 : row = [r0, r1, r2, r3]) (e2 : vs = [.ref T0, .ref T1, .ref T2, .ref T3]) (h0 : (T0, tupO dot u0 r0 v0) ∈ news) (h1 : (T1, tupO dot u1 r1 v1) ∈ news) (h2 : (T2, tupO dot u2 r2 v2) ∈ news) (h3 : (T3, tupO dot u3 r3 v3) ∈ news) : Pcs4 news vs row
theorem pcs4 {news : List (Addr × Obj)} {vs : List Value} {row : List Str} (h : Pcs news vs (dots row)) (hn : row.length = 4) : Pcs4 news vs row := by
  obtain ⟨r0, r1, r2, r3, rfl⟩ : ∃ r0 r1 r2 r3, row = [r0, r1, r2, r3] := by
    rcases row with _ | ⟨a, _ | ⟨b, _ | ⟨c, _ | ⟨d, _ | ⟨e, r⟩⟩⟩⟩⟩ <;> first | exact ⟨_, _, _, _, rfl⟩ | (simp at hn)
  cases h with | cons m0 h =>
  cases h with | cons m1 h =>
  cases h with | cons m2 h =>
  cases h with | cons m3 h =>
  cases h
  exact ⟨_, _, _, _, _, _, _, _, _, _, _, _, _, _, _, _, rfl, rfl, m0, m1, m2, m3⟩
section
variable {p : Program} {w : World} {lo : List Str} {mean : ExcName → Option Value} {mg mb : Str → Option Value} {E : Value → Shared → Prop} {h₀ : Heap} {L x dx rs rl od : Addr} {m : Str → Option Value} {s₀ s : Shared} {q : Nat → Obj} {its rsA rA oA p1 p2 : Array Value} {n rn : Nat} {k : Int} {tk tv : Tok} {vk vn vg vl vt : Option Value} {tl own : List (Addr × Obj)} {os : OsState} {row : List Str}
theorem strPile {Q : Value → Shared → Prop} (X : (K w.params).In h₀) (T : Top p lo mean mg mb h₀) (S : Now s₀ h₀ L m (own ++ ledB w.params L q x dx rs rl od its n k tk tv rsA rA rn oA vk vn vg vl vt p1 p2 tl) s) (g : Gd os s₀) (hp : Pcs tl its.toList (dots row)) (hn : row.length = 4) (hr : ∀ r ∈ row, r.length ≤ 1000) (h2 : TriplesOk p2.toList)
    (hQ : ∀ t s' p2', Now s' h₀ L m (own ++ ledB w.params L q x dx rs rl od its n k tk tv rsA rA rn oA vk vn vg vl vt p1 p2' tl) s' → Gd os s' → TriplesOk p2'.toList → Q (.str (txtOf row) t) s') : wpAny (model PR w) (lawA L) (call (.type "str") [.ref x]) Q E s := by
  obtain ⟨r0, r1, r2, r3, T0, T1, T2, T3, u0, u1, u2, u3, v0, v1, v2, v3, rfl, e, m0, m1, m2, m3⟩ := pcs4 hp hn
  have ei : its = #[.ref T0, .ref T1, .ref T2, .ref T3] := Array.toList_inj.mp e
  subst ei
  have inT : ∀ T o, (T, o) ∈ tl → (T, o) ∈ own ++ ledB w.params L q x dx rs rl od #[.ref T0, .ref T1, .ref T2, .ref T3] n k tk tv rsA rA rn oA vk vn vg vl vt p1 p2 tl := fun T o h => List.mem_append_right _ (by repeat (first | exact h | apply List.Mem.tail))
  have A94 : ∀ p2', At 94 (tabO p2) (tabO p2') (ledB w.params L q x dx rs rl od #[.ref T0, .ref T1, .ref T2, .ref T3] n k tk tv rsA rA rn oA vk vn vg vl vt p1 p2 tl) (ledB w.params L q x dx rs rl od #[.ref T0, .ref T1, .ref T2, .ref T3] n k tk tv rsA rA rn oA vk vn vg vl vt p1 p2' tl) := fun _ => by repeat (first | exact At.head | apply At.tail)
  have d1 : dot.length ≤ 1000 := by decide
  refine str_led (x := x) (dx := dx) (n := n) (ps := p2) (nx := fun p2' => own ++ ledB w.params L q x dx rs rl od #[.ref T0, .ref T1, .ref T2, .ref T3] n k tk tv rsA rA rn oA vk vn vg vl vt p1 p2' tl) S.st.F X S.st.N T rfl (by show callerA.depth + 1 + 6 < recursionLimit; decide +kernel) (by show callerA.units + 3 + 1 + 1 < cLine; decide +kernel) (List.mem_append_right _ (.head _)) (List.mem_append_right _ (.tail _ (.head _))) (inT _ _ m0) (inT _ _ m1) (inT _ _ m2) (inT _ _ m3) ⟨d1, hr _ (.head _)⟩ ⟨d1, hr _ (.tail _ (.head _))⟩ ⟨d1, hr _ (.tail _ (.tail _ (.head _)))⟩ ⟨d1, hr _ (.tail _ (.tail _ (.tail _ (.head _))))⟩ (List.mem_append_right _ (A94 p2).mem) h2 (fun p2' => ((A94 p2').app own).upd S.st.D) fun s' t p2' F N tr oss gs => ?_
  exact hQ t s' p2' ⟨⟨F, N, ((A94 p2').app own).pair S.st.D⟩, Mv.refl _⟩ ⟨oss.trans (S.mv.1.trans g.o), gs (S.mv.2.1 ▸ g.g)⟩ tr
end
end Mine
end
section
open PySem PySem.W PySem.Calls PyProof.Rows Builtin
set_option maxRecDepth 100000
set_option maxHeartbeats 1000000
namespace Mine
section
variable {p : Program} {w : World} {lo : List Str} {mean : ExcName → Option Value} {mg mb : Str → Option Value} {E : Value → Shared → Prop} {h₀ : Heap} {L x dx rs rl od : Addr} {m : Str → Option Value} {s₀ s : Shared} {q : Nat → Obj} {its rsA rA oA p1 p2 : Array Value} {n rn : Nat} {k : Int} {tk tv : Tok} {vk vn vg vl vt : Option Value} {tl own : List (Addr × Obj)} {os : OsState} {row : List Str}
theorem lenPile {Q : Value → Shared → Prop} (X : (K w.params).In h₀) (T : Top p lo mean mg mb h₀) (S : Now s₀ h₀ L m (own ++ ledB w.params L q x dx rs rl od its n k tk tv rsA rA rn oA vk vn vg vl vt p1 p2 tl) s) (g : Gd os s₀) (hp : Pcs tl its.toList (dots row)) (hn : row.length = 4) (hr : ∀ r ∈ row, r.length = 1) (hk : 0 ≤ k ∧ k ≤ 1000) (h1 : TriplesOk p1.toList)
    (hQ : ∀ t s' p1', Now s' h₀ L m (own ++ ledB w.params L q x dx rs rl od its n k tk tv rsA rA rn oA vk vn vg vl vt p1' p2 tl) s' → Gd os s' → TriplesOk p1'.toList → Q (.int (k + 8) t) s') : wpAny (model PR w) (lawA L) (call (.builtin "len") [.ref x]) Q E s := by
  obtain ⟨r0, r1, r2, r3, T0, T1, T2, T3, u0, u1, u2, u3, v0, v1, v2, v3, rfl, e, m0, m1, m2, m3⟩ := pcs4 hp hn
  have ei : its = #[.ref T0, .ref T1, .ref T2, .ref T3] := Array.toList_inj.mp e
  subst ei
  have inT : ∀ T o, (T, o) ∈ tl → (T, o) ∈ own ++ ledB w.params L q x dx rs rl od #[.ref T0, .ref T1, .ref T2, .ref T3] n k tk tv rsA rA rn oA vk vn vg vl vt p1 p2 tl := fun T o h => List.mem_append_right _ (by repeat (first | exact h | apply List.Mem.tail))
  have A87 : ∀ p1', At 87 (tabO p1) (tabO p1') (ledB w.params L q x dx rs rl od #[.ref T0, .ref T1, .ref T2, .ref T3] n k tk tv rsA rA rn oA vk vn vg vl vt p1 p2 tl) (ledB w.params L q x dx rs rl od #[.ref T0, .ref T1, .ref T2, .ref T3] n k tk tv rsA rA rn oA vk vn vg vl vt p1' p2 tl) := fun _ => by repeat (first | exact At.head | apply At.tail)
  have d1 : dot.length = 1 := by decide
  have e0 := hr r0 (.head _)
  have e1 := hr r1 (.tail _ (.head _))
  have e2 := hr r2 (.tail _ (.tail _ (.head _)))
  have e3 := hr r3 (.tail _ (.tail _ (.tail _ (.head _))))
  refine len_led (x := x) (dx := dx) (n := n) (ps := p1) (nx := fun p1' => own ++ ledB w.params L q x dx rs rl od #[.ref T0, .ref T1, .ref T2, .ref T3] n k tk tv rsA rA rn oA vk vn vg vl vt p1' p2 tl) S.st.F X S.st.N T rfl (by show callerA.depth + 1 + 5 < recursionLimit; decide +kernel) (List.mem_append_right _ (.head _)) (List.mem_append_right _ (.tail _ (.head _))) (inT _ _ m0) (inT _ _ m1) (inT _ _ m2) (inT _ _ m3) ⟨by omega, by omega⟩ ⟨by omega, by omega⟩ ⟨by omega, by omega⟩ ⟨by omega, by omega⟩ hk (List.mem_append_right _ (A87 p1).mem) h1 (fun p1' => ((A87 p1').app own).upd S.st.D) fun s' t p1' F N tr oss gs => ?_
  have Z := hQ t s' p1' ⟨⟨F, N, ((A87 p1').app own).pair S.st.D⟩, Mv.refl _⟩ ⟨oss.trans (S.mv.1.trans g.o), gs (S.mv.2.1 ▸ g.g)⟩ tr
  rw [show (k + (dot.length + r0.length + dot.length + r1.length + dot.length + r2.length + dot.length + r3.length : Nat) : Int) = k + 8 by rw [d1, e0, e1, e2, e3]; rfl]
  exact Z
end
section
variable {p : Program} {w : World} {lo : List Str} {mean : ExcName → Option Value} {mg mb : Str → Option Value} {E : Value → Shared → Prop} {h₀ : Heap} {L rs rl od : Addr} {m : Str → Option Value} {s₀ s : Shared} {Q : Flow → Shared → Prop} {q : Nat → Obj} {vk : Option Value} {oA rA rsA : Array Value} {rn : Nat} {row : List Str} {os : OsState}
theorem Now.sinkB {x dx : Addr} {its p1 p2 : Array Value} {n : Nat} {k : Int} {tk tv : Tok} {P : Params} {vn vg vl vt : Option Value} {own new tl : List (Addr × Obj)} (S : Now s₀ h₀ L m (own ++ (new ++ ledB P L q x dx rs rl od its n k tk tv rsA rA rn oA vk vn vg vl vt p1 p2 tl)) s) :
    Now s₀ h₀ L m (own ++ ledB P L q x dx rs rl od its n k tk tv rsA rA rn oA vk vn vg vl vt p1 p2 (new ++ tl)) s :=
  ⟨S.st.perm (List.Perm.append_left own (List.perm_append_comm_assoc new (ledB P L q x dx rs rl od its n k tk tv rsA rA rn oA vk vn vg vl vt p1 p2 []) tl)), S.mv⟩
inductive J4 (rest : Array Value → Nat → List (Addr × Obj) → List (Addr × Obj)) (ps : List (Str × Str)) (i : Nat) (ys : List Value) (news : List (Addr × Obj)) : Prop
  | mk (its : Array Value) (n : Nat) (tl : List (Addr × Obj)) (e : news = rest its n tl) (h1 : Pcs tl its.toList ps) (h2 : ∀ v ∈ ys, v = .none) (h3 : ys.length = i) : J4 rest ps i ys news
theorem law_5 (X : (K w.params).In h₀) (T : Top p lo mean mg mb h₀) (S : Now s₀ h₀ L m ((rs, listOf rsA 0) :: (rl, listOf rA rn) :: (od, listOf oA 0) :: cells9 L q vk (some (.ref od)) (some (.ref rl)) (some (.ref rs)) none none none none none (tabs #[] #[])) s) (g : Gd os s₀) (hr : StrsAre rA.toList row) (hn : row.length = 4) (hr1 : ∀ r ∈ row, r.length = 1)
    (hQ : ∀ m' s' x dx its n tk tv p1 tl, Now s' h₀ L m' (ledB w.params L q x dx rs rl od its n 3 tk tv rsA rA rn oA vk none none none none p1 #[] tl) s' → Gd os s' → TriplesOk p1.toList → Pcs tl its.toList (dots row) → (∀ y, y ≠ Str.ofString "given" → m' y = m y) → Rest w L Q E 13 s') : Rest w L Q E 10 s := by
  refine ⟨?_⟩
  show wpAny _ _ (execs (Stmt.Assign [Expr.Name _ _] (Expr.Call _ _ _ _) _ :: Stmt.Assign [Expr.Name _ _] (Expr.ListComp _ _ _ _) _ :: Stmt.If _ _ _ _ :: List.drop 13 f232.b) _) _ _ _
  refine wpAny_execs_cons ?_
  refine wpAny_Assign_Name ?_
  refine Call_Name (trees := _) rfl ?_
  refine ldK (v := .ref 125) (by kernel_rfl) rfl (by decide) X T S.st ?_
  refine callWith_K (K := K w.params) (h₀ := h₀) X (by kernel_rfl) ?_
  refine spl ?_
  refine nInt S ?_
  intro tv s1 S
  refine spl0 ⟨X.keeps S.st.F.keep, ?_⟩
  refine make_ok (by show callerA.depth + 1 + 6 < recursionLimit; decide +kernel) (X.keeps S.st.F.keep) (T.keeps S.st.F.keep) ?_
  intro h' tk' x dx tk n' keep fx fd nd hx hd
  have S : Now s₀ h₀ L m _ { s1 with heap := h', toks := tk' } := ⟨S.st.new2 keep fx fd nd hx hd, S.mv⟩
  refine sC (q := q 5) S (lk_pile L) (by repeat (first | exact At.head | apply At.tail)) ?_
  intro s2 S
  show wpAny _ _ (execs (Stmt.Assign [Expr.Name _ _] (Expr.ListComp _ _ _ _) _ :: _) _) _ _ _
  refine wpAny_execs_cons ?_
  refine LCg.Assign_ListComp_U (cl := [(Str.ofString "pile", L + 1 + 1 + 1 + 1 + 1)]) S.st.F rfl (by with_unfolding_all rfl) (by with_unfolding_all rfl) (by decide) rfl (by decide) rfl rfl rfl ?_
  refine eC (q := q 3) S (lk_row L) (by k_mem) ?_
  have rz : rA.size = 4 := by rw [← Array.length_toList, strs_len hr, hn]
  refine LCg.CompSrc.ledger rfl S.st.F S.st.N (by k_mem) (by rw [sizeLine_eq]; omega) fun g' => ?_
  refine comp_inv (s₀ := s₀) (s := { s2 with heap := g' }) (fun i ys news => J4 (fun its n tl => ledB w.params L q x dx rs rl od its n 3 tk tv rsA rA rn oA vk none none none none #[] #[] tl) (dots (row.take i)) i ys news) S.mv ?turn ?fin _ ⟨#[], n', [], rfl, .nil, (fun _ h => nomatch h), rfl⟩ ?src S.st.D
  case src => exact .inr ⟨_, by k_mem, rfl, _, rfl⟩
  case turn =>
    rintro i v I oI C oC D m₂ ys news s₃ E' hi hv ⟨its, n, tl, rfl, hp, hy, hl⟩ hS S hC hx
    obtain ⟨r, t, e1, rfl⟩ := StrsAre.at hr i v (by simpa using hv)
    have Xt := X.keeps S.st.F.keep
    have gx : s₃.heap.get? x = some (pileO dx its n) := S.st.get (by k_mem)
    have gd : s₃.heap.get? dx = _ := S.st.get (o := dictOf (sizeEs w.params 3 tk _) 1) (by k_mem)
    refine MethodCall_ ?_ rfl
    refine wpAny_Name (wpAny_loadName_cell (env := compEnvC _ _ _ _) rfl rfl (c := L + 1 + 1 + 1 + 1 + 1) (v := .ref x) rfl ⟨cW (q 5) (some (.ref x)), S.st.get (by k_mem), rfl⟩ ?_) (by decide)
    refine pile_gm (f := .ref 69) (T := "function") Xt ⟨gx, rfl, rfl, gd⟩ (by kernel_rfl) (by kernel_rfl) (by decide) rfl ?_
    refine callWith_K (K := K w.params) (h₀ := s₃.heap) Xt (by kernel_rfl) ?_
    refine spl ?_
    refine wpAny_Constant_str ?_
    refine spl ?_
    refine load_local (env := compEnvC _ _ _ _) rfl rfl (hC.ns (S.st.get (.tail _ (.head _)))) hx (by decide) ?_
    refine spl0 ⟨Xt, ?_⟩
    have pl := hp.len
    have pl2 : its.size ≤ 900 := by
      rw [Array.length_toList, List.length_map, List.length_take] at pl
      omega
    refine push_ok (by show callerA.depth + 1 + 4 < recursionLimit; decide +kernel) Xt (T.nolimit.keeps S.st.F.keep) (led_K X S.st.N (o := pileO dx its n) (by k_mem)) (led_K X S.st.N (o := dictOf (sizeEs w.params 3 tk _) 1) (by k_mem)) gx gd (by omega) ?_
    intro h2 tk2 T2 n2 keep lT hT hx2
    have fr : s₃.heap.get? T2 = none := by
      cases e : s₃.heap.get? T2 with
      | none => rfl
      | some q => exact absurd (Heap.lt_size e) (Nat.not_lt.mpr lT)
    have U : At x (pileO dx its n) (pileO dx (its.push (.ref T2)) n2) ((I, oI) :: (C, oC) :: (D, LCg.lst ys) :: ledB w.params L q x dx rs rl od its n 3 tk tv rsA rA rn oA vk none none none none #[] #[] tl) ((I, oI) :: (C, oC) :: (D, LCg.lst ys) :: ledB w.params L q x dx rs rl od (its.push (.ref T2)) n2 3 tk tv rsA rA rn oA vk none none none none #[] #[] tl) := .tail (.tail (.tail .head))
    have S1 := S.st.upd U keep hx2
    have S2 := S1.upd2 S.st U fr hT
    have S3 : Now s₀ h₀ L m _ { s₃ with heap := h2, toks := tk2 } := ⟨S2, S.mv⟩
    have S4 := (S3.pick (.cons (.there .here) (.cons (.there .here) (.cons (.there .here) .all))))
    have S5 := Now.sinkB (own := [(I, oI), (C, oC), (D, LCg.lst ys)]) (new := [(T2, tupO dot _ r t)]) S4
    refine ⟨_, S5, .inr ⟨_, by k_mem, rfl, _, rfl⟩, _, n2, _, rfl, ?_, ?_, ?_⟩
    · rw [Array.toList_push, List.take_add_one, e1, dots, List.map_append]
      exact (hp.mono fun _ _ _ _ _ h => .tail _ h).app (.cons (.head _) .nil)
    · intro v hv
      rcases List.mem_append.mp hv with hv | hv
      · exact hy v hv
      · exact List.mem_singleton.mp hv
    · rw [List.length_append, hl]; rfl
  case fin =>
    rintro ys news dn ⟨its, n, tl, rfl, hp, hy, hl⟩
    intro D h tk2 F N o1
    have S : Now s₀ h₀ (lenv L).locals _ _ { s2 with heap := h, toks := tk2 } := ⟨⟨F, N, List.pairwise_cons.mpr ⟨fun p hp => Ne.symm (off1_all o1 p hp), dn⟩⟩, S.mv⟩
    show wpAny _ _ (execs (Stmt.If _ _ _ _ :: List.drop 13 f232.b) _) _ _ _
    refine wpAny_execs_cons ?_
    refine wpAny_If ?_
    refine isTrue_or ?_
    refine wpAny_isTrue_Compare1 ?_
    refine LCt.ListComp_T (F₀ := S.st.F) (cl := []) (by with_unfolding_all rfl) (by decide) rfl (by decide) rfl ?_
    refine eL S (v := .ref D) rfl ?_
    refine LCt.CompSrcT.ledger rfl S.st.F S.st.N (.head _) (by rw [sizeLine_eq, List.size_toArray]; omega) fun g2 => ?_
    refine compT_none .none ?P2 ?turn2 ?fin2
    case P2 => exact fun i v hv => hy v (List.mem_of_getElem? (by simpa using hv))
    case turn2 =>
      intro I oI C oC D2 m₂ h tk E' hC hx F N off ne
      have S8 := St.turn F N S.st.D off ne
      refine wpAny_isTrue_Compare1 ?_
      refine load_local (env := compEnvC _ _ _ _) rfl rfl (hC.ns (S8.get (.tail _ (.head _)))) hx (by decide) ?_
      refine wpAny_Constant_none ?_
      refine wpAny_isNot_self rfl ?_
      refine truthy_b ?_
      rw [if_neg Bool.false_ne_true]
      refine St.end' S8 ?_ rfl
      exact .inr ⟨_, .head _, rfl, _, rfl⟩
    case fin2 =>
      intro D2 h3 tk3 F3 N3 o3
      have S : Now s₀ h₀ (lenv L).locals _ _ { s2 with heap := h3, toks := tk3 } := ⟨S.st.of F3 N3 (off1_all o3), S.mv⟩
      refine List_ ?_
      refine spl0 ?_
      refine nList S (Nat.zero_le _) ?_
      intro D3 s4 S
      refine ne_nil (S.isL (o := LCg.lst []) (by k_mem) ⟨rfl, _, rfl⟩) (S.isL (o := listOf #[] 0) (.head _) LO.mk') (by show callerA.units + 3 + 64 < cLine; decide +kernel) ?_
      refine truthy_b ?_
      rw [if_neg Bool.false_ne_true]
      refine isTrue_or ?_
      refine wpAny_isTrue_Compare1 ?_
      refine Call_Name1 (ld_len X T S.st (PySem.callWith_builtin1 ?_))
      refine eC (q := q 5) S (lk_pile L) (by k_mem) ?_
      refine lenPile (own := [(D3, listOf #[] 0), (D2, LCg.lst []), (D, LCg.lst ys)]) X T S g (row := row) ?hp hn hr1 ⟨by decide, by decide⟩ ?tr ?k
      case hp => rwa [show row.take rA.size = row by rw [rz, ← hn, List.take_length]] at hp
      case tr => exact trivial
      intro t s5 p1' S g5 tr
      refine nInt (s₀ := s5) S ?_
      intro _ s6 S
      refine ne_int ?_
      refine truthy_b ?_
      rw [if_neg (by decide)]
      refine isTrue_or_nil ?_
      rw [if_neg Bool.false_ne_true]
      refine wpAny_execs_nil ?_
      obtain ⟨r⟩ := hQ _ s6 x dx its n tk tv p1' tl ⟨S.st.pick (.drop (.drop (.drop .all))), Mv.refl _⟩ (g5.mv S.mv) tr (by rwa [show row.take rA.size = row by rw [rz, ← hn, List.take_length]] at hp) fun y hy => if_neg hy
      show wpAny (model PR w) (lawA L) (execs (f232.b.drop 13) (lenv L)) Q E _
      with_reducible exact @r
end
end Mine
end
section
open PySem PySem.W PySem.Calls PyProof.Rows Builtin
set_option maxRecDepth 100000
set_option maxHeartbeats 1000000
namespace Mine
/-- what _law_leads asks of its texts, and what it says -/
structure LeadOk (x mk tl r0 r1 r2 r3 r4 : Str) (ls : List Int) : Prop where
  hx : x.length ≤ 100
  hmk : mk.length ≤ 10
  hmk0 : mk.length ≠ 0
  htl : tl.length ≤ 10
  hr : ∀ r ∈ [r1, r2, r3, r4], r.length = 1
  hne : ∀ r ∈ [r1, r2, r3, r4], (Str.ofString "." ++ r == mk ++ r) = false
  hb2 : ∀ z ∈ (List.map (fun y => Txt.replace x (Str.ofString "." ++ y) (mk ++ y)) [r1, r2, r3, r4] ++ [x]), z.length ≤ 100
  hb3 : ∀ z ∈ (List.map (fun y => stripF (y ++ tl)) (List.map (fun y => Txt.replace x (Str.ofString "." ++ y) (mk ++ y)) [r1, r2, r3, r4] ++ [x])), z.length ≤ 110
  e : List.map (fun y => if ([r0, r1, r2, r3, r4].any fun z => z == y) = true then (([r0, r1, r2, r3, r4].idxOf y : Nat) : Int) else 9) (List.map (fun y => stripF (y ++ tl)) (List.map (fun y => Txt.replace x (Str.ofString "." ++ y) (mk ++ y)) [r1, r2, r3, r4] ++ [x])) = ls
section
variable {p : Program} {w : World} {lo : List Str} {mean : ExcName → Option Value} {mg mb : Str → Option Value} {E : Value → Shared → Prop} {h₀ : Heap} {L rs : Addr} {m : Str → Option Value} {s₀ s : Shared} {news : List (Addr × Obj)} {rn : Nat}
theorem leadsCall {x mk tl r0 r1 r2 r3 r4 : Str} {w0 w1 w2 w3 w4 t t2 t3 : Tok} {ls : List Int} {Q : Value → Shared → Prop} (X : (K w.params).In h₀) (T : Top p lo mean mg mb h₀) (S : Now s₀ h₀ L m news s) (hm : (rs, listOf [Value.str r0 w0, Value.str r1 w1, Value.str r2 w2, Value.str r3 w3, Value.str r4 w4].toArray rn) ∈ news) (ok : LeadOk x mk tl r0 r1 r2 r3 r4 ls)
    (hQ : ∀ l ys s', IntsAre ys ls → Now s₀ h₀ L m ((l, LCg.lst ys) :: news) s' → Q (.ref l) s') : wpAny (model PR w) (lawA L) (call (.ref 191) [.str x t, .ref rs, .str mk t2, .str tl t3]) Q E s := by
  have N : News h₀ L s.heap ((rs, listOf [Value.str r0 w0, Value.str r1 w1, Value.str r2 w2, Value.str r3 w3, Value.str r4 w4].toArray rn) :: news) := fun p hp => by
    rcases List.mem_cons.mp hp with rfl | hp
    · exact S.st.N _ hm
    · exact S.st.N _ hp
  refine leads_ok (dp := callerA.depth + 1) (un := callerA.units + 3) (gd := some []) (cn := Str.ofString "law") (cs := f232.sc) (a := 232) (ccd := .ref 231) (cl := cellsFrom (L + 1) f232.sc.names []) (outer := []) (A₀ := callerA) (base := h₀) (below_caller h₀) S.st.F X N T rfl ok.hx ok.hmk ok.hmk0 ok.htl ok.hr (fun r hr => Nat.le_of_eq (ok.hr r hr)) ok.hne ok.hb2 ok.hb3 (by decide +kernel) (by decide +kernel) ?_
  intro l ys h' tk' hi F' N' off
  rw [ok.e] at hi
  have N2 : News h₀ L h' ((l, LCg.lst ys) :: news) := fun p hp => by
    rcases List.mem_cons.mp hp with rfl | hp
    · exact N' _ (.head _)
    · exact N' _ (.tail _ (.tail _ hp))
  exact hQ l ys _ hi ⟨S.st.of F' N2 (off1_all off.2), S.mv⟩
theorem ringsCall {l : Addr} {ys : List Value} {ls : List Int} {Q : Value → Shared → Prop} (X : (K w.params).In h₀) (T : Top p lo mean mg mb h₀) (S : Now s₀ h₀ L m ((l, LCg.lst ys) :: news) s) (hi : IntsAre ys ls) (hg : Good5 ls)
    (hQ : ∀ t s', Now s₀ h₀ L m ((l, LCg.lst ys) :: news) s' → Q (.int (ringsF ls) t) s') : wpAny (model PR w) (lawA L) (call (.ref 198) [.ref l]) Q E s := by
  refine rings_ok (dp := callerA.depth + 1) (un := callerA.units + 3) (gd := some []) (cn := Str.ofString "law") (cs := f232.sc) (a := 232) (ccd := .ref 231) (cl := cellsFrom (L + 1) f232.sc.names []) (outer := []) (A₀ := callerA) (base := h₀) (ld := l) (vl := ys) (nl := ys.length) (below_caller h₀) S.st.F X S.st.N T rfl hi hg ((IntsAre.length hi).trans hg.len) (by decide +kernel) (by decide +kernel) ?_
  intro t h' tk' _ _ F' N'
  exact hQ t _ ⟨S.st.of0 F' N', S.mv⟩
end
end Mine
end
section
open PySem PySem.W PySem.Calls PyProof.Rows Builtin
set_option maxRecDepth 100000
set_option maxHeartbeats 1000000
namespace Mine
noncomputable abbrev rise5 (r0 r1 r2 r3 r4 : Str) (w0 w1 w2 w3 w4 : Tok) : Array Value := [Value.str r0 w0, Value.str r1 w1, Value.str r2 w2, Value.str r3 w3, Value.str r4 w4].toArray
theorem strs5 {vs : List Value} {r0 r1 r2 r3 r4 : Str} (h : StrsAre vs [r0, r1, r2, r3, r4]) : ∃ w0 w1 w2 w3 w4, vs = [Value.str r0 w0, Value.str r1 w1, Value.str r2 w2, Value.str r3 w3, Value.str r4 w4] := by
  cases h with | cons _ w0 h =>
  cases h with | cons _ w1 h =>
  cases h with | cons _ w2 h =>
  cases h with | cons _ w3 h =>
  cases h with | cons _ w4 h =>
  cases h
  exact ⟨_, _, _, _, _, rfl⟩
section
variable {p : Program} {w : World} {lo : List Str} {mean : ExcName → Option Value} {mg mb : Str → Option Value} {E : Value → Shared → Prop} {h₀ : Heap} {L x dx rs rl od : Addr} {m : Str → Option Value} {s : Shared} {Q : Flow → Shared → Prop} {q : Nat → Obj} {its rA oA p1 p2 : Array Value} {n rn : Nat} {k : Int} {tk tv : Tok} {vk vn vg vl vt : Option Value} {tl : List (Addr × Obj)} {os : OsState} {row : List Str} {mk tail r0 r1 r2 r3 r4 : Str} {u2 u3 w0 w1 w2 w3 w4 : Tok} {ls : List Int}
theorem law_6 (X : (K w.params).In h₀) (T : Top p lo mean mg mb h₀) (S : Now s h₀ L m (ledB w.params L q x dx rs rl od its n k tk tv (rise5 r0 r1 r2 r3 r4 w0 w1 w2 w3 w4) rA rn oA vk vn vg vl vt p1 p2 tl) s) (g : Gd os s) (hp : Pcs tl its.toList (dots row)) (hn : row.length = 4) (hr1 : ∀ r ∈ row, r.length = 1) (h2 : TriplesOk p2.toList)
    (mm : m (Str.ofString "mark") = some (.str mk u2)) (ml : m (Str.ofString "tail") = some (.str tail u3)) (ok : LeadOk (txtOf row) mk tail r0 r1 r2 r3 r4 ls) (good : Good5 ls)
    (hQ : ∀ m' s' gl p2' t, Now s' h₀ L m' ((gl, listOf #[] 0) :: ledB w.params L q x dx rs rl od its n k tk tv (rise5 r0 r1 r2 r3 r4 w0 w1 w2 w3 w4) rA rn oA vk vn vg vl vt p1 p2' tl) s' → Gd os s' → TriplesOk p2'.toList → m' (Str.ofString "rings") = some (.int (ringsF ls) t) → m' (Str.ofString "gains") = some (.ref gl) → (∀ y, y ≠ Str.ofString "rings" → y ≠ Str.ofString "gains" → m' y = m y) → Rest w L Q E 15 s') : Rest w L Q E 13 s := by
  refine ⟨?_⟩
  show wpAny _ _ (execs (Stmt.Assign [Expr.Name _ _] (Expr.Call _ _ _ _) _ :: Stmt.Assign [Expr.Name _ _] (Expr.List _ _) _ :: List.drop 15 f232.b) _) _ _ _
  refine wpAny_execs_cons ?_
  refine wpAny_Assign_Name ?_
  refine Call_Name (trees := _) rfl ?_
  refine ldK (v := .ref 198) (by kernel_rfl) rfl (by decide) X T S.st ?_
  refine callWith_K (K := K w.params) (h₀ := h₀) X (by kernel_rfl) ?_
  refine spl ?_
  refine Call_Name (trees := _) rfl ?_
  refine ldK (v := .ref 191) (by kernel_rfl) rfl (by decide) X T S.st ?_
  refine callWith_K (K := K w.params) (h₀ := h₀) X (by kernel_rfl) ?_
  refine spl ?_
  refine Call_Name1 (ld_str X T S.st (callWith_type1 ?_))
  refine eC (q := q 5) S (lk_pile L) (by k_mem) ?_
  refine strPile (own := []) X T S g hp hn (fun r hr => by rw [hr1 r hr]; decide) h2 ?_
  intro t s1 p2' S g tr
  refine spl ?_
  refine eC (q := q 4) S (lk_rising L) (by k_mem) ?_
  refine spl ?_
  refine eL S mm ?_
  refine spl ?_
  refine eL S ml ?_
  refine spl0 ⟨X.keeps S.st.F.keep, ?_⟩
  refine leadsCall X T S (by k_mem) ok ?_
  intro l ys s2 hi S
  refine spl0 ⟨X.keeps S.st.F.keep, ?_⟩
  refine ringsCall X T S hi good ?_
  intro t s3 S
  refine sL S ?_
  intro s4 S
  show wpAny _ _ (execs (Stmt.Assign [Expr.Name _ _] (Expr.List _ _) _ :: _) _) _ _ _
  refine wpAny_execs_cons ?_
  refine wpAny_Assign_Name ?_
  refine List_ ?_
  refine spl0 ?_
  refine nList S (Nat.zero_le _) ?_
  intro gl s5 S
  refine sL S ?_
  intro s6 S
  obtain ⟨r⟩ := hQ _ s6 gl p2' t ⟨S.st.pick (.cons .here (.drop .all)), Mv.refl _⟩ (g.mv S.mv) tr ((if_neg (by decide)).trans (if_pos rfl)) (if_pos rfl) (fun y h1 h2 => (if_neg h2).trans (if_neg h1))
  show wpAny (model PR w) (lawA L) (execs (f232.b.drop 15) (lenv L)) Q E _
  with_reducible exact @r
end
end Mine
end
section
open PySem PySem.W PySem.Calls PyProof.Rows Builtin
set_option maxRecDepth 100000
set_option maxHeartbeats 1000000
namespace Mine
theorem St.updTwo {h₀ h h' : Heap} {L x d : Addr} {m : Str → Option Value} {news n1 n2 : List (Addr × Obj)} {o o' r r' : Obj} (S : St h₀ L m news h) (U1 : At x o o' news n1) (U2 : At d r r' n1 n2) (keep : ∀ b q, b ≠ x → b ≠ d → h.get? b = some q → h'.get? b = some q) (ex : h'.get? x = some o') (ed : h'.get? d = some r') (hf : o'.isFreed = false) : St h₀ L m n2 h' := by
  have e1 : (h.update x fun _ => o').get? x = some o' := Heap.get?_update_self _ (S.get U1.mem) hf
  have S1 : St h₀ L m n1 (h.update x fun _ => o') := S.same U1 (Heap.SameBut.update h x _) e1
  refine S1.upd U2 (fun b q hb e => ?_) ed
  by_cases hbx : b = x
  · subst hbx
    rw [e1] at e
    cases e
    exact ex
  · exact keep b q hbx hb (((Heap.SameBut.update h x fun _ => o').2 b hbx).symm.trans e)
/-- the row after an exchange -/
noncomputable def exchR (row : List Str) (a b c d : Nat) : List Str := row.take a ++ (row.take d).drop c ++ (row.take c).drop b ++ (row.take b).drop a ++ row.drop d
theorem exch_dots (row : List Str) (a b c d : Nat) : exchF (dots row) a b c d = dots (exchR row a b c d) := by
  unfold exchF exchR dots
  simp only [List.map_append, List.map_take, List.map_drop]
theorem Pcs.inTl {P : Params} {L x dx rs rl od : Addr} {q : Nat → Obj} {its rsA rA oA p1 p2 : Array Value} {n rn : Nat} {k : Int} {tk tv : Tok} {vk vn vg vl vt : Option Value} {own new tl : List (Addr × Obj)} {vs : List Value} {ps : List (Str × Str)} (ho : ∀ p ∈ own, p.2.cls ≠ .type "tuple")
    (h : Pcs (new ++ (own ++ ledB P L q x dx rs rl od its n k tk tv rsA rA rn oA vk vn vg vl vt p1 p2 tl)) vs ps) : Pcs (new ++ tl) vs ps := by
  refine h.mono fun T a ta b tb hm => ?_
  rcases List.mem_append.mp hm with hm | hm
  · exact List.mem_append_left _ hm
  rcases List.mem_append.mp hm with hm | hm
  · exact absurd rfl (ho _ hm)
  refine List.mem_append_right _ ?_
  simp only [ledB, cells9, List.mem_cons] at hm
  have nc : ∀ {c : Addr} {o : Obj}, o.cls ≠ .type "tuple" → (T, tupO a ta b tb) = (c, o) → False := fun hc e => hc (congrArg (fun z : Addr × Obj => z.2.cls) e).symm
  have nd : ∀ {c : Addr} {o : Obj} {v : Option Value}, (T, tupO a ta b tb) = (c, cW o v) → False := fun e => by
    have h9 := congrArg (fun z : Addr × Obj => z.2.data) e
    cases h9
  rcases hm with e | e | e | e | e | e | e | e | e | e | e | e | e | e | e | e | e
  · exact (nc (show Value.ref 125 ≠ Value.type "tuple" by decide) e).elim
  · exact (nc (show Value.type "dict" ≠ Value.type "tuple" by decide) e).elim
  · exact (nc (show Value.type "list" ≠ Value.type "tuple" by decide) e).elim
  · exact (nc (show Value.type "list" ≠ Value.type "tuple" by decide) e).elim
  · exact (nc (show Value.type "list" ≠ Value.type "tuple" by decide) e).elim
  · exact (nd e).elim
  · exact (nd e).elim
  · exact (nd e).elim
  · exact (nd e).elim
  · exact (nd e).elim
  · exact (nd e).elim
  · exact (nd e).elim
  · exact (nd e).elim
  · exact (nd e).elim
  · exact (nc (show Value.none ≠ Value.type "tuple" by decide) e).elim
  · exact (nc (show Value.none ≠ Value.type "tuple" by decide) e).elim
  · exact e
noncomputable def bodyD : List Stmt := forBody (fstSt (forBody (fstSt (forBody (fstSt (forBody (fstSt (f232.b.drop 15))))))))
structure BodyD (w : World) (L : Addr) (Q : Flow → Shared → Prop) (E : Value → Shared → Prop) (s : Shared) : Prop where
  run : wpAny (model PR w) (lawA L) (execs bodyD (lenv L)) Q E s
/-- what the four loops ask -/
structure Cuts (row : List Str) (mk tail r0 r1 r2 r3 r4 : Str) (lsF : List Str → List Int) : Prop where
  n : row.length = 4
  r1' : ∀ r ∈ row, r.length = 1
  ok : ∀ a b c d, a < b → b ≤ c → c < d → d ≤ 4 → LeadOk (txtOf (exchR row a b c d)) mk tail r0 r1 r2 r3 r4 (lsF (exchR row a b c d)) ∧ Good5 (lsF (exchR row a b c d))
theorem exch_len {row : List Str} {a b c d : Nat} (hn : row.length = 4) (h1 : a < b) (h2 : b ≤ c) (h3 : c < d) (h4 : d ≤ 4) : (exchR row a b c d).length = 4 := by
  unfold exchR
  simp only [List.length_append, List.length_take, List.length_drop]
  omega
theorem exch_mem {row : List Str} {a b c d : Nat} : ∀ r ∈ exchR row a b c d, r ∈ row := by
  intro r hr
  unfold exchR at hr
  simp only [List.mem_append] at hr
  rcases hr with (((h | h) | h) | h) | h
  · exact List.mem_of_mem_take h
  · exact List.mem_of_mem_take (List.mem_of_mem_drop h)
  · exact List.mem_of_mem_take (List.mem_of_mem_drop h)
  · exact List.mem_of_mem_take (List.mem_of_mem_drop h)
  · exact List.mem_of_mem_drop h
section
variable {p : Program} {w : World} {lo : List Str} {mean : ExcName → Option Value} {mg mb : Str → Option Value} {E : Value → Shared → Prop} {h₀ : Heap} {L x dx rs rl od gl I1 I2 I3 I4 : Addr} {o1 o2 o3 o4 : Obj} {m : Str → Option Value} {s : Shared} {Q : Flow → Shared → Prop} {q : Nat → Obj} {its rA oA gA p1 p2 : Array Value} {n rn gn : Nat} {k : Int} {tk tv : Tok} {vk vn vg vl vt : Option Value} {tl : List (Addr × Obj)} {os : OsState} {row : List Str} {mk tail r0 r1 r2 r3 r4 : Str} {u2 u3 w0 w1 w2 w3 w4 ta tb tc td tr : Tok} {lsF : List Str → List Int} {R0 : Int} {a b c d : Nat}
inductive J3 (rest : List (Addr × Obj) → List (Addr × Obj)) (ps : List (Str × Str)) (i : Nat) (ys : List Value) (news : List (Addr × Obj)) : Prop
  | mk (nt : List (Addr × Obj)) (e : news = rest nt) (h1 : Pcs nt ys ps) (h2 : ys.length = i) : J3 rest ps i ys news
theorem gain_step (X : (K w.params).In h₀) (T : Top p lo mean mg mb h₀) (C : Cuts row mk tail r0 r1 r2 r3 r4 lsF) (c1 : o1.cls ≠ .type "tuple") (c2 : o2.cls ≠ .type "tuple") (c3 : o3.cls ≠ .type "tuple") (c4 : o4.cls ≠ .type "tuple")
    (S : Now s h₀ L m ((I4, o4) :: (I3, o3) :: (I2, o2) :: (I1, o1) :: (gl, listOf gA gn) :: ledB w.params L q x dx rs rl od its n k tk tv (rise5 r0 r1 r2 r3 r4 w0 w1 w2 w3 w4) rA rn oA vk vn vg vl vt p1 p2 tl) s) (g : Gd os s) (hp : Pcs tl its.toList (dots row)) (hr : StrsAre rA.toList row) (h2 : TriplesOk p2.toList) (hg : gA.size ≤ 900)
    (mm : m (Str.ofString "mark") = some (.str mk u2)) (ml : m (Str.ofString "tail") = some (.str tail u3)) (mr : m (Str.ofString "rings") = some (.int R0 tr)) (mg' : m (Str.ofString "gains") = some (.ref gl))
    (ma : m (Str.ofString "a") = some (.int (a : Nat) ta)) (mb' : m (Str.ofString "b") = some (.int (b : Nat) tb)) (mc : m (Str.ofString "c") = some (.int (c : Nat) tc)) (md : m (Str.ofString "d") = some (.int (d : Nat) td)) (h01 : a < b) (h12 : b ≤ c) (h23 : c < d) (h3 : d ≤ 4)
    (hQ : ∀ s' its' n' gn' tk' tv' t p2' tl', Now s' h₀ L m ((I4, o4) :: (I3, o3) :: (I2, o2) :: (I1, o1) :: (gl, listOf (gA.push (.int (ringsF (lsF (exchR row a b c d)) - R0) t)) gn') :: ledB w.params L q x dx rs rl od its' n' 0 tk' tv' (rise5 r0 r1 r2 r3 r4 w0 w1 w2 w3 w4) rA rn oA vk vn vg vl vt p1 p2' tl') s' → Gd os s' → TriplesOk p2'.toList → Pcs tl' its'.toList (dots row) → Q .next s') : BodyD w L Q E s := by
  refine ⟨?_⟩
  show wpAny _ _ (execs (Stmt.If _ _ _ _ :: Stmt.Expr (Expr.Call _ _ _ _) _ :: Stmt.If _ _ _ _ :: []) _) _ _ _
  refine wpAny_execs_cons ?_
  refine wpAny_If ?_
  refine isTrue_not ?_
  refine isTrue_plain ?_
  refine Call_Name (trees := _) rfl ?_
  refine ldK (v := .ref 227) (by kernel_rfl) rfl (by decide) X T S.st ?_
  refine callWith_K (K := K w.params) (h₀ := h₀) X (by kernel_rfl) ?_
  refine spl ?_
  refine eC (q := q 5) S (lk_pile L) (by k_mem) ?_
  refine spl ?_
  refine List_ ?_
  refine spl ?_
  refine eL S ma ?_
  refine spl ?_
  refine eL S mb' ?_
  refine spl ?_
  refine eL S mc ?_
  refine spl ?_
  refine eL S md ?_
  refine spl0 ?_
  refine nList (env := lenv L) S (Nat.le_of_ble_eq_true rfl) ?_
  intro ca s1 S
  refine spl0 ⟨X.keeps S.st.F.keep, ?_⟩
  have hpn : ∀ (own : List (Addr × Obj)), Pcs (own ++ tl) its.toList (dots row) := fun own => hp.mono fun _ _ _ _ _ h => List.mem_append_right _ h
  refine exchange_ok (dp := callerA.depth + 1) (un := callerA.units + 3) (gd := some []) (cn := Str.ofString "law") (cs := f232.sc) (a := 232) (ccd := .ref 231) (cl := cellsFrom (L + 1) f232.sc.names []) (outer := []) (A₀ := callerA) (base := h₀) (x := x) (dx := dx) (ca := ca) (its := its) (n := n) (k := k) (tk := tk) (tv := tv) (ps := dots row)
    (nx := fun its' n' => (ca, listOf [Value.int (a : Nat) ta, .int (b : Nat) tb, .int (c : Nat) tc, .int (d : Nat) td].toArray 0) :: (I4, o4) :: (I3, o3) :: (I2, o2) :: (I1, o1) :: (gl, listOf gA gn) :: ledB w.params L q x dx rs rl od its' n' k tk tv (rise5 r0 r1 r2 r3 r4 w0 w1 w2 w3 w4) rA rn oA vk vn vg vl vt p1 p2 tl)
    (below_caller h₀) S.st X T rfl (by k_mem) (.head _) (fun _ _ => by repeat (first | exact At.head | apply At.tail)) (hp.mono fun _ _ _ _ _ h => by repeat (first | exact h | apply List.Mem.tail)) (by rw [List.length_map]; exact C.n) h01 h12 h23 h3 (by decide +kernel) (by decide +kernel) ?_
  intro its2 n2 new h2' tk2 S2 hp2
  have S : Now s h₀ L m _ { s1 with heap := h2', toks := tk2 } := ⟨S2, S.mv⟩
  refine truthy_b ?_
  rw [if_neg (by decide)]
  refine wpAny_execs_nil ?_
  rw [exch_dots] at hp2
  have hp3 : Pcs (new ++ tl) its2.toList (dots (exchR row a b c d)) := Pcs.inTl (own := [(ca, listOf [Value.int (a : Nat) ta, .int (b : Nat) tb, .int (c : Nat) tc, .int (d : Nat) td].toArray 0), (I4, o4), (I3, o3), (I2, o2), (I1, o1), (gl, listOf gA gn)]) (fun p hp => by
    simp only [List.mem_cons, List.not_mem_nil, or_false] at hp
    rcases hp with rfl | rfl | rfl | rfl | rfl | rfl
    · exact (show Value.type "list" ≠ Value.type "tuple" by decide)
    · exact c4
    · exact c3
    · exact c2
    · exact c1
    · exact (show Value.type "list" ≠ Value.type "tuple" by decide)) hp2
  have S := Now.sinkB (new := new) (own := (ca, listOf [Value.int (a : Nat) ta, .int (b : Nat) tb, .int (c : Nat) tc, .int (d : Nat) td].toArray 0) :: (I4, o4) :: (I3, o3) :: (I2, o2) :: (I1, o1) :: [(gl, listOf gA gn)]) ⟨S.st.perm (List.perm_append_comm_assoc new ((ca, listOf [Value.int (a : Nat) ta, .int (b : Nat) tb, .int (c : Nat) tc, .int (d : Nat) td].toArray 0) :: (I4, o4) :: (I3, o3) :: (I2, o2) :: (I1, o1) :: [(gl, listOf gA gn)]) _), S.mv⟩
  have S := S.pick (.drop .all)
  clear hp2 S2
  have hn4 := exch_len C.n h01 h12 h23 h3
  have hm1 : ∀ r ∈ exchR row a b c d, r.length = 1 := fun r hr => C.r1' r (exch_mem r hr)
  obtain ⟨ok, good⟩ := C.ok a b c d h01 h12 h23 h3
  show wpAny _ _ (execs (Stmt.Expr (Expr.Call _ _ _ _) _ :: Stmt.If _ _ _ _ :: []) _) _ _ _
  refine wpAny_execs_cons ?_
  refine wpAny_Expr ?_ rfl rfl
  refine MethodCall_ ?_ rfl
  refine eL (env := lenv L) S mg' ?_
  refine gmApp (env := lenv L) S (by k_mem) ?_
  refine callWith_method1 ?_
  refine spl ?_
  refine wpAny_BinOp ?_
  refine Call_Name (trees := _) rfl ?_
  refine ldK (v := .ref 198) (by kernel_rfl) rfl (by decide) X T S.st ?_
  refine callWith_K (K := K w.params) (h₀ := h₀) X (by kernel_rfl) ?_
  refine spl ?_
  refine Call_Name (trees := _) rfl ?_
  refine ldK (v := .ref 191) (by kernel_rfl) rfl (by decide) X T S.st ?_
  refine callWith_K (K := K w.params) (h₀ := h₀) X (by kernel_rfl) ?_
  refine spl ?_
  refine Call_Name1 (ld_str X T S.st (callWith_type1 ?_))
  refine eC (env := lenv L) (q := q 5) S (lk_pile L) (by k_mem) ?_
  refine strPile (own := [(I4, o4), (I3, o3), (I2, o2), (I1, o1), (gl, listOf gA gn)]) X T S g hp3 hn4 (fun r hr => by rw [hm1 r hr]; decide) h2 ?_
  intro t s3 p2' S g tr2
  refine spl ?_
  refine eC (env := lenv L) (q := q 4) S (lk_rising L) (by k_mem) ?_
  refine spl ?_
  refine eL (env := lenv L) S mm ?_
  refine spl ?_
  refine eL (env := lenv L) S ml ?_
  refine spl0 ⟨X.keeps S.st.F.keep, ?_⟩
  refine leadsCall X T S (by k_mem) ok ?_
  intro l ys s4 hi S
  refine spl0 ⟨X.keeps S.st.F.keep, ?_⟩
  refine ringsCall X T S hi good ?_
  intro t5 s5 S
  refine eL (env := lenv L) S mr ?_
  refine nSub (env := lenv L) S ?_
  intro t6 s6 S
  refine spl0 ?_
  have S := S.pick (.drop .all)
  refine nApp (env := lenv L) (nx := fun gn' => (I4, o4) :: (I3, o3) :: (I2, o2) :: (I1, o1) :: (gl, listOf (gA.push (.int (ringsF (lsF (exchR row a b c d)) - R0) t6)) gn') :: ledB w.params L q x dx rs rl od its2 n2 k tk tv (rise5 r0 r1 r2 r3 r4 w0 w1 w2 w3 w4) rA rn oA vk vn vg vl vt p1 p2' (new ++ tl)) S (fun _ => by repeat (first | exact At.head | apply At.tail)) (by omega) ?_
  intro gn' s7 S
  show wpAny _ _ (execs (Stmt.If _ _ _ _ :: []) _) _ _ _
  refine wpAny_execs_cons ?_
  refine wpAny_If ?_
  refine wpAny_isTrue_Compare1 ?_
  refine MethodCall_ ?_ rfl
  refine eC (env := lenv L) (q := q 5) S (lk_pile L) (by k_mem) ?_
  refine pile_gm (f := .ref 107) (T := "function") (X.keeps S.st.F.keep) ⟨S.st.get (o := pileO dx its2 n2) (by k_mem), rfl, rfl, S.st.get (o := dictOf (sizeEs w.params k tk tv) 1) (by k_mem)⟩ (by kernel_rfl) (by kernel_rfl) (by decide) rfl ?_
  refine callWith_K (K := K w.params) (h₀ := h₀) X (by kernel_rfl) ?_
  refine spl ?_
  refine LCg.ListComp_U (F₀ := S.st.F) (cl := []) (by with_unfolding_all rfl) (by decide) rfl (by decide) rfl ?_
  refine eC (env := lenv L) (q := q 3) S (lk_row L) (by k_mem) ?_
  have rz : rA.size = 4 := by rw [← Array.length_toList, strs_len hr, C.n]
  refine LCg.CompSrc.ledger rfl S.st.F S.st.N (by k_mem) (by rw [sizeLine_eq]; omega) fun g' => ?_
  refine comp_inv (s₀ := s3) (s := { s7 with heap := g' }) (fun i ys news => J3 (fun nt => (I4, o4) :: (I3, o3) :: (I2, o2) :: (I1, o1) :: (gl, listOf (gA.push (.int (ringsF (lsF (exchR row a b c d)) - R0) t6)) gn') :: ledB w.params L q x dx rs rl od its2 n2 k tk tv (rise5 r0 r1 r2 r3 r4 w0 w1 w2 w3 w4) rA rn oA vk vn vg vl vt p1 p2' (nt ++ (new ++ tl))) (dots (row.take i)) i ys news) S.mv ?turn ?fin _ ⟨[], rfl, .nil, rfl⟩ ?src S.st.D
  case src => exact .inr ⟨_, by k_mem, rfl, _, rfl⟩
  case turn =>
    rintro i v I oI C' oC D m₂ ys' news s8 E' hi' hv ⟨nt, rfl, hp4, hl4⟩ hS S hC hx
    obtain ⟨r, t, e1, rfl⟩ := StrsAre.at hr i v (by simpa using hv)
    refine Tuple_ (k := 0) ?_
    refine spl ?_
    refine wpAny_Constant_str ?_
    refine spl ?_
    refine load_local (env := compEnvC _ _ _ _) rfl rfl (hC.ns (S.st.get (.tail _ (.head _)))) hx (by decide) ?_
    refine spl0 ?_
    refine wpAny_newObj_type ?_
    have S1 : Now s3 h₀ L m _ { s8 with heap := s8.heap.push (tupO dot s8.toks r t), toks := s8.toks + 1 } := ⟨S.st.push (tupO dot s8.toks r t), S.mv⟩
    have S4 := (S1.pick (.cons (.there .here) (.cons (.there .here) (.cons (.there .here) .all))))
    have S5 := Now.sinkB (own := (I, oI) :: (C', oC) :: (D, LCg.lst ys') :: [(I4, o4), (I3, o3), (I2, o2), (I1, o1), (gl, listOf (gA.push (.int (ringsF (lsF (exchR row a b c d)) - R0) t6)) gn')]) (new := [(s8.heap.objs.size, tupO dot s8.toks r t)]) ⟨S4.st.perm (List.Perm.cons _ (List.Perm.cons _ (List.Perm.cons _ (List.perm_append_comm_assoc [(s8.heap.objs.size, tupO dot s8.toks r t)] [(I4, o4), (I3, o3), (I2, o2), (I1, o1), (gl, listOf (gA.push (.int (ringsF (lsF (exchR row a b c d)) - R0) t6)) gn')] (ledB w.params L q x dx rs rl od its2 n2 k tk tv (rise5 r0 r1 r2 r3 r4 w0 w1 w2 w3 w4) rA rn oA vk vn vg vl vt p1 p2' (nt ++ (new ++ tl))))))), S4.mv⟩
    refine ⟨_, S5, .inr ⟨_, by k_mem, rfl, _, rfl⟩, (s8.heap.objs.size, tupO dot s8.toks r t) :: nt, rfl, ?_, ?_⟩
    · rw [List.take_add_one, e1, dots, List.map_append]
      exact (hp4.mono fun _ _ _ _ _ h => .tail _ h).app (.cons (.head _) .nil)
    · rw [List.length_append, hl4]; rfl
  case fin =>
    rintro ys' news dn ⟨nt, rfl, hp4, hl4⟩
    intro D h tk3 F N off
    have S : Now s3 h₀ L m _ { s7 with heap := h, toks := tk3 } := ⟨⟨F, N, List.pairwise_cons.mpr ⟨fun p hp => Ne.symm (off1_all off p hp), dn⟩⟩, S.mv⟩
    have Xt := X.keeps S.st.F.keep
    refine spl0 ⟨Xt, ?_⟩
    have pl := hp3.len
    rw [Array.length_toList, List.length_map, hn4] at pl
    rw [show row.take rA.size = row by rw [rz, ← C.n, List.take_length]] at hp4
    refine reset_ok (x := x) (dx := dx) (its := its2) (n := n2) (its2 := ys'.toArray) (n2 := ys'.length) (by show callerA.depth + 1 + 4 < recursionLimit; decide +kernel) Xt (T.nolimit.keeps S.st.F.keep) (led_K X S.st.N (o := pileO dx its2 n2) (by k_mem)) (led_K X S.st.N (o := dictOf (sizeEs w.params k tk tv) 1) (by k_mem)) (S.st.get (by k_mem)) (S.st.get (by k_mem)) (S.st.get (.head _)) (by omega) (by rw [List.size_toArray]; omega) ?_
    intro h5 tk5 u5 n5 keep hx5 hd5
    have S6 := S.st.updTwo (n2 := (D, LCg.lst ys') :: (I4, o4) :: (I3, o3) :: (I2, o2) :: (I1, o1) :: (gl, listOf (gA.push (.int (ringsF (lsF (exchR row a b c d)) - R0) t6)) gn') :: ledB w.params L q x dx rs rl od ys'.toArray n5 0 tk u5 (rise5 r0 r1 r2 r3 r4 w0 w1 w2 w3 w4) rA rn oA vk vn vg vl vt p1 p2' (nt ++ (new ++ tl))) (U1 := .tail (.tail (.tail (.tail (.tail (.tail .head)))))) (U2 := .tail (.tail (.tail (.tail (.tail (.tail (.tail .head))))))) keep hx5 hd5 rfl
    refine wpAny_Constant_none ?_
    refine wpAny_isNot_self rfl ?_
    refine truthy_b ?_
    rw [if_neg Bool.false_ne_true]
    refine wpAny_execs_nil ?_
    refine wpAny_execs_nil ?_
    exact hQ _ ys'.toArray n5 gn' tk u5 t6 p2' (nt ++ (new ++ tl)) ⟨S6.pick (.drop .all), Mv.refl _⟩ (g.mv S.mv) tr2 (hp4.mono fun _ _ _ _ _ h => List.mem_append_left _ h)
end
end Mine
end
section
open PySem PySem.W PySem.Calls PyProof.Rows Builtin
set_option maxRecDepth 100000
set_option maxHeartbeats 1000000
namespace Mine
/-- the gains of the loops -/
noncomputable def gn (lsF : List Str → List Int) (row : List Str) (R0 : Int) (a b c d : Nat) : Int := ringsF (lsF (exchR row a b c d)) - R0
noncomputable def gD (lsF : List Str → List Int) (row : List Str) (R0 : Int) (a b c i : Nat) : List Int := (List.range i).map fun j => gn lsF row R0 a b c (c + 1 + j)
noncomputable def gC (lsF : List Str → List Int) (row : List Str) (R0 : Int) (a b i : Nat) : List Int := (List.range i).flatMap fun j => gD lsF row R0 a b (b + j) (4 - (b + j))
noncomputable def gB (lsF : List Str → List Int) (row : List Str) (R0 : Int) (a i : Nat) : List Int := (List.range i).flatMap fun j => gC lsF row R0 a (a + 1 + j) (4 - (a + 1 + j))
noncomputable def gA (lsF : List Str → List Int) (row : List Str) (R0 : Int) (i : Nat) : List Int := (List.range i).flatMap fun j => gB lsF row R0 j (3 - j)
theorem flat_succ {f : Nat → List Int} (i : Nat) : (List.range (i + 1)).flatMap f = (List.range i).flatMap f ++ f i := by
  rw [List.range_succ, List.flatMap_append, List.flatMap_singleton]
theorem flat_len {f : Nat → List Int} {c : Nat} (h : ∀ j, (f j).length ≤ c) : ∀ i, ((List.range i).flatMap f).length ≤ c * i
  | 0 => Nat.zero_le _
  | i + 1 => by
    rw [flat_succ, List.length_append, Nat.mul_succ]
    exact Nat.add_le_add (flat_len h i) (h i)
section
variable {lsF : List Str → List Int} {row : List Str} {R0 : Int} {a b c i : Nat}
theorem gD_succ : gD lsF row R0 a b c (i + 1) = gD lsF row R0 a b c i ++ [gn lsF row R0 a b c (c + 1 + i)] := by
  unfold gD
  rw [List.range_succ, List.map_append]; rfl
theorem gC_succ : gC lsF row R0 a b (i + 1) = gC lsF row R0 a b i ++ gD lsF row R0 a b (b + i) (4 - (b + i)) := flat_succ i
theorem gB_succ : gB lsF row R0 a (i + 1) = gB lsF row R0 a i ++ gC lsF row R0 a (a + 1 + i) (4 - (a + 1 + i)) := flat_succ i
theorem gA_succ : gA lsF row R0 (i + 1) = gA lsF row R0 i ++ gB lsF row R0 i (3 - i) := flat_succ i
theorem gD_len : (gD lsF row R0 a b c i).length = i := by unfold gD; simp
theorem gC_len : (gC lsF row R0 a b i).length ≤ 4 * i := flat_len (fun j => by rw [gD_len]; omega) i
theorem gB_len : (gB lsF row R0 a i).length ≤ 16 * i := flat_len (fun j => Nat.le_trans gC_len (by omega)) i
theorem gA_len : (gA lsF row R0 i).length ≤ 48 * i := flat_len (fun j => Nat.le_trans gB_len (by omega)) i
end
noncomputable def bodyC : List Stmt := forBody (fstSt (forBody (fstSt (forBody (fstSt (f232.b.drop 15))))))
noncomputable def bodyB : List Stmt := forBody (fstSt (forBody (fstSt (f232.b.drop 15))))
noncomputable def bodyA : List Stmt := forBody (fstSt (f232.b.drop 15))
structure BodyC (w : World) (L : Addr) (Q : Flow → Shared → Prop) (E : Value → Shared → Prop) (s : Shared) : Prop where
  run : wpAny (model PR w) (lawA L) (execs bodyC (lenv L)) Q E s
structure BodyB (w : World) (L : Addr) (Q : Flow → Shared → Prop) (E : Value → Shared → Prop) (s : Shared) : Prop where
  run : wpAny (model PR w) (lawA L) (execs bodyB (lenv L)) Q E s
structure BodyA (w : World) (L : Addr) (Q : Flow → Shared → Prop) (E : Value → Shared → Prop) (s : Shared) : Prop where
  run : wpAny (model PR w) (lawA L) (execs bodyA (lenv L)) Q E s
/-- the fixed part of the law's second half -/
structure LC where
  P : Params
  L : Addr
  q : Nat → Obj
  x : Addr
  dx : Addr
  rs : Addr
  rl : Addr
  od : Addr
  rsA : Array Value
  rA : Array Value
  rn : Nat
  oA : Array Value
  vk : Option Value
  vn : Option Value
  vg : Option Value
  vl : Option Value
  vt : Option Value
  gl : Addr
  os : OsState
  row : List Str
/-- between the turns of the four loops -/
inductive LSi (C : LC) (m₀ : Str → Option Value) (gs : List Int) (m : Str → Option Value) (news : List (Addr × Obj)) (m1 m2 : Prop) : Prop
  | mk (its : Array Value) (n : Nat) (k : Int) (tk tv : Tok) (p1 p2 : Array Value) (tl : List (Addr × Obj)) (gA : Array Value) (gn : Nat) (e : news = (C.gl, listOf gA gn) :: ledB C.P C.L C.q C.x C.dx C.rs C.rl C.od its n k tk tv C.rsA C.rA C.rn C.oA C.vk C.vn C.vg C.vl C.vt p1 p2 tl) (h1 : Pcs tl its.toList (dots C.row)) (h2 : IntsAre gA.toList gs) (h3 : TriplesOk p1.toList) (h4 : TriplesOk p2.toList) (h5 : m1) (h6 : m2) (h7 : gs = [] ∨ k = 0)
    (h8 : ∀ y, y ≠ Str.ofString "a" → y ≠ Str.ofString "b" → y ≠ Str.ofString "c" → y ≠ Str.ofString "d" → m y = m₀ y) : LSi C m₀ gs m news m1 m2
noncomputable abbrev LS (C : LC) (m₀ : Str → Option Value) (gs : List Int) (m : Str → Option Value) (news : List (Addr × Obj)) (t : Shared) : Prop := LSi C m₀ gs m news (t.os = C.os) (AllBare t.gens)
section
variable {p : Program} {w : World} {lo : List Str} {mean : ExcName → Option Value} {mg mb : Str → Option Value} {E : Value → Shared → Prop} {h₀ : Heap} {L I1 I2 I3 I4 : Addr} {o1 o2 o3 o4 : Obj} {m m₀ : Str → Option Value} {news : List (Addr × Obj)} {s : Shared} {Q : Flow → Shared → Prop} {mk tail r0 r1 r2 r3 r4 : Str} {u2 u3 w0 w1 w2 w3 w4 ta tb tc td tr : Tok} {lsF : List Str → List Int} {R0 : Int} {a b c d : Nat} {gs : List Int} {C : LC}
/-- what all loops share -/
structure Base (p : Program) (lo : List Str) (mean : ExcName → Option Value) (mg mb : Str → Option Value) (w : World) (h₀ : Heap) (C : LC) (m₀ : Str → Option Value) (mk tail r0 r1 r2 r3 r4 : Str) (u2 u3 w0 w1 w2 w3 w4 tr : Tok) (lsF : List Str → List Int) (R0 : Int) : Prop where
  X : (K w.params).In h₀
  T : Top p lo mean mg mb h₀
  P : C.P = w.params
  cuts : Cuts C.row mk tail r0 r1 r2 r3 r4 lsF
  rise : C.rsA = rise5 r0 r1 r2 r3 r4 w0 w1 w2 w3 w4
  hr : StrsAre C.rA.toList C.row
  mm : m₀ (Str.ofString "mark") = some (.str mk u2)
  ml : m₀ (Str.ofString "tail") = some (.str tail u3)
  mr : m₀ (Str.ofString "rings") = some (.int R0 tr)
  mg' : m₀ (Str.ofString "gains") = some (.ref C.gl)
theorem loop_d (B : Base p lo mean mg mb w h₀ C m₀ mk tail r0 r1 r2 r3 r4 u2 u3 w0 w1 w2 w3 w4 tr lsF R0) (c3 : o3.cls ≠ .type "tuple") (c2 : o2.cls ≠ .type "tuple") (c1 : o1.cls ≠ .type "tuple") (S : Now s h₀ C.L m ((I3, o3) :: (I2, o2) :: (I1, o1) :: news) s) (H : LS C m₀ gs m news s) (hz : gs.length ≤ 890)
    (ma : m (Str.ofString "a") = some (.int (a : Nat) ta)) (mb1 : m (Str.ofString "b") = some (.int (b : Nat) tb)) (mc : m (Str.ofString "c") = some (.int (c : Nat) tc)) (h01 : a < b) (h12 : b ≤ c) (h23 : c < 4)
    (hQ : ∀ m' news' s', Now s' h₀ C.L m' ((I3, o3) :: (I2, o2) :: (I1, o1) :: news') s' → LS C m₀ (gs ++ gD lsF C.row R0 a b c (4 - c)) m' news' s' → (∀ y, y ≠ Str.ofString "d" → m' y = m y) → Q .next s') : BodyC w C.L Q E s := by
  refine ⟨?_⟩
  show wpAny _ _ (execs (Stmt.For _ _ _ _ _ :: []) _) _ _ _
  refine wpAny_execs_cons ?_
  refine for_St_range (h₀ := h₀) (L := C.L) (J := fun i m' nw t => ∃ nw', nw = (I3, o3) :: (I2, o2) :: (I1, o1) :: nw' ∧ LS C m₀ (gs ++ gD lsF C.row R0 a b c i) m' nw' t ∧ ∀ y, y ≠ Str.ofString "d" → m' y = m y) ?hh ?hJ ?hgo ?hs ?h
  case hh => rfl
  case hJ => exact fun _ _ _ _ _ _ h => h
  case hgo => exact fun _ _ => rfl
  case hs => exact fun _ => rfl
  refine Call_Name2 (ld_range B.X B.T S.st ?_)
  refine PySem.callWith_type rfl ?_
  refine Calls.evalArgs_plain ?_
  refine Calls.spliced_cons ?_
  refine wpAny_BinOp ?_
  refine eL (env := lenv C.L) S mc ?_
  refine nInt (env := lenv C.L) S ?_
  intro _ s1 S
  refine nAdd (env := lenv C.L) S ?_
  intro _ s2 S
  refine Calls.spliced_cons ?_
  refine nInt (env := lenv C.L) S ?_
  intro _ s3 S
  refine Calls.spliced_nil ?_
  refine nRange2 (env := lenv C.L) S ?_
  intro r t1 t2 t3 s4 S hr
  have H4 : LS C m₀ (gs ++ gD lsF C.row R0 a b c 0) m news s4 := by
    obtain ⟨its, n, k, tk, tv, p1, p2, tl, gA, gn, e, h1, h2, h3, h4, h5, h6, h7, h8⟩ := H
    exact ⟨its, n, k, tk, tv, p1, p2, tl, gA, gn, e, h1, by simpa [gD] using h2, h3, h4, S.mv.1.trans h5, S.mv.2.1 ▸ h6, by simpa [gD] using h7, h8⟩
  refine ⟨r, ((c : Nat) : Int) + 1, 5, _, _, _, (4 - c), m, (I3, o3) :: (I2, o2) :: (I1, o1) :: news, rfl, hr, small_one (by omega) (by omega) (by omega) (by omega), (rangeSize_nat _ _).trans (by omega), ⟨S.st, trivial, fun g => ⟨news, rfl, H4, fun y _ => rfl⟩, ?_, ?_⟩⟩
  · rintro i v m' nw t tk5 I4 o4 hi' ⟨u, rfl⟩ ⟨nw', rfl, H5, hm⟩ - S5 c4 E'
    have S : Now { t with toks := tk5 } h₀ C.L m' _ { t with toks := tk5 } := ⟨S5, Mv.refl _⟩
    refine tL (env := lenv C.L) S ?_
    intro s6 S
    have ev : ((c : Nat) : Int) + 1 + (i : Int) = ((c + 1 + i : Nat) : Int) := by omega
    rw [ev] at S
    have ma6 : (fun y => if y = Str.ofString "d" then some (Value.int ((c + 1 + i : Nat) : Int) u) else m' y) (Str.ofString "a") = some (.int (a : Nat) ta) := by
      show (if _ then _ else _) = _
      rw [if_neg (by decide), hm _ (by decide)]
      exact ma
    have mb16 : (fun y => if y = Str.ofString "d" then some (Value.int ((c + 1 + i : Nat) : Int) u) else m' y) (Str.ofString "b") = some (.int (b : Nat) tb) := by
      show (if _ then _ else _) = _
      rw [if_neg (by decide), hm _ (by decide)]
      exact mb1
    have mc6 : (fun y => if y = Str.ofString "d" then some (Value.int ((c + 1 + i : Nat) : Int) u) else m' y) (Str.ofString "c") = some (.int (c : Nat) tc) := by
      show (if _ then _ else _) = _
      rw [if_neg (by decide), hm _ (by decide)]
      exact mc
    obtain ⟨its, n, k, tk, tv, p1, p2, tl, gA, gn', rfl, h1, h2, h3, h4, h5, h6, h7, h8⟩ := H5
    rw [B.rise, B.P] at S
    have mx : ∀ z v, z ≠ Str.ofString "a" → z ≠ Str.ofString "b" → z ≠ Str.ofString "c" → z ≠ Str.ofString "d" → m₀ z = some v → (fun y => if y = Str.ofString "d" then some (Value.int ((c + 1 + i : Nat) : Int) u) else m' y) z = some v := fun z v e1 e2 e3 e4 e => (if_neg e4).trans ((h8 z e1 e2 e3 e4).trans e)
    have gz : gA.size ≤ 900 := by
      have := IntsAre.length h2
      rw [Array.length_toList, List.length_append, gD_len] at this
      omega
    show wpAny (model PR w) (lawA C.L) (execs bodyD (lenv C.L)) _ _ _
    refine @BodyD.run w C.L _ E' s6 ?_
    refine gain_step (E := E') (a := a) (b := b) (c := c) (d := c + 1 + i) (R0 := R0) B.X B.T B.cuts c1 c2 c3 c4 ⟨S.st, Mv.refl _⟩ ⟨S.mv.1.trans h5, S.mv.2.1 ▸ h6⟩ h1 B.hr h4 gz (mx _ _ (by decide) (by decide) (by decide) (by decide) B.mm) (mx _ _ (by decide) (by decide) (by decide) (by decide) B.ml) (mx _ _ (by decide) (by decide) (by decide) (by decide) B.mr) (mx _ _ (by decide) (by decide) (by decide) (by decide) B.mg') ma6 mb16 mc6 (if_pos rfl) h01 h12 (by omega) (by omega) ?hQ6
    case hQ6 =>
      intro s7 its7 n7 gn7 tk7 tv7 t7 p27 tl7 S7 g7 tr7 hp7
      refine ⟨_, _, S7.st, ⟨_, rfl, ⟨its7, n7, 0, tk7, tv7, p1, p27, tl7, _, gn7, by rw [B.rise, B.P], hp7, ?_, h3, tr7, g7.o, g7.g, .inr rfl, ?_⟩, ?_⟩, trivial⟩
      · rw [gD_succ, ← List.append_assoc, Array.toList_push]
        exact IntsAre.append h2 (.cons _ _ .nil)
      · exact fun y e1 e2 e3 e4 => (if_neg e4).trans (h8 y e1 e2 e3 e4)
      · exact fun y e => (if_neg e).trans (hm y e)
  · rintro m' nw t tk5 ⟨nw', rfl, H5, hm⟩ S5
    exact wpAny_execs_nil (hQ m' nw' _ ⟨S5, Mv.refl _⟩ H5 hm)
theorem loop_c (B : Base p lo mean mg mb w h₀ C m₀ mk tail r0 r1 r2 r3 r4 u2 u3 w0 w1 w2 w3 w4 tr lsF R0) (c2 : o2.cls ≠ .type "tuple") (c1 : o1.cls ≠ .type "tuple") (S : Now s h₀ C.L m ((I2, o2) :: (I1, o1) :: news) s) (H : LS C m₀ gs m news s) (hz : gs.length ≤ 870)
    (ma : m (Str.ofString "a") = some (.int (a : Nat) ta)) (mb1 : m (Str.ofString "b") = some (.int (b : Nat) tb)) (h01 : a < b) (h12 : b < 4)
    (hQ : ∀ m' news' s', Now s' h₀ C.L m' ((I2, o2) :: (I1, o1) :: news') s' → LS C m₀ (gs ++ gC lsF C.row R0 a b (4 - b)) m' news' s' → (∀ y, y ≠ Str.ofString "c" → y ≠ Str.ofString "d" → m' y = m y) → Q .next s') : BodyB w C.L Q E s := by
  refine ⟨?_⟩
  show wpAny _ _ (execs (Stmt.For _ _ _ _ _ :: []) _) _ _ _
  refine wpAny_execs_cons ?_
  refine for_St_range (h₀ := h₀) (L := C.L) (J := fun i m' nw t => ∃ nw', nw = (I2, o2) :: (I1, o1) :: nw' ∧ LS C m₀ (gs ++ gC lsF C.row R0 a b i) m' nw' t ∧ ∀ y, y ≠ Str.ofString "c" → y ≠ Str.ofString "d" → m' y = m y) ?hh ?hJ ?hgo ?hs ?h
  case hh => rfl
  case hJ => exact fun _ _ _ _ _ _ h => h
  case hgo => exact fun _ _ => rfl
  case hs => exact fun _ => rfl
  refine Call_Name2 (ld_range B.X B.T S.st ?_)
  refine PySem.callWith_type rfl ?_
  refine Calls.evalArgs_plain ?_
  refine Calls.spliced_cons ?_
  refine eL (env := lenv C.L) S mb1 ?_
  refine Calls.spliced_cons ?_
  refine nInt (env := lenv C.L) S ?_
  intro _ s3 S
  refine Calls.spliced_nil ?_
  refine nRange2 (env := lenv C.L) S ?_
  intro r t1 t2 t3 s4 S hr
  have H4 : LS C m₀ (gs ++ gC lsF C.row R0 a b 0) m news s4 := by
    obtain ⟨its, n, k, tk, tv, p1, p2, tl, gA, gn, e, h1, h2, h3, h4, h5, h6, h7, h8⟩ := H
    exact ⟨its, n, k, tk, tv, p1, p2, tl, gA, gn, e, h1, by simpa [gC] using h2, h3, h4, S.mv.1.trans h5, S.mv.2.1 ▸ h6, by simpa [gC] using h7, h8⟩
  refine ⟨r, ((b : Nat) : Int), 4, _, _, _, (4 - b), m, (I2, o2) :: (I1, o1) :: news, rfl, hr, small_one (by omega) (by omega) (by omega) (by omega), (rangeSize_nat _ _).trans (by omega), ⟨S.st, trivial, fun g => ⟨news, rfl, H4, fun y _ _ => rfl⟩, ?_, ?_⟩⟩
  · rintro i v m' nw t tk5 I3 o3 hi' ⟨u, rfl⟩ ⟨nw', rfl, H5, hm⟩ - S5 c3 E'
    have S : Now { t with toks := tk5 } h₀ C.L m' _ { t with toks := tk5 } := ⟨S5, Mv.refl _⟩
    refine tL (env := lenv C.L) S ?_
    intro s6 S
    have ev : ((b : Nat) : Int) + (i : Int) = ((b + i : Nat) : Int) := by omega
    rw [ev] at S
    have ma6 : (fun y => if y = Str.ofString "c" then some (Value.int ((b + i : Nat) : Int) u) else m' y) (Str.ofString "a") = some (.int (a : Nat) ta) := by
      show (if _ then _ else _) = _
      rw [if_neg (by decide), hm _ (by decide) (by decide)]
      exact ma
    have mb16 : (fun y => if y = Str.ofString "c" then some (Value.int ((b + i : Nat) : Int) u) else m' y) (Str.ofString "b") = some (.int (b : Nat) tb) := by
      show (if _ then _ else _) = _
      rw [if_neg (by decide), hm _ (by decide) (by decide)]
      exact mb1
    have H6 : LS C m₀ (gs ++ gC lsF C.row R0 a b i) (fun y => if y = Str.ofString "c" then some (Value.int ((b + i : Nat) : Int) u) else m' y) nw' s6 := by
      obtain ⟨its, n, k, tk, tv, p1, p2, tl, gA, gn, e, h1, h2, h3, h4, h5, h6, h7, h8⟩ := H5
      exact ⟨its, n, k, tk, tv, p1, p2, tl, gA, gn, e, h1, h2, h3, h4, S.mv.1.trans h5, S.mv.2.1 ▸ h6, h7, fun y ea eb ec ed => (if_neg ec).trans (h8 y ea eb ec ed)⟩
    have hl := gC_len (lsF := lsF) (row := C.row) (R0 := R0) (a := a) (b := b) (i := i)
    show wpAny (model PR w) (lawA C.L) (execs bodyC (lenv C.L)) _ _ _
    refine @BodyC.run w C.L _ E' s6 ?_
    refine loop_d (c := b + i) B c3 c2 c1 ⟨S.st, Mv.refl _⟩ H6 (by rw [List.length_append]; omega) ma6 mb16 (if_pos rfl) h01 (by omega) (by omega) ?hQ6
    case hQ6 =>
      intro m7 news7 s7 S7 H7 hm7
      refine ⟨m7, _, S7.st, ⟨news7, rfl, ?_, fun y ec ed => (hm7 y ed).trans ((if_neg ec).trans (hm y ec ed))⟩, trivial⟩
      rw [gC_succ, ← List.append_assoc]
      exact H7
  · rintro m' nw t tk5 ⟨nw', rfl, H5, hm⟩ S5
    exact wpAny_execs_nil (hQ m' nw' _ ⟨S5, Mv.refl _⟩ H5 hm)
theorem loop_b (B : Base p lo mean mg mb w h₀ C m₀ mk tail r0 r1 r2 r3 r4 u2 u3 w0 w1 w2 w3 w4 tr lsF R0) (c1 : o1.cls ≠ .type "tuple") (S : Now s h₀ C.L m ((I1, o1) :: news) s) (H : LS C m₀ gs m news s) (hz : gs.length ≤ 800)
    (ma : m (Str.ofString "a") = some (.int (a : Nat) ta)) (h01 : a < 3)
    (hQ : ∀ m' news' s', Now s' h₀ C.L m' ((I1, o1) :: news') s' → LS C m₀ (gs ++ gB lsF C.row R0 a (3 - a)) m' news' s' → (∀ y, y ≠ Str.ofString "b" → y ≠ Str.ofString "c" → y ≠ Str.ofString "d" → m' y = m y) → Q .next s') : BodyA w C.L Q E s := by
  refine ⟨?_⟩
  show wpAny _ _ (execs (Stmt.For _ _ _ _ _ :: []) _) _ _ _
  refine wpAny_execs_cons ?_
  refine for_St_range (h₀ := h₀) (L := C.L) (J := fun i m' nw t => ∃ nw', nw = (I1, o1) :: nw' ∧ LS C m₀ (gs ++ gB lsF C.row R0 a i) m' nw' t ∧ ∀ y, y ≠ Str.ofString "b" → y ≠ Str.ofString "c" → y ≠ Str.ofString "d" → m' y = m y) ?hh ?hJ ?hgo ?hs ?h
  case hh => rfl
  case hJ => exact fun _ _ _ _ _ _ h => h
  case hgo => exact fun _ _ => rfl
  case hs => exact fun _ => rfl
  refine Call_Name2 (ld_range B.X B.T S.st ?_)
  refine PySem.callWith_type rfl ?_
  refine Calls.evalArgs_plain ?_
  refine Calls.spliced_cons ?_
  refine wpAny_BinOp ?_
  refine eL (env := lenv C.L) S ma ?_
  refine nInt (env := lenv C.L) S ?_
  intro _ s1 S
  refine nAdd (env := lenv C.L) S ?_
  intro _ s2 S
  refine Calls.spliced_cons ?_
  refine nInt (env := lenv C.L) S ?_
  intro _ s3 S
  refine Calls.spliced_nil ?_
  refine nRange2 (env := lenv C.L) S ?_
  intro r t1 t2 t3 s4 S hr
  have H4 : LS C m₀ (gs ++ gB lsF C.row R0 a 0) m news s4 := by
    obtain ⟨its, n, k, tk, tv, p1, p2, tl, gA, gn, e, h1, h2, h3, h4, h5, h6, h7, h8⟩ := H
    exact ⟨its, n, k, tk, tv, p1, p2, tl, gA, gn, e, h1, by simpa [gB] using h2, h3, h4, S.mv.1.trans h5, S.mv.2.1 ▸ h6, by simpa [gB] using h7, h8⟩
  refine ⟨r, ((a : Nat) : Int) + 1, 4, _, _, _, (3 - a), m, (I1, o1) :: news, rfl, hr, small_one (by omega) (by omega) (by omega) (by omega), (rangeSize_nat _ _).trans (by omega), ⟨S.st, trivial, fun g => ⟨news, rfl, H4, fun y _ _ _ => rfl⟩, ?_, ?_⟩⟩
  · rintro i v m' nw t tk5 I2 o2 hi' ⟨u, rfl⟩ ⟨nw', rfl, H5, hm⟩ - S5 c2 E'
    have S : Now { t with toks := tk5 } h₀ C.L m' _ { t with toks := tk5 } := ⟨S5, Mv.refl _⟩
    refine tL (env := lenv C.L) S ?_
    intro s6 S
    have ev : ((a : Nat) : Int) + 1 + (i : Int) = ((a + 1 + i : Nat) : Int) := by omega
    rw [ev] at S
    have ma6 : (fun y => if y = Str.ofString "b" then some (Value.int ((a + 1 + i : Nat) : Int) u) else m' y) (Str.ofString "a") = some (.int (a : Nat) ta) := by
      show (if _ then _ else _) = _
      rw [if_neg (by decide), hm _ (by decide) (by decide) (by decide)]
      exact ma
    have H6 : LS C m₀ (gs ++ gB lsF C.row R0 a i) (fun y => if y = Str.ofString "b" then some (Value.int ((a + 1 + i : Nat) : Int) u) else m' y) nw' s6 := by
      obtain ⟨its, n, k, tk, tv, p1, p2, tl, gA, gn, e, h1, h2, h3, h4, h5, h6, h7, h8⟩ := H5
      exact ⟨its, n, k, tk, tv, p1, p2, tl, gA, gn, e, h1, h2, h3, h4, S.mv.1.trans h5, S.mv.2.1 ▸ h6, h7, fun y ea eb ec ed => (if_neg eb).trans (h8 y ea eb ec ed)⟩
    have hl := gB_len (lsF := lsF) (row := C.row) (R0 := R0) (a := a) (i := i)
    show wpAny (model PR w) (lawA C.L) (execs bodyB (lenv C.L)) _ _ _
    refine @BodyB.run w C.L _ E' s6 ?_
    refine loop_c (b := a + 1 + i) B c2 c1 ⟨S.st, Mv.refl _⟩ H6 (by rw [List.length_append]; omega) ma6 (if_pos rfl) (by omega) (by omega) ?hQ6
    case hQ6 =>
      intro m7 news7 s7 S7 H7 hm7
      refine ⟨m7, _, S7.st, ⟨news7, rfl, ?_, fun y eb ec ed => (hm7 y ec ed).trans ((if_neg eb).trans (hm y eb ec ed))⟩, trivial⟩
      rw [gB_succ, ← List.append_assoc]
      exact H7
  · rintro m' nw t tk5 ⟨nw', rfl, H5, hm⟩ S5
    exact wpAny_execs_nil (hQ m' nw' _ ⟨S5, Mv.refl _⟩ H5 hm)
theorem law_7 (B : Base p lo mean mg mb w h₀ C m₀ mk tail r0 r1 r2 r3 r4 u2 u3 w0 w1 w2 w3 w4 tr lsF R0) (S : Now s h₀ C.L m news s) (H : LS C m₀ [] m news s)
    (hQ : ∀ m' news' s', Now s' h₀ C.L m' news' s' → LS C m₀ (gA lsF C.row R0 3) m' news' s' → Rest w C.L Q E 16 s') : Rest w C.L Q E 15 s := by
  refine ⟨?_⟩
  show wpAny _ _ (execs (Stmt.For _ _ _ _ _ :: List.drop 16 f232.b) _) _ _ _
  refine wpAny_execs_cons ?_
  refine for_St_range (h₀ := h₀) (L := C.L) (J := fun i m' nw t => LS C m₀ (gA lsF C.row R0 i) m' nw t) ?hh ?hJ ?hgo ?hs ?h
  case hh => rfl
  case hJ => exact fun _ _ _ _ _ _ h => h
  case hgo => exact fun _ _ => rfl
  case hs => exact fun _ => rfl
  refine Call_Name1 (ld_range B.X B.T S.st (callWith_type1 ?_))
  refine nInt (env := lenv C.L) S ?_
  intro _ s3 S
  refine nRange1 (env := lenv C.L) S ?_
  intro r t1 t2 t3 s4 S hr
  have H4 : LS C m₀ (gA lsF C.row R0 0) m news s4 := by
    obtain ⟨its, n, k, tk, tv, p1, p2, tl, gA, gn, e, h1, h2, h3, h4, h5, h6, h7, h8⟩ := H
    exact ⟨its, n, k, tk, tv, p1, p2, tl, gA, gn, e, h1, h2, h3, h4, S.mv.1.trans h5, S.mv.2.1 ▸ h6, .inl rfl, h8⟩
  refine ⟨r, 0, 3, _, _, _, 3, m, news, rfl, hr, small_one (by omega) (by omega) (by omega) (by omega), (rangeSize_nat _ _).trans (by omega), ⟨S.st, trivial, fun g => H4, ?_, ?_⟩⟩
  · rintro i v m' nw t tk5 I1 o1 hi' ⟨u, rfl⟩ H5 - S5 c1 E'
    have S : Now { t with toks := tk5 } h₀ C.L m' _ { t with toks := tk5 } := ⟨S5, Mv.refl _⟩
    refine tL (env := lenv C.L) S ?_
    intro s6 S
    have ev : (0 : Int) + (i : Int) = ((i : Nat) : Int) := by omega
    rw [ev] at S
    have H6 : LS C m₀ (gA lsF C.row R0 i) (fun y => if y = Str.ofString "a" then some (Value.int ((i : Nat) : Int) u) else m' y) nw s6 := by
      obtain ⟨its, n, k, tk, tv, p1, p2, tl, gA, gn, e, h1, h2, h3, h4, h5, h6, h7, h8⟩ := H5
      exact ⟨its, n, k, tk, tv, p1, p2, tl, gA, gn, e, h1, h2, h3, h4, S.mv.1.trans h5, S.mv.2.1 ▸ h6, h7, fun y ea eb ec ed => (if_neg ea).trans (h8 y ea eb ec ed)⟩
    have hl := gA_len (lsF := lsF) (row := C.row) (R0 := R0) (i := i)
    show wpAny (model PR w) (lawA C.L) (execs bodyA (lenv C.L)) _ _ _
    refine @BodyA.run w C.L _ E' s6 ?_
    refine loop_b (a := i) B c1 ⟨S.st, Mv.refl _⟩ H6 (by omega) (if_pos rfl) (by omega) ?hQ6
    case hQ6 =>
      intro m7 news7 s7 S7 H7 hm7
      refine ⟨m7, _, S7.st, ?_, trivial⟩
      rw [gA_succ]
      exact H7
  · rintro m' nw t tk5 H5 S5
    obtain ⟨r⟩ := hQ m' nw { t with toks := tk5 } ⟨S5, Mv.refl _⟩ H5
    show wpAny (model PR w) (lawA C.L) (execs (f232.b.drop 16) (lenv C.L)) Q E _
    with_reducible exact @r
end
end Mine
end
section
open PySem PySem.W PySem.Calls PyProof.Rows Builtin
set_option maxRecDepth 100000
set_option maxHeartbeats 1000000
namespace Mine
theorem notin_tup {prog : Program} {w : World} {A : Around} {E : Value → Shared → Prop} {s : Shared} {l : Addr} {vs : List Value} {ns : List Int} {k : Int} {t : Tok} {Q : Value → Shared → Prop} (hl : s.heap.IsTuple l vs.toArray) (hi : IntsAre vs ns)
    (h : Q (.bool (!(ns.any (· == k)))) s) : wpAny (model prog w) A (compareOp .NotIn (.int k t) (.ref l)) Q E s :=
  PySem.SeqAt.notIn_tupleAt (isInt k) hl (fun y hy => (eq_isInt k t hi y (by simpa using hy)).at _ _) (by rw [← Array.any_toList, show vs.toArray.toList = vs from rfl, any_isInt k hi]; exact h)
section
variable {p : Program} {w : World} {lo : List Str} {mean : ExcName → Option Value} {mg mb : Str → Option Value} {E : Value → Shared → Prop} {h₀ : Heap} {m m₀ : Str → Option Value} {news : List (Addr × Obj)} {s : Shared} {Q : Flow → Shared → Prop} {mk tail r0 r1 r2 r3 r4 : Str} {u2 u3 w0 w1 w2 w3 w4 tr : Tok} {lsF : List Str → List Int} {R0 : Int} {gs : List Int} {C : LC}
theorem law_8 (B : Base p lo mean mg mb w h₀ C m₀ mk tail r0 r1 r2 r3 r4 u2 u3 w0 w1 w2 w3 w4 tr lsF R0) (S : Now s h₀ C.L m news s) (H : LS C m₀ gs m news s) (hz : gs.length ≤ 500) (h0 : gs ≠ []) (hg : ∀ g ∈ gs, g = -2 ∨ g = 0 ∨ g = 2) (hr : (gs.any fun x => x == 2) = decide (R0 < 5))
    (hQ : ∀ s' its n tk tv p1 p2 tl, Now s' h₀ C.L m (ledB C.P C.L C.q C.x C.dx C.rs C.rl C.od its n 0 tk tv C.rsA C.rA C.rn C.oA C.vk C.vn C.vg C.vl C.vt p1 p2 tl) s' → Gd C.os s' → TriplesOk p1.toList → TriplesOk p2.toList → Pcs tl its.toList (dots C.row) → (∀ y, y ≠ Str.ofString "a" → y ≠ Str.ofString "b" → y ≠ Str.ofString "c" → y ≠ Str.ofString "d" → m y = m₀ y) → Rest w C.L Q E 17 s') : Rest w C.L Q E 16 s := by
  refine ⟨?_⟩
  obtain ⟨its, n, k, tk, tv, p1, p2, tl, gA, gn, rfl, h1, h2, h3, h4, h5, h6, h7, h8⟩ := H
  obtain rfl : k = 0 := h7.resolve_left h0
  have gz : gA.size ≤ 500 := by rw [← Array.length_toList, IntsAre.length h2]; exact hz
  have mgn : m (Str.ofString "gains") = some (.ref C.gl) := (h8 _ (by decide) (by decide) (by decide) (by decide)).trans B.mg'
  have mrn : m (Str.ofString "rings") = some (.int R0 tr) := (h8 _ (by decide) (by decide) (by decide) (by decide)).trans B.mr
  show wpAny _ _ (execs (Stmt.If _ _ _ _ :: List.drop 17 f232.b) _) _ _ _
  refine wpAny_execs_cons ?_
  refine wpAny_If ?_
  refine isTrue_or ?_
  refine wpAny_isTrue_Compare1 ?_
  refine LCt.ListComp_T (F₀ := S.st.F) (cl := []) (by with_unfolding_all rfl) (by decide) rfl (by decide) rfl ?_
  refine eL (env := lenv C.L) S mgn ?_
  refine LCt.CompSrcT.ledger rfl S.st.F S.st.N (.head _) (by rw [sizeLine_eq]; omega) fun g2 => ?_
  refine compT_keep (fun x t => Value.int x t) (fun _ => false) gs ?n ?P ?turn ?fin
  case n => rw [← Array.length_toList, IntsAre.length h2]
  case P =>
    intro i v hv
    obtain ⟨x, t, e1, e2⟩ := IntsAre.at h2 i v (by simpa using hv)
    exact ⟨x, t, e2, e1⟩
  case turn =>
    intro z t I oI C' oC D m₂ ys h tk E' hx hC hm F N off ne
    have S8 := St.turn F N S.st.D off ne
    refine wpAny_isTrue_Compare1 ?_
    refine load_local (env := compEnvC _ _ _ _) rfl rfl (hC.ns (S8.get (.tail _ (.head _)))) hm (by decide) ?_
    refine Tuple_ (k := 0) ?_
    refine spl ?_
    refine wpAny_UnaryOp ?_
    refine wpAny_Constant_int ?_
    refine neg_int ?_
    refine spl ?_
    refine wpAny_Constant_int ?_
    refine spl ?_
    refine wpAny_Constant_int ?_
    refine spl0 ?_
    refine wpAny_newObj_type ?_
    have S9 := S8.push { cls := .type "tuple", data := .seq [Value.int (-2) (tk + 1), Value.int 0 (tk + 1 + 1), Value.int 2 (tk + 1 + 1 + 1)].toArray }
    refine notin_tup (vs := [Value.int (-2) (tk + 1), Value.int 0 (tk + 1 + 1), Value.int 2 (tk + 1 + 1 + 1)]) (ns := [-2, 0, 2]) ⟨_, S9.get (.head _), rfl, _, rfl⟩ (.cons _ _ (.cons _ _ (.cons _ _ .nil))) ?_
    refine truthy_b ?_
    have e : (([-2, 0, 2] : List Int).any fun y => y == z) = true := by
      rcases hg z hx with rfl | rfl | rfl <;> decide
    rw [e, if_neg (by decide)]
    refine St.end' (S9.pick (.drop .all)) ?_ ⟨rfl, rfl⟩
    exact .inr ⟨_, .head _, rfl, _, rfl⟩
  case fin =>
    intro ys hy D h tk2 F N o1
    have S : Now s h₀ (lenv C.L).locals m _ { s with heap := h, toks := tk2 } := ⟨S.st.of F N (off1_all o1), Mv.refl _⟩
    have ey : ys = [] := by
      rw [show gs.filter (fun _ => false) = [] by simp] at hy
      cases hy
      rfl
    subst ey
    refine List_ ?_
    refine spl0 ?_
    refine nList S (Nat.zero_le _) ?_
    intro D3 s4 S
    refine ne_nil (S.isL (o := LCg.lst []) (by k_mem) ⟨rfl, _, rfl⟩) (S.isL (o := listOf #[] 0) (.head _) LO.mk') (by show callerA.units + 3 + 64 < cLine; decide +kernel) ?_
    refine truthy_b ?_
    rw [if_neg Bool.false_ne_true]
    refine isTrue_or ?_
    refine wpAny_isTrue_Compare1 ?_
    refine wpAny_Compare1 ?_
    refine nInt S ?_
    intro _ s5 S
    refine eL S mgn ?_
    refine in_list_ints (vs := gA.toList) (S.isL (o := listOf gA gn) (by k_mem) LO.mk') h2 ?_
    refine wpAny_Compare1 ?_
    refine eL S mrn ?_
    refine nInt S ?_
    intro _ s6 S
    refine lt_int ?_
    refine wpAny_isNot_plain rfl ?_
    refine truthy_b ?_
    rw [show (!(Value.bool (gs.any fun x => x == 2) == Value.bool (decide (R0 < 5)))) = false by rw [hr]; simp, if_neg Bool.false_ne_true]
    refine isTrue_or_nil ?_
    rw [if_neg Bool.false_ne_true]
    refine wpAny_execs_nil ?_
    obtain ⟨r⟩ := hQ s6 its n tk tv p1 p2 tl ⟨S.st.pick (.drop (.drop (.drop .all))), Mv.refl _⟩ ⟨S.mv.1.trans h5, S.mv.2.1 ▸ h6⟩ h3 h4 h1 h8
    show wpAny (model PR w) (lawA C.L) (execs (f232.b.drop 17) (lenv C.L)) Q E _
    with_reducible exact @r
end
end Mine
end
section
open PySem PySem.W PySem.Calls PyProof.Rows Builtin
set_option maxRecDepth 100000
set_option maxHeartbeats 1000000
namespace Mine
noncomputable def bodyS : List Stmt := forBody (fstSt (f232.b.drop 17))
structure RestS (w : World) (L : Addr) (Q : Flow → Shared → Prop) (E : Value → Shared → Prop) (i : Nat) (s : Shared) : Prop where
  run : wpAny (model PR w) (lawA L) (execs (bodyS.drop i) (lenv L)) Q E s
theorem txt_join (row : List Str) (hn : row.length = 4) : Txt.join (Str.ofString "") (row.map fun r => dot ++ r) = txtOf row := by
  obtain ⟨r0, r1, r2, r3, rfl⟩ : ∃ r0 r1 r2 r3, row = [r0, r1, r2, r3] := by
    rcases row with _ | ⟨a, _ | ⟨b, _ | ⟨c, _ | ⟨d, _ | ⟨e, r⟩⟩⟩⟩⟩ <;> first | exact ⟨_, _, _, _, rfl⟩ | (simp at hn)
  exact join4 _ _ _ _
theorem txt_sum (row : List Str) (hn : row.length = 4) (h1 : ∀ r ∈ row, r.length = 1) : ((row.map fun r => dot ++ r).map (·.length)).sum + (row.map fun r => dot ++ r).length ≤ 1048576 := by
  obtain ⟨r0, r1, r2, r3, rfl⟩ : ∃ r0 r1 r2 r3, row = [r0, r1, r2, r3] := by
    rcases row with _ | ⟨a, _ | ⟨b, _ | ⟨c, _ | ⟨d, _ | ⟨e, r⟩⟩⟩⟩⟩ <;> first | exact ⟨_, _, _, _, rfl⟩ | (simp at hn)
  have d1 : dot.length = 1 := by decide
  have e0 := h1 r0 (.head _)
  have e1 := h1 r1 (.tail _ (.head _))
  have e2 := h1 r2 (.tail _ (.tail _ (.head _)))
  have e3 := h1 r3 (.tail _ (.tail _ (.tail _ (.head _))))
  simp only [List.map_cons, List.map_nil, List.sum_cons, List.sum_nil, Str.length_append, List.length_cons, List.length_nil, d1, e0, e1, e2, e3]
  omega
section
variable {p : Program} {w : World} {lo : List Str} {mean : ExcName → Option Value} {mg mb : Str → Option Value} {E : Value → Shared → Prop} {h₀ : Heap} {L x dx rs rl od I : Addr} {oI : Obj} {m : Str → Option Value} {s₀ s : Shared} {Q : Flow → Shared → Prop} {q : Nat → Obj} {its rsA rA oA p1 p2 : Array Value} {n rn : Nat} {tk tv : Tok} {vk vn vg vl vt : Option Value} {tl : List (Addr × Obj)} {os : OsState} {row : List Str}
theorem step_1 (X : (K w.params).In h₀) (T : Top p lo mean mg mb h₀) (S : Now s h₀ L m ((I, oI) :: ledB w.params L q x dx rs rl od its n 0 tk tv rsA rA rn oA vk vn vg vl vt p1 p2 tl) s) (g : Gd os s) (hp : Pcs tl its.toList (dots row)) (hr : StrsAre rA.toList row) (hn : row.length = 4) (hr1 : ∀ r ∈ row, r.length = 1) (h1 : TriplesOk p1.toList) (h2 : TriplesOk p2.toList)
    (hQ : ∀ m' s' t p1' p2', Now s' h₀ L m' ((I, oI) :: ledB w.params L q x dx rs rl od its n 0 tk tv rsA rA rn oA vk vn vg vl vt p1' p2' tl) s' → Gd os s' → TriplesOk p1'.toList → TriplesOk p2'.toList → m' (Str.ofString "text") = some (.str (txtOf row) t) → (∀ y, y ≠ Str.ofString "text" → m' y = m y) → RestS w L Q E 2 s') : RestS w L Q E 0 s := by
  refine ⟨?_⟩
  show wpAny _ _ (execs (Stmt.Assign [Expr.Name _ _] (Expr.Call _ _ _ _) _ :: Stmt.If _ _ _ _ :: List.drop 2 bodyS) _) _ _ _
  have rz : rA.size = 4 := by rw [← Array.length_toList, strs_len hr, hn]
  refine wpAny_execs_cons ?_
  refine wpAny_Assign_Name ?_
  refine Call_Name1 (ld_str X T S.st (callWith_type1 ?_))
  refine eC (env := lenv L) (q := q 5) S (lk_pile L) (by k_mem) ?_
  refine strPile (own := [(I, oI)]) X T S g hp hn (fun r hr => by rw [hr1 r hr]; decide) h2 ?_
  intro t s1 p2' S g tr2
  refine sL (env := lenv L) S ?_
  intro s2 S
  generalize hM : (fun y => if y = Str.ofString "text" then some (Value.str (txtOf row) t) else m y) = m1 at S
  have mt : m1 (Str.ofString "text") = some (.str (txtOf row) t) := by rw [← hM]; exact if_pos rfl
  have mo : ∀ y, y ≠ Str.ofString "text" → m1 y = m y := fun y hy => by rw [← hM]; exact if_neg hy
  show wpAny _ _ (execs (Stmt.If _ _ _ _ :: List.drop 2 bodyS) _) _ _ _
  refine wpAny_execs_cons ?_
  refine wpAny_If ?_
  refine isTrue_or ?_
  refine wpAny_isTrue_Compare1 ?_
  refine eL S mt ?_
  refine MethodCall_ ?_ rfl
  refine wpAny_Constant_str ?_
  refine GM.join ?_
  refine callWith_method1 ?_
  refine spl ?_
  refine LCg.ListComp_U (F₀ := S.st.F) (cl := []) (by with_unfolding_all rfl) (by decide) rfl (by decide) rfl ?_
  refine eC (env := lenv L) (q := q 3) (s₀ := s1) ⟨S.st, S.mv⟩ (lk_row L) (by k_mem) ?_
  refine LCg.CompSrc.ledger rfl S.st.F S.st.N (by k_mem) (by rw [sizeLine_eq]; omega) fun g' => ?_
  refine comp_inv (s₀ := s1) (s := { s2 with heap := g', toks := s2.toks + 1 }) (fun i ys news => news = (I, oI) :: ledB w.params L q x dx rs rl od its n 0 tk tv rsA rA rn oA vk vn vg vl vt p1 p2' tl ∧ StrsAre ys ((row.take i).map fun r => dot ++ r)) S.mv ?turn ?fin _ ⟨rfl, .nil⟩ ?src S.st.D
  case src => exact .inr ⟨_, by k_mem, rfl, _, rfl⟩
  case turn =>
    rintro i v I' oI' C' oC D m₂ ys' news s8 E' hi' hv ⟨rfl, hy⟩ hS S hC hx
    obtain ⟨r, t, e1, rfl⟩ := StrsAre.at hr i v (by simpa using hv)
    refine wpAny_BinOp ?_
    refine wpAny_Constant_str ?_
    refine load_local (env := compEnvC _ _ _ _) rfl rfl (hC.ns (S.st.get (.tail _ (.head _)))) hx (by decide) ?_
    refine add_q (A' := 1) (B' := 1) (by decide) (Nat.le_of_eq (hr1 r (List.mem_of_getElem? e1))) (by decide) ?_
    intro t9 k9
    refine ⟨_, ⟨S.st, S.mv⟩, .inr ⟨_, by k_mem, rfl, _, rfl⟩, rfl, ?_⟩
    rw [List.take_add_one, e1, List.map_append]
    exact strs_app hy (.cons _ _ .nil)
  case fin =>
    rintro ys' news dn ⟨rfl, hy⟩
    intro D h tk3 F N off
    have S : Now s1 h₀ (lenv L).locals m1 _ { s2 with heap := h, toks := tk3 } := ⟨⟨F, N, List.pairwise_cons.mpr ⟨fun p hp => Ne.symm (off1_all off p hp), dn⟩⟩, S.mv⟩
    rw [show row.take rA.size = row by rw [rz, ← hn, List.take_length]] at hy
    refine spl0 ?_
    refine join_listW (items := ys'.toArray) ⟨_, S.st.get (.head _), rfl, _, rfl⟩ hy (by decide) ?w ?_
    case w => exact txt_sum row hn hr1
    intro t7 k7
    rw [txt_join row hn]
    refine ne_str ?_
    refine truthy_b ?_
    rw [show (txtOf row != txtOf row) = false by simp, if_neg Bool.false_ne_true]
    refine isTrue_or ?_
    refine wpAny_isTrue_Compare1 ?_
    have S : Now s1 h₀ (lenv L).locals m1 _ { s2 with heap := h, toks := k7 } := ⟨S.st, S.mv⟩
    refine Call_Name1 (ld_len X T S.st (PySem.callWith_builtin1 ?_))
    refine eC (q := q 5) S (lk_pile L) (by k_mem) ?_
    refine lenPile (own := [(D, LCg.lst ys'), (I, oI)]) X T S g (row := row) hp hn hr1 ⟨by decide, by decide⟩ h1 ?k
    intro t s5 p1' S g5 tr
    refine nInt (env := lenv L) S ?_
    intro _ s6 S
    refine ne_int ?_
    refine truthy_b ?_
    rw [if_neg (by decide)]
    refine isTrue_or ?_
    refine wpAny_isTrue_Compare1 ?_
    refine MethodCall_ ?_ rfl
    refine eC (q := q 5) S (lk_pile L) (by k_mem) ?_
    refine pile_gm (f := .ref 122) (T := "function") (X.keeps S.st.F.keep) ⟨S.st.get (o := pileO dx its n) (by k_mem), rfl, rfl, S.st.get (o := dictOf (sizeEs w.params 0 tk tv) 1) (by k_mem)⟩ (by kernel_rfl) (by kernel_rfl) (by decide) rfl ?_
    refine callWith_K0 (K := K w.params) (X.keeps S.st.F.keep) (by kernel_rfl) ?_
    refine count_led (x := x) (dx := dx) (its := its) (n := n) S.st.F X S.st.N T (by k_mem) (od := dictOf (sizeEs w.params 0 tk tv) 1) (by k_mem) (by show callerA.depth + 1 + 4 < recursionLimit; decide +kernel) ?_
    intro u h9 tk9 F9 N9
    have S : Now s5 h₀ (lenv L).locals m1 _ { s6 with heap := h9, toks := tk9 } := ⟨S.st.of0 F9 N9, S.mv⟩
    refine nInt S ?_
    intro _ s10 S
    refine ne_int ?_
    refine truthy_b ?_
    have iz : its.size = 4 := by
      have := hp.len
      rw [Array.length_toList, List.length_map, hn] at this
      exact this
    rw [iz, if_neg (by decide)]
    refine isTrue_or_nil ?_
    rw [if_neg Bool.false_ne_true]
    refine wpAny_execs_nil ?_
    obtain ⟨r⟩ := hQ m1 s10 _ p1' p2' ⟨S.st.pick (.drop .all), Mv.refl _⟩ (g5.mv S.mv) tr tr2 mt mo
    show wpAny (model PR w) (lawA L) (execs (bodyS.drop 2) (lenv L)) Q E _
    with_reducible exact @r
end
end Mine
end
section
open PySem PySem.W PySem.Calls PyProof.Rows Builtin
set_option maxRecDepth 100000
set_option maxHeartbeats 1000000
namespace Mine
noncomputable def toks12 : List Int := [7, 8, 9, 10, 14, 15, 16, 17, 18, 19, 20, 21]
/-- a sign's number -/
noncomputable def tokF (s : Str) : Int := toks12.getD (ordL.idxOf s) 0
noncomputable def tokD (P : Params) : List (Str × KTD.Dat) := match (o170 P).data with
  | .dict es _ => es.toList.filterMap fun e => match e.key, e.val with
    | .str x _, .int n _ => some (x, .flat (.int n))
    | _, _ => none
  | _ => []
theorem tok_text {w : World} {h : Heap} (X : (K w.params).In h) : KTD.TextTab h 170 (tokD w.params) := kt_text_in X (by kernel_rfl)
theorem tok_at (P : Params) : ∀ x ∈ ordL, KTD.datumAt x (tokD P) = some (.flat (.int (tokF x))) := by
  intro x hx
  simp only [ordL, List.mem_cons, List.not_mem_nil, or_false] at hx
  rcases hx with rfl | rfl | rfl | rfl | rfl | rfl | rfl | rfl | rfl | rfl | rfl | rfl <;> kernel_rfl
section
variable {prog : Program} {w : World} {A : Around} {E : Value → Shared → Prop} {h₀ : Heap} {s : Shared}
theorem tok_get {x : Str} {t t0 : Tok} {Q : Value → Shared → Prop} (X : (K w.params).In h₀) (hk : ∀ b o, h₀.get? b = some o → s.heap.get? b = some o) (hx : x ∈ ordL) (h : ∀ u, Q (.int (tokF x) u) { s with toks := s.toks + 1 }) : wpAny (model prog w) A (call (.builtin "dict.get") [.ref 170, .str x t, .int 0 t0]) Q E s := by
  have T : KTD.Here h₀ s.heap 170 (tokD w.params) := ⟨tok_text X, hk⟩
  refine call_meetsIn PySem.F.slot_dict_get T.typeIs PySem.F.entry_dict_get (PySem.F.args_dict_get_3 _ _ _) (KTD.meets_get2 (h₀ := h₀) (D := tokD w.params)) ⟨T, fun d v ha hv => ?_, fun hn => ?_⟩
  · rw [tok_at w.params x hx] at ha
    cases ha
    obtain ⟨u, rfl⟩ := PyProof.V.Flat.int_inv hv
    exact h u
  · rw [tok_at w.params x hx] at hn
    cases hn
theorem tok_gm {pl : Sem Bool} {Q : Value × List Value → Shared → Prop} (X : (K w.params).In h₀) (hk : ∀ b o, h₀.get? b = some o → s.heap.get? b = some o) (h : Q (.builtin "dict.get", [.ref 170]) s) : wpAny (model prog w) A (getMethod (.ref 170) (Str.ofString "get") pl) Q E s :=
  KTD.getMethod_text (h₀ := h₀) (D := tokD w.params) ⟨tok_text X, hk⟩ h
end
end Mine
end
section
open PySem PySem.W PySem.Calls PyProof.Rows Builtin
set_option maxRecDepth 100000
set_option maxHeartbeats 1000000
namespace Mine
section
variable {prog : Program} {w : World} {A : Around} {E : Value → Shared → Prop} {h₀ : Heap} {L : Addr} {s₀ : Shared} {env : Env} {m : Str → Option Value} {news : List (Addr × Obj)} {pos : Pos}
/-- a display of ints, whatever the frame that reads it -/
theorem spl_ints' {es : List PySem.Expr} {xs : List Int} (c : IConsts es xs) : ∀ {Q : List Value → Shared → Prop} {s : Shared}, Now s₀ h₀ L m news s → (∀ vs s', IntsAre vs xs → Now s₀ h₀ L m news s' → Q vs s') → wpAny (model prog w) A (spliced (backTo pos (starEach es env))) Q E s := by
  induction c with
  | nil => intro Q s S h; exact spl0 (h [] s .nil S)
  | cons c ih => intro Q s S h; exact spl (wpAny_Constant_int (ih ⟨S.st, S.mv⟩ fun vs s2 hv S2 => h _ _ (.cons _ _ hv) S2))
theorem dispI' {es : List PySem.Expr} {xs : List Int} {Q : Value → Shared → Prop} {s : Shared} (c : IConsts es xs) (hz : xs.length ≤ 1000) (S : Now s₀ h₀ L m news s) (h : ∀ l vs s', IntsAre vs xs → Now s₀ h₀ L m ((l, listOf vs.toArray 0) :: news) s' → Q (.ref l) s') : wpAny (model prog w) A (eval (.List es pos) env) Q E s :=
  List_ (spl_ints' c S fun vs s' hv S' => wpAny_newObj_type (h _ vs _ hv ⟨S'.st.push _, S'.mv⟩) (by show vs.toArray.size ≤ _; rw [List.size_toArray, IntsAre.length hv, sizeLine_eq]; omega))
end
section
variable {p : Program} {w : World} {lo : List Str} {mean : ExcName → Option Value} {mg mb : Str → Option Value} {E : Value → Shared → Prop} {h₀ : Heap} {L x dx rs rl od I : Addr} {oI : Obj} {m : Str → Option Value} {s₀ s : Shared} {Q : Flow → Shared → Prop} {q : Nat → Obj} {its rsA rA oA p1 p2 : Array Value} {n rn : Nat} {tk tv t u1 : Tok} {vk vn vg vl vt : Option Value} {tl : List (Addr × Obj)} {os : OsState} {row : List Str} {tp : Str}
theorem txt_len (hn : row.length = 4) (h1 : ∀ r ∈ row, r.length = 1) : (txtOf row).length = 8 := by
  obtain ⟨r0, r1, r2, r3, rfl⟩ : ∃ r0 r1 r2 r3, row = [r0, r1, r2, r3] := by
    rcases row with _ | ⟨a, _ | ⟨b, _ | ⟨c, _ | ⟨d, _ | ⟨e, r⟩⟩⟩⟩⟩ <;> first | exact ⟨_, _, _, _, rfl⟩ | (simp at hn)
  have d1 : dot.length = 1 := by decide
  have e0 := h1 r0 (.head _)
  have e1 := h1 r1 (.tail _ (.head _))
  have e2 := h1 r2 (.tail _ (.tail _ (.head _)))
  have e3 := h1 r3 (.tail _ (.tail _ (.tail _ (.head _))))
  simp only [txtOf, Str.length_append, d1, e0, e1, e2, e3]
theorem step_2 (X : (K w.params).In h₀) (T : Top p lo mean mg mb h₀) (S : Now s h₀ L m ((I, oI) :: ledB w.params L q x dx rs rl od its n 0 tk tv rsA rA rn oA vk vn vg vl vt p1 p2 tl) s) (hr : StrsAre rA.toList row) (hn : row.length = 4) (hr1 : ∀ r ∈ row, r.length = 1) (ho : StrsAre oA.toList ordL) (hro : ∀ r ∈ row, r ∈ ordL) (hread : readF (txtOf row) tp = row) (htp : tp.length ≤ 100)
    (mt : m (Str.ofString "text") = some (.str (txtOf row) t)) (mtp : m (Str.ofString "top") = some (.str tp u1))
    (hQ : ∀ s' nu nA nn, Now s h₀ L m ((I, oI) :: (nu, listOf nA nn) :: ledB w.params L q x dx rs rl od its n 0 tk tv rsA rA rn oA vk (some (.ref nu)) vg vl vt p1 p2 tl) s' → IntsAre nA.toList (row.map tokF) → RestS w L Q E 4 s') : RestS w L Q E 2 s := by
  refine ⟨?_⟩
  show wpAny _ _ (execs (Stmt.Assign [Expr.Name _ _] (Expr.ListComp _ _ _ _) _ :: Stmt.If _ _ _ _ :: List.drop 4 bodyS) _) _ _ _
  have rz : rA.size = 4 := by rw [← Array.length_toList, strs_len hr, hn]
  have tz := txt_len hn hr1
  refine wpAny_execs_cons ?_
  refine wpAny_Assign_Name ?_
  refine LCg.ListComp_U (F₀ := S.st.F) (cl := []) (by with_unfolding_all rfl) (by decide) rfl (by decide) rfl ?_
  refine Call_Name (trees := _) rfl ?_
  refine ldK (v := .ref 205) (by kernel_rfl) rfl (by decide) X T S.st ?_
  refine callWith_K (K := K w.params) (h₀ := h₀) X (by kernel_rfl) ?_
  refine spl ?_
  refine eL (env := lenv L) S mt ?_
  refine spl ?_
  refine eL (env := lenv L) S mtp ?_
  refine spl0 ⟨X.keeps S.st.F.keep, ?_⟩
  refine read_ok (dp := callerA.depth + 1) (un := callerA.units + 3) (gd := some []) (cn := Str.ofString "law") (cs := f232.sc) (a := 232) (ccd := .ref 231) (cl := cellsFrom (L + 1) f232.sc.names []) (outer := []) (A₀ := callerA) (base := h₀) (below_caller h₀) S.st.F X S.st.N T rfl (by omega) (by omega) (by decide +kernel) (by decide +kernel) ?_
  intro r arr n5 h' tk' hsa F' N' lt
  rw [hread] at hsa
  have S : Now s h₀ L m _ { s with heap := h', toks := tk' } := ⟨S.st.of F' N' fun p hp => Nat.ne_of_lt (lt p hp), Mv.refl _⟩
  have az : arr.size = 4 := by rw [← Array.length_toList, strs_len hsa, hn]
  refine LCg.CompSrc.ledger rfl S.st.F S.st.N (.head _) (by rw [sizeLine_eq]; omega) fun g' => ?_
  refine comp_inv (s₀ := s) (s := { s with heap := g', toks := tk' }) (fun i ys news => news = (r, listOf arr n5) :: (I, oI) :: ledB w.params L q x dx rs rl od its n 0 tk tv rsA rA rn oA vk vn vg vl vt p1 p2 tl ∧ IntsAre ys ((row.take i).map tokF)) (Mv.refl _) ?turn ?fin _ ⟨rfl, .nil⟩ ?src S.st.D
  case src => exact .inr ⟨_, .head _, rfl, _, rfl⟩
  case turn =>
    rintro i v I' oI' C' oC D m₂ ys' news s8 E' hi' hv ⟨rfl, hy⟩ hS S hC hx
    obtain ⟨y, t, e1, rfl⟩ := StrsAre.at hsa i v (by simpa using hv)
    refine MethodCall_ ?_ rfl
    refine load_global (env := compEnvC _ _ _ _) (v := .ref 170) rfl rfl (T.g.keeps S.st.F.keep) (mg_of X T.g (by kernel_rfl)) (by decide) ?_
    refine tok_gm X S.st.F.keep ?_
    refine callWith_method1 ?_
    refine spl ?_
    refine load_local (env := compEnvC _ _ _ _) rfl rfl (hC.ns (S.st.get (.tail _ (.head _)))) hx (by decide) ?_
    refine spl ?_
    refine wpAny_Constant_int ?_
    refine spl0 ?_
    refine tok_get X S.st.F.keep (hro y (List.mem_of_getElem? e1)) ?_
    intro u
    refine ⟨_, ⟨S.st, S.mv⟩, .inr ⟨_, .head _, rfl, _, rfl⟩, rfl, ?_⟩
    rw [List.take_add_one, e1, List.map_append]
    exact IntsAre.append hy (.cons _ _ .nil)
  case fin =>
    rintro nA news dn ⟨rfl, hy⟩
    intro nu h tk3 F N off
    have S : Now s h₀ (lenv L).locals m _ { s with heap := h, toks := tk3 } := ⟨⟨F, N, List.pairwise_cons.mpr ⟨fun p hp => Ne.symm (off1_all off p hp), dn⟩⟩, Mv.refl _⟩
    rw [show row.take arr.size = row by rw [az, ← hn, List.take_length]] at hy
    refine sC (q := q 6) S (lk_numbers L) (by repeat (first | exact At.head | apply At.tail)) ?_
    intro s9 S
    have S := S.pick (news' := (I, oI) :: (nu, LCg.lst nA) :: ledB w.params L q x dx rs rl od its n 0 tk tv rsA rA rn oA vk (some (.ref nu)) vg vl vt p1 p2 tl) (.cons (.there (.there .here)) (.cons .here (.drop .all)))
    show wpAny _ _ (execs (Stmt.If _ _ _ _ :: List.drop 4 bodyS) _) _ _ _
    refine wpAny_execs_cons ?_
    refine wpAny_If ?_
    refine wpAny_isTrue_Compare1 ?_
    refine eC (env := lenv L) (q := q 6) S (lk_numbers L) (by k_mem) ?_
    refine LCg.ListComp_U (F₀ := S.st.F) (cl := [(Str.ofString "order", L + 1 + 1)]) (by with_unfolding_all rfl) (by decide) rfl (by decide) rfl ?_
    refine eC (env := lenv L) (q := q 3) S (lk_row L) (by k_mem) ?_
    refine LCg.CompSrc.ledger rfl S.st.F S.st.N (by k_mem) (by rw [sizeLine_eq]; omega) fun g' => ?_
    refine comp_inv (s₀ := s) (s := { s9 with heap := g' }) (fun i ys news => news = (I, oI) :: (nu, LCg.lst nA) :: ledB w.params L q x dx rs rl od its n 0 tk tv rsA rA rn oA vk (some (.ref nu)) vg vl vt p1 p2 tl ∧ IntsAre ys ((row.take i).map tokF)) S.mv ?turn2 ?fin2 _ ⟨rfl, .nil⟩ ?src2 S.st.D
    case src2 => exact .inr ⟨_, by k_mem, rfl, _, rfl⟩
    case turn2 =>
      rintro i v I' oI' C' oC D m₂ ys' news s8 E' hi' hv ⟨rfl, hy2⟩ hS S hC hx
      obtain ⟨y, t, e1, rfl⟩ := StrsAre.at hr i v (by simpa using hv)
      have hyo := hro y (List.mem_of_getElem? e1)
      refine sub_tmp ?_
      refine' dispI' ?c ?z ?S ?h
      case c => exact (show IConsts _ toks12 from by repeat constructor)
      case z => exact Nat.le_of_ble_eq_true rfl
      case S => exact S
      intro l vs s10 hvs S
      refine MethodCall_ ?_ rfl
      refine wpAny_Name (wpAny_loadName_cell (env := compEnvC _ _ _ _) rfl rfl (c := L + 1 + 1) (v := .ref od) rfl ⟨cW (q 2) (some (.ref od)), S.st.get (by k_mem), rfl⟩ ?_) (by decide)
      refine gmIdx (env := lenv L) (l := od) (its := oA) (n := 0) S (by k_mem) ?_
      refine callWith_method1 ?_
      refine spl ?_
      refine load_local (env := compEnvC _ _ _ _) rfl rfl (hC.ns (S.st.get (x := C') (o := oC) (by k_mem))) hx (by decide) ?_
      refine spl0 ?_
      refine nIdx (env := lenv L) (l := od) (vs := oA.toList) (o := listOf oA 0) S (by k_mem) LO.mk' ho (by decide) hyo ?_
      intro t2 s11 S
      have hidx : ordL.idxOf y < 12 := List.idxOf_lt_length_iff.mpr hyo
      have hvl : vs.length = 12 := IntsAre.length hvs
      obtain ⟨nz, uz, ez, ez2⟩ := IntsAre.at hvs (ordL.idxOf y) (vs[ordL.idxOf y]'(by omega)) (List.getElem?_eq_getElem (by omega))
      have etok : tokF y = nz := by
        unfold tokF
        rw [List.getD_eq_getElem?_getD, ez2]; rfl
      refine ⟨l, vs.toArray, _, _, .int nz uz, rfl, rfl, S.isL (o := listOf vs.toArray 0) (.head _) LO.mk', by omega, by omega, ?_, ?_⟩
      · rw [show ((ordL.idxOf y : Nat) : Int).toNat = ordL.idxOf y from rfl, List.getElem?_toArray, List.getElem?_eq_getElem (by omega), ez]
      refine ⟨_, S.pick (.drop .all), .inr ⟨_, by k_mem, rfl, _, rfl⟩, rfl, ?_⟩
      rw [List.take_add_one, e1, List.map_append]
      exact IntsAre.append hy2 (by show IntsAre [Value.int nz uz] [tokF y]; rw [etok]; exact .cons _ _ .nil)
    case fin2 =>
      rintro ys2 news dn ⟨rfl, hy2⟩
      intro D h tk3 F N off
      have S : Now s h₀ (lenv L).locals m _ { s9 with heap := h, toks := tk3 } := ⟨⟨F, N, List.pairwise_cons.mpr ⟨fun p hp => Ne.symm (off1_all off p hp), dn⟩⟩, S.mv⟩
      rw [show row.take rA.size = row by rw [rz, ← hn, List.take_length]] at hy2
      refine ke_ne_ints (xs := nA) (ys := ys2) (S.isL (o := LCg.lst nA) (by k_mem) ⟨rfl, _, rfl⟩) (S.isL (o := LCg.lst ys2) (by k_mem) ⟨rfl, _, rfl⟩) hy hy2 (by show callerA.units + 3 + 64 < cLine; decide +kernel) ?_
      refine truthy_b ?_
      rw [show (!decide (row.map tokF = row.map tokF)) = false by simp, if_neg Bool.false_ne_true]
      refine wpAny_execs_nil ?_
      obtain ⟨r⟩ := hQ { s9 with heap := h, toks := tk3 } nu nA.toArray nA.length (S.pick (.drop .all)) hy
      show wpAny (model PR w) (lawA L) (execs (bodyS.drop 4) (lenv L)) Q E _
      with_reducible exact @r
end
end Mine
end
section
open PySem PySem.W PySem.Calls PyProof.Rows Builtin
set_option maxRecDepth 100000
set_option maxHeartbeats 1000000
namespace Mine
section
variable {prog : Program} {w : World} {A : Around} {E : Value → Shared → Prop} {s : Shared} {env : Env}
inductive SubAny (prog : Program) (w : World) (A : Around) (Q E : Value → Shared → Prop) (o i : Value) (s₂ : Shared) : Prop
  | mk (l : Addr) (items : Array Value) (e : o = .ref l) (hl : s₂.heap.IsList l items) (hq : wpAny (model prog w) A (getItem (.ref l) i) Q E s₂) : SubAny prog w A Q E o i s₂
theorem sub_gen {value slice : PySem.Expr} {pos : Pos} {Q : Value → Shared → Prop}
    (h : wpAny (model prog w) A (eval value env) (fun o s₁ => wpAny (model prog w) A (eval slice env) (fun i s₂ => SubAny prog w A Q E o i s₂) E s₁) E s)
    (hs : ∀ o i, subscripted slice false o i = operate [o, i] (getItem o i) := by intro _ _; with_unfolding_all rfl) (ht : ∀ o r, letTemporaryGo value o r = pure () := by intro _ _; with_unfolding_all rfl) :
    wpAny (model prog w) A (eval (.Subscript value slice pos) env) Q E s := by
  refine Subscript_ (wpAny_mono h (fun o s₁ h₁ => wpAny_mono h₁ (fun i s₂ h₂ => ?_) fun _ _ e => e) fun _ _ e => e)
  obtain ⟨l, items, rfl, hl, hq⟩ := h₂
  exact subscriptTail_builtin hl.typeIs list_getitem_lookup hq (hs _ _) (fun r => ht _ r)
end
/-- the rank of what stands before a rank in the ring -/
noncomputable def prevF (rise ring : List Str) (k : Nat) : Str := ring.getD ((ring.idxOf (rise.getD ((k + 1) % 5) (Str.ofString "")) + 4) % 5) (Str.ofString "")
noncomputable def ownF (rise ring : List Str) (k : Nat) : Int := ((rise.idxOf (prevF rise ring k) : Nat) : Int)
theorem strs_get {vs : List Value} {xs : List Str} (h : StrsAre vs xs) {i : Nat} (hi : i < xs.length) : ∃ t, vs.toArray[i]? = some (.str (xs.getD i (Str.ofString "")) t) := by
  have hl := strs_len h
  obtain ⟨x, t, e1, e2⟩ := StrsAre.at h i (vs[i]'(by omega)) (List.getElem?_eq_getElem (by omega))
  refine ⟨t, ?_⟩
  rw [List.getElem?_toArray, List.getElem?_eq_getElem (by omega), e2, List.getD_eq_getElem?_getD, e1]
  rfl
section
variable {p : Program} {w : World} {lo : List Str} {mean : ExcName → Option Value} {mg mb : Str → Option Value} {E : Value → Shared → Prop} {h₀ : Heap} {L x dx rs rl od I nu : Addr} {oI : Obj} {m : Str → Option Value} {s₀ s : Shared} {Q : Flow → Shared → Prop} {q : Nat → Obj} {its rA oA p1 p2 nA : Array Value} {n rn nn : Nat} {tk tv t : Tok} {vk vn vg vl vt : Option Value} {tl : List (Addr × Obj)} {os : OsState} {row : List Str} {mk tail r0 r1 r2 r3 r4 : Str} {u2 u3 w0 w1 w2 w3 w4 : Tok} {ls : List Int}
theorem step_3 (X : (K w.params).In h₀) (T : Top p lo mean mg mb h₀) (S : Now s₀ h₀ L m ((I, oI) :: (nu, listOf nA nn) :: ledB w.params L q x dx rs rl od its n 0 tk tv (rise5 r0 r1 r2 r3 r4 w0 w1 w2 w3 w4) rA rn oA vk vn vg vl vt p1 p2 tl) s) (hr : StrsAre rA.toList row) (hn : row.length = 4) (ok : LeadOk (txtOf row) mk tail r0 r1 r2 r3 r4 ls)
    (mt : m (Str.ofString "text") = some (.str (txtOf row) t)) (mm : m (Str.ofString "mark") = some (.str mk u2)) (ml : m (Str.ofString "tail") = some (.str tail u3))
    (hin : ∀ k < 5, [r0, r1, r2, r3, r4].getD ((k + 1) % 5) (Str.ofString "") ∈ Str.ofString "" :: row) (hpr : ∀ k < 5, prevF [r0, r1, r2, r3, r4] (Str.ofString "" :: row) k ∈ [r0, r1, r2, r3, r4])
    (hQ : ∀ m' s' le lA ow wA rg gA, Now s₀ h₀ L m' ((I, oI) :: (le, LCg.lst lA) :: (ow, LCg.lst wA) :: (rg, listOf gA 0) :: (nu, listOf nA nn) :: ledB w.params L q x dx rs rl od its n 0 tk tv (rise5 r0 r1 r2 r3 r4 w0 w1 w2 w3 w4) rA rn oA vk vn (some (.ref rg)) vl vt p1 p2 tl) s' → IntsAre lA ls → IntsAre wA ((List.range 5).map (ownF [r0, r1, r2, r3, r4] (Str.ofString "" :: row))) → m' (Str.ofString "leads") = some (.ref le) → m' (Str.ofString "own") = some (.ref ow) → (∀ y, y ≠ Str.ofString "leads" → y ≠ Str.ofString "own" → m' y = m y) → RestS w L Q E 7 s') : RestS w L Q E 4 s := by
  refine ⟨?_⟩
  show wpAny _ _ (execs (Stmt.Assign [Expr.Name _ _] (Expr.Call _ _ _ _) _ :: Stmt.Assign [Expr.Name _ _] (Expr.BinOp _ _ _ _) _ :: Stmt.Assign [Expr.Name _ _] (Expr.ListComp _ _ _ _) _ :: List.drop 7 bodyS) _) _ _ _
  refine wpAny_execs_cons ?_
  refine wpAny_Assign_Name ?_
  refine Call_Name (trees := _) rfl ?_
  refine ldK (v := .ref 191) (by kernel_rfl) rfl (by decide) X T S.st ?_
  refine callWith_K (K := K w.params) (h₀ := h₀) X (by kernel_rfl) ?_
  refine spl ?_
  refine eL (env := lenv L) S mt ?_
  refine spl ?_
  refine eC (env := lenv L) (q := q 4) S (lk_rising L) (by k_mem) ?_
  refine spl ?_
  refine eL (env := lenv L) S mm ?_
  refine spl ?_
  refine eL (env := lenv L) S ml ?_
  refine spl0 ⟨X.keeps S.st.F.keep, ?_⟩
  refine leadsCall X T S (by k_mem) ok ?_
  intro le lA s2 hi S
  refine sL (env := lenv L) S ?_
  intro s3 S
  generalize hM : (fun y => if y = Str.ofString "leads" then some (Value.ref le) else m y) = m1 at S
  have m1l : m1 (Str.ofString "leads") = some (.ref le) := by rw [← hM]; exact if_pos rfl
  have m1o : ∀ y, y ≠ Str.ofString "leads" → m1 y = m y := fun y hy => by rw [← hM]; exact if_neg hy
  clear hM
  show wpAny _ _ (execs (Stmt.Assign [Expr.Name _ _] (Expr.BinOp _ _ _ _) _ :: _) _) _ _ _
  refine wpAny_execs_cons ?_
  refine wpAny_Assign_Name ?_
  refine wpAny_BinOp ?_
  refine' dispS ?c1 ?z1 ?S1 ?h1
  case c1 => exact (show SConsts _ [Str.ofString ""] from by repeat constructor)
  case z1 => exact Nat.le_of_ble_eq_true rfl
  case S1 => exact S
  intro l1 v1 s4 hv1 S
  refine eC (env := lenv L) (q := q 3) S (lk_row L) (by k_mem) ?_
  have rz : rA.size = 4 := by rw [← Array.length_toList, strs_len hr, hn]
  have v1z : v1.length = 1 := strs_len hv1
  refine nCatL (l := l1) (r := rl) (n := 0) (n2 := rn) (its := v1.toArray) (its2 := rA) S (by k_mem) (by k_mem) (by rw [List.size_toArray]; omega) ?_
  intro rg s5 S
  have hring : StrsAre (v1.toArray.toList ++ rA.toList) (Str.ofString "" :: row) := strs_app hv1 hr
  generalize v1.toArray.toList ++ rA.toList = gL at S hring
  refine sC (q := q 7) S (lk_ring L) (by repeat (first | exact At.head | apply At.tail)) ?_
  intro s6 S
  have S := S.pick (news' := (I, oI) :: (le, LCg.lst lA) :: (rg, listOf gL.toArray 0) :: (nu, listOf nA nn) :: ledB w.params L q x dx rs rl od its n 0 tk tv (rise5 r0 r1 r2 r3 r4 w0 w1 w2 w3 w4) rA rn oA vk vn (some (.ref rg)) vl vt p1 p2 tl) (.cons (.there (.there (.there .here))) (.cons (.there (.there .here)) (.cons .here (.drop .all))))
  show wpAny _ _ (execs (Stmt.Assign [Expr.Name _ _] (Expr.ListComp _ _ _ _) _ :: List.drop 7 bodyS) _) _ _ _
  refine wpAny_execs_cons ?_
  refine LCg.Assign_ListComp_U (cl := [(Str.ofString "rising", L + 1 + 1 + 1 + 1), (Str.ofString "ring", L + 1 + 1 + 1 + 1 + 1 + 1 + 1)]) S.st.F rfl (by with_unfolding_all rfl) (by with_unfolding_all rfl) (by decide) rfl (by decide) rfl rfl rfl ?_
  refine Call_Name1 (ld_range X T S.st (callWith_type1 ?_))
  refine nInt (env := lenv L) S ?_
  intro _ s7 S
  refine nRange1 (env := lenv L) S ?_
  intro r t1 t2 t3 s8 S hrg
  refine LCg.CompSrc.range (n := 5) rfl S.st.F S.st.N hrg (small_one (by decide) (by decide) (by decide) (by decide)) ((rangeSize_nat _ _).trans rfl) (by rw [sizeLine_eq]; omega) fun g' => ?_
  refine comp_inv (s₀ := s₀) (s := { s8 with heap := g' }) (fun i ys news => news = (I, oI) :: (le, LCg.lst lA) :: (rg, listOf gL.toArray 0) :: (nu, listOf nA nn) :: ledB w.params L q x dx rs rl od its n 0 tk tv (rise5 r0 r1 r2 r3 r4 w0 w1 w2 w3 w4) rA rn oA vk vn (some (.ref rg)) vl vt p1 p2 tl ∧ IntsAre ys ((List.range i).map (ownF [r0, r1, r2, r3, r4] (Str.ofString "" :: row)))) S.mv ?turn ?fin _ ⟨rfl, .nil⟩ trivial S.st.D
  case turn =>
    rintro i v I' oI' C' oC D m₂ ys' news s9 E' hi' ⟨tv', rfl⟩ ⟨rfl, hy⟩ hS S hC hx
    refine MethodCall_ ?_ rfl
    refine wpAny_Name (wpAny_loadName_cell (env := compEnvC _ _ _ _) rfl rfl (c := L + 1 + 1 + 1 + 1) (v := .ref rs) rfl ⟨cW (q 4) (some (.ref rs)), S.st.get (by k_mem), rfl⟩ ?_) (by decide)
    refine gmIdx (env := lenv L) (l := rs) (its := rise5 r0 r1 r2 r3 r4 w0 w1 w2 w3 w4) S (by k_mem) ?_
    refine callWith_method1 ?_
    refine spl ?_
    refine sub_gen ?_
    refine wpAny_Name (wpAny_loadName_cell (env := compEnvC _ _ _ _) rfl rfl (c := L + 1 + 1 + 1 + 1 + 1 + 1 + 1) (v := .ref rg) rfl ⟨cW (q 7) (some (.ref rg)), S.st.get (by k_mem), rfl⟩ ?_) (by decide)
    refine wpAny_BinOp ?_
    refine MethodCall_ ?_ rfl
    refine wpAny_Name (wpAny_loadName_cell (env := compEnvC _ _ _ _) rfl rfl (c := L + 1 + 1 + 1 + 1 + 1 + 1 + 1) (v := .ref rg) rfl ⟨cW (q 7) (some (.ref rg)), S.st.get (by k_mem), rfl⟩ ?_) (by decide)
    refine gmIdx (env := lenv L) (l := rg) (its := gL.toArray) (n := 0) S (by k_mem) ?_
    refine callWith_method1 ?_
    refine spl ?_
    refine sub_gen ?_
    refine wpAny_Name (wpAny_loadName_cell (env := compEnvC _ _ _ _) rfl rfl (c := L + 1 + 1 + 1 + 1) (v := .ref rs) rfl ⟨cW (q 4) (some (.ref rs)), S.st.get (by k_mem), rfl⟩ ?_) (by decide)
    refine wpAny_BinOp ?_
    refine wpAny_BinOp ?_
    refine load_local (env := compEnvC _ _ _ _) rfl rfl (hC.ns (S.st.get (.tail _ (.head _)))) hx (by decide) ?_
    refine wpAny_Constant_int ?_
    refine wpAny_add_int ?_
    refine wpAny_Constant_int ?_
    refine mod_int' (by decide) ?_
    rw [show ((0 : Int) + (i : Int) + 1).fmod 5 = (((i + 1) % 5 : Nat) : Int) by rw [show (0 : Int) + (i : Int) + 1 = ((i + 1 : Nat) : Int) by omega, Int.fmod_eq_emod_of_nonneg _ (by decide)]; omega]
    have hR : StrsAre (rise5 r0 r1 r2 r3 r4 w0 w1 w2 w3 w4).toList [r0, r1, r2, r3, r4] := .cons _ _ (.cons _ _ (.cons _ _ (.cons _ _ (.cons _ _ .nil))))
    obtain ⟨ta, ea⟩ := strs_get hR (i := (i + 1) % 5) (Nat.mod_lt _ (by decide))
    refine ⟨rs, rise5 r0 r1 r2 r3 r4 w0 w1 w2 w3 w4, rfl, S.st.isL (o := listOf (rise5 r0 r1 r2 r3 r4 w0 w1 w2 w3 w4) 0) (by k_mem) LO.mk', ?_⟩
    refine wpAny_getItem_list (items := rise5 r0 r1 r2 r3 r4 w0 w1 w2 w3 w4) (S.st.isL (o := listOf (rise5 r0 r1 r2 r3 r4 w0 w1 w2 w3 w4) 0) (by k_mem) LO.mk') (Int.natCast_nonneg _) (by omega) ea ?_
    refine spl0 ?_
    refine nIdx (s₀ := s₀) (env := lenv L) (l := rg) (vs := gL) (o := listOf gL.toArray 0) (news := (I', oI') :: (C', oC) :: (D, LCg.lst ys') :: (I, oI) :: (le, LCg.lst lA) :: (rg, listOf gL.toArray 0) :: (nu, listOf nA nn) :: ledB w.params L q x dx rs rl od its n 0 tk tv (rise5 r0 r1 r2 r3 r4 w0 w1 w2 w3 w4) rA rn oA vk vn (some (.ref rg)) vl vt p1 p2 tl) ⟨S.st, S.mv⟩ (by k_mem) LO.mk' hring (by rw [List.length_cons, hn]; decide) (hin i hi') ?_
    intro tb s10 S
    refine wpAny_Constant_int ?_
    refine sub_int ?_
    have gz : gL.length = 5 := by rw [strs_len hring, List.length_cons, hn]
    have hix : (Str.ofString "" :: row).idxOf ([r0, r1, r2, r3, r4].getD ((i + 1) % 5) (Str.ofString "")) < 5 := by
      have := List.idxOf_lt_length_iff.mpr (hin i hi')
      rwa [List.length_cons, hn] at this
    obtain ⟨tc, ec⟩ := strs_get hring (i := ((Str.ofString "" :: row).idxOf ([r0, r1, r2, r3, r4].getD ((i + 1) % 5) (Str.ofString "")) + 4) % 5) (by rw [List.length_cons, hn]; exact Nat.mod_lt _ (by decide))
    generalize hX : (Str.ofString "" :: row).idxOf ([r0, r1, r2, r3, r4].getD ((i + 1) % 5) (Str.ofString "")) = X5 at hix ec ⊢
    have hp : (Str.ofString "" :: row).getD ((X5 + 4) % 5) (Str.ofString "") = prevF [r0, r1, r2, r3, r4] (Str.ofString "" :: row) i := by unfold prevF; rw [hX]
    rw [hp] at ec
    refine ⟨rg, gL.toArray, rfl, S.st.isL (o := listOf gL.toArray 0) (by k_mem) LO.mk', ?_⟩
    have key : ∀ {Q' : Value → Shared → Prop} {sx : Shared}, Now s₀ h₀ (lenv L).locals m1 ((I', oI') :: (C', oC) :: (D, LCg.lst ys') :: (I, oI) :: (le, LCg.lst lA) :: (rg, listOf gL.toArray 0) :: (nu, listOf nA nn) :: ledB w.params L q x dx rs rl od its n 0 tk tv (rise5 r0 r1 r2 r3 r4 w0 w1 w2 w3 w4) rA rn oA vk vn (some (.ref rg)) vl vt p1 p2 tl) sx → ∀ {tz : Tok}, Q' (.str (prevF [r0, r1, r2, r3, r4] (Str.ofString "" :: row) i) tc) sx → wpAny (model PR w) (lawA L) (getItem (.ref rg) (.int ((X5 : Int) - 1) tz)) Q' E' sx := by
      intro Q' sx Sx tz hq
      rcases Nat.eq_zero_or_pos X5 with h0 | h0
      · subst h0
        exact wpAny_getItem_list_neg (Sx.isL (o := listOf gL.toArray 0) (by k_mem) LO.mk') (by omega) (by rw [List.size_toArray, gz]; omega) (by omega) (by rw [List.size_toArray, gz]; exact ec) hq
      · refine wpAny_getItem_list (Sx.isL (o := listOf gL.toArray 0) (by k_mem) LO.mk') (by omega) (by omega) ?_ hq
        rw [show ((X5 : Int) - 1).toNat = (X5 + 4) % 5 by omega]
        exact ec
    refine' key ?S1 ?q1
    case S1 => exact ⟨S.st, S.mv⟩
    refine spl0 ?_
    refine nIdx (s₀ := s₀) (env := lenv L) (l := rs) (vs := (rise5 r0 r1 r2 r3 r4 w0 w1 w2 w3 w4).toList) (o := listOf (rise5 r0 r1 r2 r3 r4 w0 w1 w2 w3 w4) 0) (news := (I', oI') :: (C', oC) :: (D, LCg.lst ys') :: (I, oI) :: (le, LCg.lst lA) :: (rg, listOf gL.toArray 0) :: (nu, listOf nA nn) :: ledB w.params L q x dx rs rl od its n 0 tk tv (rise5 r0 r1 r2 r3 r4 w0 w1 w2 w3 w4) rA rn oA vk vn (some (.ref rg)) vl vt p1 p2 tl) ⟨S.st, S.mv⟩ (by k_mem) LO.mk' hR (Nat.le_of_ble_eq_true rfl) (hpr i hi') ?_
    intro td s11 S
    refine ⟨_, S, trivial, rfl, ?_⟩
    rw [List.range_succ, List.map_append]
    exact IntsAre.append hy (.cons _ _ .nil)
  case fin =>
    rintro wA news dn ⟨rfl, hy⟩
    intro ow h tk3 F N off
    have S : Now s₀ h₀ (lenv L).locals _ _ { s8 with heap := h, toks := tk3 } := ⟨⟨F, N, List.pairwise_cons.mpr ⟨fun p hp => Ne.symm (off1_all off p hp), dn⟩⟩, S.mv⟩
    obtain ⟨r⟩ := hQ _ _ le lA ow wA rg gL.toArray (S.pick (.cons (.there .here) (.cons (.there .here) .all))) hi hy (by rw [if_neg (by decide)]; exact m1l) (if_pos rfl) fun y h1 h2 => by rw [if_neg h2]; exact m1o y h1
    show wpAny (model PR w) (lawA L) (execs (bodyS.drop 7) (lenv L)) Q E _
    with_reducible exact @r
end
end Mine
end
section
open PySem PySem.W PySem.Calls PyProof.Rows Builtin
set_option maxRecDepth 100000
set_option maxHeartbeats 1000000
namespace Mine
theorem ints5 {vs : List Value} {n0 n1 n2 n3 n4 : Int} (h : IntsAre vs [n0, n1, n2, n3, n4]) : ∃ w0 w1 w2 w3 w4, vs = [Value.int n0 w0, Value.int n1 w1, Value.int n2 w2, Value.int n3 w3, Value.int n4 w4] := by
  cases h with | cons _ w0 h =>
  cases h with | cons _ w1 h =>
  cases h with | cons _ w2 h =>
  cases h with | cons _ w3 h =>
  cases h with | cons _ w4 h =>
  cases h
  exact ⟨w0, w1, w2, w3, w4, rfl⟩
section
variable {p : Program} {w : World} {lo : List Str} {mean : ExcName → Option Value} {mg mb : Str → Option Value} {E : Value → Shared → Prop} {h₀ : Heap} {L x dx rs rl od I nu le ow : Addr} {oI oN : Obj} {m : Str → Option Value} {s₀ s : Shared} {Q : Flow → Shared → Prop} {q : Nat → Obj} {its rA oA p1 p2 : Array Value} {lA wA : List Value} {n rn : Nat} {tk tv t ts tr : Tok} {vk vn vg vl vt : Option Value} {tl : List (Addr × Obj)} {row : List Str} {r0 r1 r2 r3 r4 : Str} {w0 w1 w2 w3 w4 : Tok} {ls : List Int} {o0 o1 o2 o3 o4 st R0 : Int}
/-- _law_beside over the law's ledger -/
theorem besideCall {x : Str} {news : List (Addr × Obj)} {t : Tok} {Q : Value → Shared → Prop} {v0 v1 v2 v3 v4 : Tok} {rn on : Nat} (X : (K w.params).In h₀) (T : Top p lo mean mg mb h₀) (S : Now s₀ h₀ L m news s) (hm : (rs, listOf [Value.str r0 w0, Value.str r1 w1, Value.str r2 w2, Value.str r3 w3, Value.str r4 w4].toArray rn) ∈ news) (hm2 : (ow, listOf [Value.int o0 v0, Value.int o1 v1, Value.int o2 v2, Value.int o3 v3, Value.int o4 v4].toArray on) ∈ news)
    (hx : x.length ≤ 1000) (hr : ∀ r ∈ [r1, r2, r3, r4], r.length = 1)
    (hQ : ∀ s', Now s₀ h₀ L m news s' → Q (.bool (besideF x r1 r2 r3 r4 o0 o1 o2 o3 o4)) s') : wpAny (model PR w) (lawA L) (call (.ref 212) [.str x t, .ref rs, .ref ow]) Q E s := by
  have N : News h₀ L s.heap ((rs, listOf [Value.str r0 w0, Value.str r1 w1, Value.str r2 w2, Value.str r3 w3, Value.str r4 w4].toArray rn) :: (ow, listOf [Value.int o0 v0, Value.int o1 v1, Value.int o2 v2, Value.int o3 v3, Value.int o4 v4].toArray on) :: news) := fun p hp => by
    rcases List.mem_cons.mp hp with rfl | hp
    · exact S.st.N _ hm
    rcases List.mem_cons.mp hp with rfl | hp
    · exact S.st.N _ hm2
    · exact S.st.N _ hp
  have h1 := hr r1 (.head _)
  have h2 := hr r2 (.tail _ (.head _))
  have h3 := hr r3 (.tail _ (.tail _ (.head _)))
  have h4 := hr r4 (.tail _ (.tail _ (.tail _ (.head _))))
  refine beside_ok (dp := callerA.depth + 1) (un := callerA.units + 3) (gd := some []) (cn := Str.ofString "law") (cs := f232.sc) (a := 232) (ccd := .ref 231) (cl := cellsFrom (L + 1) f232.sc.names []) (outer := []) (A₀ := callerA) (base := h₀) (below_caller h₀) S.st.F X N T rfl hx (by omega) (by omega) (by omega) (by omega) (by decide +kernel) (by decide +kernel) ?_
  intro t h' tk' F' N'
  exact hQ _ ⟨S.st.of0 F' (fun p hp => N' p (.tail _ (.tail _ hp))), S.mv⟩
theorem step_4 (X : (K w.params).In h₀) (T : Top p lo mean mg mb h₀) (S : Now s₀ h₀ L m ((I, oI) :: (le, LCg.lst lA) :: (ow, LCg.lst wA) :: (nu, oN) :: ledB w.params L q x dx rs rl od its n 0 tk tv (rise5 r0 r1 r2 r3 r4 w0 w1 w2 w3 w4) rA rn oA vk vn vg vl vt p1 p2 tl) s) (hn : row.length = 4) (hr1 : ∀ r ∈ row, r.length = 1) (hr : ∀ r ∈ [r1, r2, r3, r4], r.length = 1)
    (hl : IntsAre lA ls) (hw : IntsAre wA [o0, o1, o2, o3, o4]) (hg : Good5 ls)
    (mt : m (Str.ofString "text") = some (.str (txtOf row) t)) (mst : m (Str.ofString "steps") = some (.int st ts)) (mr : m (Str.ofString "rings") = some (.int R0 tr)) (mle : m (Str.ofString "leads") = some (.ref le)) (mow : m (Str.ofString "own") = some (.ref ow))
    (h7 : st = 0 → ls = [o0, o1, o2, o3, o4] ∧ besideF (txtOf row) r1 r2 r3 r4 o0 o1 o2 o3 o4 = true) (h8 : ringsF ls = R0 + 2 * st) (hst : 0 ≤ st ∧ st < 1000)
    (hQ : ∀ s', Now s₀ h₀ L m ((I, oI) :: (nu, oN) :: ledB w.params L q x dx rs rl od its n 0 tk tv (rise5 r0 r1 r2 r3 r4 w0 w1 w2 w3 w4) rA rn oA vk vn vg vl vt p1 p2 tl) s' → RestS w L Q E 9 s') : RestS w L Q E 7 s := by
  refine ⟨?_⟩
  show wpAny _ _ (execs (Stmt.If _ _ _ _ :: Stmt.If _ _ _ _ :: List.drop 9 bodyS) _) _ _ _
  obtain ⟨v0, v1, v2, v3, v4, rfl⟩ := ints5 hw
  refine wpAny_execs_cons ?_
  refine wpAny_If ?_
  have next : ∀ s', Now s₀ h₀ L m ((I, oI) :: (le, LCg.lst lA) :: (ow, LCg.lst [Value.int o0 v0, Value.int o1 v1, Value.int o2 v2, Value.int o3 v3, Value.int o4 v4]) :: (nu, oN) :: ledB w.params L q x dx rs rl od its n 0 tk tv (rise5 r0 r1 r2 r3 r4 w0 w1 w2 w3 w4) rA rn oA vk vn vg vl vt p1 p2 tl) s' → wpAny (model PR w) (lawA L) (execs (bodyS.drop 8) (lenv L)) Q E s' := by
    intro s1 S
    have S := S.pick (news' := (le, LCg.lst lA) :: (I, oI) :: (nu, oN) :: ledB w.params L q x dx rs rl od its n 0 tk tv (rise5 r0 r1 r2 r3 r4 w0 w1 w2 w3 w4) rA rn oA vk vn vg vl vt p1 p2 tl) (.cons (.there .here) (.cons .here (.drop .all)))
    show wpAny _ _ (execs (Stmt.If _ _ _ _ :: List.drop 9 bodyS) _) _ _ _
    refine wpAny_execs_cons ?_
    refine wpAny_If ?_
    refine wpAny_isTrue_Compare1 ?_
    refine Call_Name (trees := _) rfl ?_
    refine ldK (v := .ref 198) (by kernel_rfl) rfl (by decide) X T S.st ?_
    refine callWith_K (K := K w.params) (h₀ := h₀) X (by kernel_rfl) ?_
    refine spl ?_
    refine eL (env := lenv L) S mle ?_
    refine spl0 ⟨X.keeps S.st.F.keep, ?_⟩
    refine ringsCall X T S hl hg ?_
    intro _ s2 S
    refine wpAny_BinOp ?_
    refine eL (env := lenv L) S mr ?_
    refine wpAny_BinOp ?_
    refine nInt (env := lenv L) S ?_
    intro _ s3 S
    refine eL (env := lenv L) S mst ?_
    refine nMul (env := lenv L) S (IntMulOk.of_left (by decide +kernel)) ?_
    intro _ s4 S
    refine nAdd (env := lenv L) S ?_
    intro _ s5 S
    refine ne_int ?_
    refine truthy_b ?_
    rw [h8, show (R0 + 2 * st != R0 + 2 * st) = false by simp, if_neg Bool.false_ne_true]
    refine wpAny_execs_nil ?_
    obtain ⟨r⟩ := hQ s5 (S.pick (.drop .all))
    show wpAny (model PR w) (lawA L) (execs (bodyS.drop 9) (lenv L)) Q E _
    with_reducible exact @r
  refine isTrue_and ?_
  refine wpAny_isTrue_Compare1 ?_
  refine eL (env := lenv L) S mst ?_
  refine nInt (env := lenv L) S ?_
  intro _ s1 S
  refine eq_int ?_
  refine truthy_b ?_
  by_cases h0 : st = 0
  · subst h0
    obtain ⟨e1, e2⟩ := h7 rfl
    subst e1
    rw [if_pos (by decide)]
    refine isTrue_and ?_
    refine isTrue_or ?_
    refine wpAny_isTrue_Compare1 ?_
    refine eL (env := lenv L) S mle ?_
    refine eL (env := lenv L) S mow ?_
    refine ke_ne_ints (S.isL (o := LCg.lst lA) (by k_mem) ⟨rfl, _, rfl⟩) (S.isL (o := LCg.lst [Value.int o0 v0, Value.int o1 v1, Value.int o2 v2, Value.int o3 v3, Value.int o4 v4]) (by k_mem) ⟨rfl, _, rfl⟩) hl hw (by show callerA.units + 3 + 64 < cLine; decide +kernel) ?_
    refine truthy_b ?_
    rw [show (!decide ([o0, o1, o2, o3, o4] = [o0, o1, o2, o3, o4])) = false by simp, if_neg Bool.false_ne_true]
    refine isTrue_or ?_
    refine isTrue_not ?_
    refine isTrue_plain ?_
    refine Call_Name (trees := _) rfl ?_
    refine ldK (v := .ref 212) (by kernel_rfl) rfl (by decide) X T S.st ?_
    refine callWith_K (K := K w.params) (h₀ := h₀) X (by kernel_rfl) ?_
    refine spl ?_
    refine eL (env := lenv L) S mt ?_
    refine spl ?_
    refine eC (env := lenv L) (q := q 4) S (lk_rising L) (by k_mem) ?_
    refine spl ?_
    refine eL (env := lenv L) S mow ?_
    refine spl0 ⟨X.keeps S.st.F.keep, ?_⟩
    refine besideCall (rn := 0) X T S (by k_mem) (by k_mem) (by rw [txt_len hn hr1]; decide) hr ?_
    intro s2 S
    rw [e2]
    refine truthy_b ?_
    rw [if_neg (by decide)]
    refine isTrue_or_nil ?_
    rw [if_neg Bool.false_ne_true, if_neg Bool.false_ne_true]
    refine wpAny_execs_nil ?_
    exact next s2 S
  · rw [if_neg (by simpa using h0), if_neg Bool.false_ne_true]
    refine wpAny_execs_nil ?_
    exact next s1 S
end
end Mine
end
section
open PySem PySem.W PySem.Calls PyProof.Rows Builtin
set_option maxRecDepth 100000
set_option maxHeartbeats 1000000
namespace Mine
/-- a number that comes late: one ahead of it is greater -/
noncomputable def lateK (nums : List Int) (k : Nat) : List Int := (nums.take (k + 1)).filter fun o => decide (256 ≤ 255 + o - nums.getD k 0)
noncomputable def lateB (nums : List Int) (k : Nat) : Bool := !decide (lateK nums k = [])
noncomputable def lateF (nums : List Int) (i : Nat) : List Int := ((List.range i).filter (lateB nums)).map (nums.getD · 0)
theorem lateF_succ (nums : List Int) (i : Nat) : lateF nums (i + 1) = lateF nums i ++ (if lateB nums i = true then [nums.getD i 0] else []) := by
  unfold lateF
  rw [List.range_succ, List.filter_append, List.map_append]
  congr 1
  by_cases h : lateB nums i = true
  · simp [h]
  · simp [h]
section
variable {p : Program} {w : World} {lo : List Str} {mean : ExcName → Option Value} {mg mb : Str → Option Value} {E : Value → Shared → Prop} {h₀ : Heap} {L x dx rs rl od I nu : Addr} {oI : Obj} {m : Str → Option Value} {s₀ s : Shared} {Q : Flow → Shared → Prop} {q : Nat → Obj} {its rsA rA oA p1 p2 nA : Array Value} {n rn nn : Nat} {tk tv : Tok} {vk vn vg vl vt : Option Value} {tl : List (Addr × Obj)} {nums : List Int}
/-- ISNONTERMINAL over the law's ledger -/
theorem isntCall {news : List (Addr × Obj)} {z : Int} {t : Tok} {Q : Value → Shared → Prop} (X : (K w.params).In h₀) (T : Top p lo mean mg mb h₀) (S : St h₀ L m news s.heap)
    (hQ : ∀ h' tk', St h₀ L m news h' → Q (.bool (decide (256 ≤ z))) { s with heap := h', toks := tk' }) : wpAny (model PR w) (lawA L) (call (.ref 179) [.int z t]) Q E s := by
  refine isnt_ok (dp := callerA.depth + 1) (un := callerA.units + 3) (gd := some []) (cn := Str.ofString "law") (cs := f232.sc) (a := 232) (ccd := .ref 231) (cl := cellsFrom (L + 1) f232.sc.names []) (outer := []) (A₀ := callerA) (base := h₀) (below_caller h₀) S.F X S.N T rfl (by decide +kernel) (by decide +kernel) ?_
  intro t h' tk' F' N'
  exact hQ h' tk' (S.of0 F' N')
inductive J5 (la : Addr) (rest : Option Value → List (Addr × Obj)) (ls : List Int) (i : Nat) (m m' : Str → Option Value) (news : List (Addr × Obj)) (M : Prop) : Prop
  | mk (lt : Array Value) (ln : Nat) (vk' : Option Value) (e : news = (la, listOf lt ln) :: rest vk') (h1 : IntsAre lt.toList ls) (h2 : lt.size ≤ i) (h3 : m' = m) (h4 : M) : J5 la rest ls i m m' news M
theorem step_5 (X : (K w.params).In h₀) (T : Top p lo mean mg mb h₀) (S : Now s₀ h₀ L m ((I, oI) :: (nu, listOf nA nn) :: ledB w.params L q x dx rs rl od its n 0 tk tv rsA rA rn oA vk (some (.ref nu)) vg vl vt p1 p2 tl) s) (hi : IntsAre nA.toList nums) (hn : nums.length = 4)
    (hQ : ∀ s' la lt ln vk', Now s₀ h₀ L m ((la, listOf lt ln) :: (I, oI) :: (nu, listOf nA nn) :: ledB w.params L q x dx rs rl od its n 0 tk tv rsA rA rn oA vk' (some (.ref nu)) vg (some (.ref la)) vt p1 p2 tl) s' → IntsAre lt.toList (lateF nums 4) → RestS w L Q E 11 s') : RestS w L Q E 9 s := by
  refine ⟨?_⟩
  show wpAny _ _ (execs (Stmt.Assign [Expr.Name _ _] (Expr.List _ _) _ :: Stmt.For _ _ _ _ _ :: List.drop 11 bodyS) _) _ _ _
  have nz : nA.size = 4 := by rw [← Array.length_toList, IntsAre.length hi, hn]
  refine wpAny_execs_cons ?_
  refine wpAny_Assign_Name ?_
  refine List_ ?_
  refine spl0 ?_
  refine nList (env := lenv L) S (Nat.zero_le _) ?_
  intro la s1 S
  refine sC (q := q 8) S (lk_late L) (by repeat (first | exact At.head | apply At.tail)) ?_
  intro s2 S
  show wpAny _ _ (execs (Stmt.For _ _ _ _ _ :: List.drop 11 bodyS) _) _ _ _
  refine wpAny_execs_cons ?_
  refine for_St_range (h₀ := h₀) (L := L) (J := fun i m' news t => J5 la (fun vk' => (I, oI) :: (nu, listOf nA nn) :: ledB w.params L q x dx rs rl od its n 0 tk tv rsA rA rn oA vk' (some (.ref nu)) vg (some (.ref la)) vt p1 p2 tl) (lateF nums i) i m m' news (Mv s₀ t)) rfl (fun _ _ _ _ _ _ h => h) (fun _ _ => rfl) (fun _ => rfl) ?_
  refine Call_Name1 (ld_range X T S.st (callWith_type1 ?_))
  refine nInt (env := lenv L) S ?_
  intro _ s3 S
  refine nRange1 (env := lenv L) S ?_
  intro r u1 u2 u3 s4 S hr
  refine ⟨r, 0, 4, _, _, _, 4, _, _, rfl, hr, small_one (by decide) (by decide) (by decide) (by decide), (rangeSize_nat _ _).trans rfl, ⟨S.st, trivial, fun g => ⟨#[], _, vk, rfl, .nil, Nat.zero_le _, rfl, S.mv⟩, ?_, ?_⟩⟩
  · rintro i v m' news t tk9 I' oI' hi' ⟨u, rfl⟩ ⟨lt, ln, vk', rfl, hlt, hls, rfl, mv⟩ - S4 - E'
    have S : Now s₀ h₀ L m' _ { t with toks := tk9 } := ⟨S4, mv⟩
    have hi4 : i < 4 := hi'
    refine tC (q := q 1) S (lk_k L) (by repeat (first | exact At.head | apply At.tail)) fun s5 S => ?_
    refine wpAny_execs_cons ?_
    refine wpAny_If ?_
    refine wpAny_isTrue_Compare1 ?_
    refine LCt.ListComp_T (F₀ := S.st.F) (cl := [(Str.ofString "numbers", L + 1 + 1 + 1 + 1 + 1 + 1), (Str.ofString "k", L + 1)]) (by with_unfolding_all rfl) (by decide) rfl (by decide) rfl ?_
    refine nSlice (s₀ := s₀) (h₀ := h₀) ?_
    refine eC (env := lenv L) (q := q 6) S (lk_numbers L) (by k_mem) ?_
    refine evalPart_none_step ?_
    refine evalPart_some_step ?_
    refine wpAny_BinOp ?_
    refine eC (env := lenv L) (q := q 1) S (lk_k L) (by k_mem) ?_
    refine nInt (env := lenv L) S ?_
    intro _ s6 S
    refine nAdd (env := lenv L) S ?_
    intro _ s7 S
    refine ⟨nu, nA, _, none, some ((0 : Int) + (i : Int) + 1), m', _, rfl, S, by k_mem, LO.mk', by omega, .none, .int _ _, fun sl s8 S => ?_⟩
    rw [show (0 : Int) + (i : Int) + 1 = ((i + 1 : Nat) : Int) by omega, slicePick_upto' nA (i + 1)] at S
    have hsl : IntsAre (nA.toList.take (i + 1)) (nums.take (i + 1)) := hi.take (i + 1)
    refine LCt.CompSrcT.ledger rfl S.st.F S.st.N (by k_mem) (by rw [sizeLine_eq, List.size_toArray, List.length_take, Array.length_toList]; omega) fun g => ?_
    obtain ⟨nk, tnk, ek, ek2⟩ := IntsAre.at hi i (nA.toList[i]'(by rw [Array.length_toList]; omega)) (List.getElem?_eq_getElem (by rw [Array.length_toList]; omega))
    have ek3 : nA[i]? = some (.int nk tnk) := by rw [← Array.getElem?_toList, List.getElem?_eq_getElem (by rw [Array.length_toList]; omega), ek]
    have ekd : nums.getD i 0 = nk := by rw [List.getD_eq_getElem?_getD, ek2]; rfl
    refine compT_keep (fun x t => Value.int x t) (fun o => decide (256 ≤ 255 + o - nums.getD i 0)) (nums.take (i + 1)) ?n ?P ?turn ?fin
    case n => rw [List.size_toArray, List.length_take, Array.length_toList, List.length_take, nz, hn]
    case P =>
      intro j v hv
      obtain ⟨z, t, e1, e2⟩ := IntsAre.at hsl j v (by simpa using hv)
      exact ⟨z, t, e2, e1⟩
    case turn =>
      intro z t I2 oI2 C oC D m₂ ys h tk E' hx hC hm F N off ne
      have S8 := St.turn F N S.st.D off ne
      have nC := hC.ns (S8.get (.tail _ (.head _)))
      refine wpAny_isTrue_Compare1 ?_
      refine Call_Name (trees := _) rfl ?_
      refine load_global (env := compEnvC _ _ _ _) (v := .ref 179) rfl rfl (T.g.keeps S8.F.keep) (mg_of X T.g (by kernel_rfl)) (by decide) ?_
      refine callWith_K (K := K w.params) (h₀ := h₀) X (by kernel_rfl) ?_
      refine spl ?_
      refine wpAny_BinOp ?_
      refine wpAny_BinOp ?_
      refine wpAny_Constant_int ?_
      refine load_local (env := compEnvC _ _ _ _) rfl rfl nC hm (by decide) ?_
      refine wpAny_add_int ?_
      refine sub_gen ?_
      refine wpAny_Name (wpAny_loadName_cell (env := compEnvC _ _ _ _) rfl rfl (c := L + 1 + 1 + 1 + 1 + 1 + 1) (v := .ref nu) rfl ⟨cW (q 6) (some (.ref nu)), S8.get (by k_mem), rfl⟩ ?_) (by decide)
      refine wpAny_Name (wpAny_loadName_cell (env := compEnvC _ _ _ _) rfl rfl (c := L + 1) (v := .int (0 + (i : Int)) u) rfl ⟨cW (q 1) (some (.int (0 + (i : Int)) u)), S8.get (by k_mem), rfl⟩ ?_) (by decide)
      refine ⟨nu, nA, rfl, S8.isL (o := listOf nA nn) (by k_mem) LO.mk', ?_⟩
      refine wpAny_getItem_list (S8.isL (o := listOf nA nn) (by k_mem) LO.mk') (by omega) (by omega) (by rw [show ((0 : Int) + (i : Int)).toNat = i by omega]; exact ek3) ?_
      refine sub_int ?_
      refine spl0 ⟨X.keeps S8.F.keep, ?_⟩
      refine isntCall X T S8 ?_
      intro h9 tk9 S9
      refine wpAny_Constant_bool ?_
      refine wpAny_isNot_plain rfl ?_
      refine truthy_b ?_
      rw [← ekd, show (!(Value.bool (decide (256 ≤ 255 + z - nums.getD i 0)) == Value.bool false)) = decide (256 ≤ 255 + z - nums.getD i 0) by cases decide (256 ≤ 255 + z - nums.getD i 0) <;> rfl]
      split
      · rename_i hk
        refine load_local (env := compEnvC _ _ _ _) rfl rfl (hC.ns (S9.get (.tail _ (.head _)))) hm (by decide) ?_
        exact St.end' S9 (.inr ⟨_, by k_mem, rfl, _, rfl⟩) ⟨hk, rfl, _, rfl⟩
      · rename_i hk
        exact St.end' S9 (.inr ⟨_, by k_mem, rfl, _, rfl⟩) ⟨Bool.eq_false_iff.mpr hk, rfl⟩
    case fin =>
      intro ys hy D h tk2 F N o1
      have S : Now s₀ h₀ (lenv L).locals m' _ { s8 with heap := h, toks := tk2 } := ⟨S.st.of F N (off1_all o1), S.mv⟩
      refine List_ ?_
      refine spl0 ?_
      refine nList (env := lenv L) S (Nat.zero_le _) ?_
      intro D3 s9 S
      refine ke_ne_ints (xs := ys) (ys := []) (S.isL (o := LCg.lst ys) (by k_mem) ⟨rfl, _, rfl⟩) (S.isL (o := listOf #[] 0) (.head _) LO.mk') (vals_ints hy) .nil (by show callerA.units + 3 + 64 < cLine; decide +kernel) ?_
      refine truthy_b ?_
      rw [show (!decide (((nums.take (i + 1)).filter fun o => decide (256 ≤ 255 + o - nums.getD i 0)) = [])) = lateB nums i from rfl]
      have hf : Mv s₀ s9 := S.mv
      cases hb : lateB nums i with
      | false =>
        rw [if_neg Bool.false_ne_true]
        refine wpAny_execs_nil ?_
        refine wpAny_execs_nil ⟨m', _, S.st.pick (news' := (I', oI') :: (la, listOf lt ln) :: (I, oI) :: (nu, listOf nA nn) :: ledB w.params L q x dx rs rl od its n 0 tk tv rsA rA rn oA (some (.int (0 + (i : Int)) u)) (some (.ref nu)) vg (some (.ref la)) vt p1 p2 tl) (.drop (.drop (.drop .all))), ⟨lt, ln, _, rfl, ?_, by omega, rfl, S.mv⟩, trivial⟩
        rw [lateF_succ, hb, if_neg Bool.false_ne_true, List.append_nil]
        exact hlt
      | true =>
        rw [if_pos rfl]
        have S := S.pick (news' := (I', oI') :: (la, listOf lt ln) :: (I, oI) :: (nu, listOf nA nn) :: ledB w.params L q x dx rs rl od its n 0 tk tv rsA rA rn oA (some (.int (0 + (i : Int)) u)) (some (.ref nu)) vg (some (.ref la)) vt p1 p2 tl) (.drop (.drop (.drop .all)))
        refine wpAny_execs_cons ?_
        refine wpAny_Expr ?_ rfl rfl
        refine MethodCall_ ?_ rfl
        refine eC (env := lenv L) (q := q 8) S (lk_late L) (by k_mem) ?_
        refine gmApp (env := lenv L) S (by k_mem) ?_
        refine callWith_method1 ?_
        refine spl ?_
        refine sub_gen ?_
        refine eC (env := lenv L) (q := q 6) S (lk_numbers L) (by k_mem) ?_
        refine eC (env := lenv L) (q := q 1) S (lk_k L) (by k_mem) ?_
        refine ⟨nu, nA, rfl, S.isL (o := listOf nA nn) (by k_mem) LO.mk', ?_⟩
        refine wpAny_getItem_list (S.isL (o := listOf nA nn) (by k_mem) LO.mk') (by omega) (by omega) (by rw [show ((0 : Int) + (i : Int)).toNat = i by omega]; exact ek3) ?_
        refine spl0 ?_
        refine nApp (env := lenv L) (l := la) (its := lt) (n := ln) (nx := fun n' => (I', oI') :: (la, listOf (lt.push (.int nk tnk)) n') :: (I, oI) :: (nu, listOf nA nn) :: ledB w.params L q x dx rs rl od its n 0 tk tv rsA rA rn oA (some (.int (0 + (i : Int)) u)) (some (.ref nu)) vg (some (.ref la)) vt p1 p2 tl) S (fun _ => .tail .head) (by omega) ?_
        intro n' s10 S
        refine wpAny_execs_nil ?_
        refine wpAny_execs_nil ⟨m', _, S.st, ⟨lt.push (.int nk tnk), n', _, rfl, ?_, by rw [Array.size_push]; omega, rfl, S.mv⟩, trivial⟩
        rw [lateF_succ, hb, if_pos rfl, Array.toList_push, ekd]
        exact IntsAre.append hlt (.cons _ _ .nil)
  · rintro m' news t tk9 ⟨lt, ln, vk', rfl, hlt, hls, rfl, mv⟩ S'
    obtain ⟨r⟩ := hQ { t with toks := tk9 } la lt ln vk' ⟨S', mv⟩ hlt
    show wpAny (model PR w) (lawA L) (execs (bodyS.drop 11) (lenv L)) Q E _
    with_reducible exact @r
end
end Mine
end
section
open PySem PySem.W PySem.Calls PyProof.Rows Builtin
set_option maxRecDepth 100000
set_option maxHeartbeats 1000000
namespace Mine
/-- what _law_bare asks of a row that it calls good -/
structure BareOk (xs : List Str) (x : Str) : Prop where
  hx : x.length ≤ 100
  e1 : xs.map (fun y => stripF (y ++ x)) = xs
  o1 : (xs.map (fun y => stripF (y ++ x))).all PyData.strOk = true
  e2 : xs.map (fun y => stripF (Str.ofString ". " ++ y ++ Str.ofString " " ++ x)) = xs.map (fun y => Str.ofString " " ++ y ++ Str.ofString " ")
  o2 : (xs.map (fun y => stripF (Str.ofString ". " ++ y ++ Str.ofString " " ++ x))).all PyData.strOk = true
/-- what _law_names asks of a text that it calls good -/
structure NamesOk (x la tp gr fu gl : Str) : Prop where
  hx : x.length ≤ 100
  hl : la.length ≤ 100
  ht : tp.length ≤ 100
  hg : gr.length ≤ 300
  hf : fu.length ≤ 300
  hgl : gl.length ≤ 300
  u1 : Txt.upper (Str.ofString "." ++ la ++ Str.ofString "." ++ tp) = gr
  u2 : Txt.upper (Str.ofString "y" ++ x ++ Str.ofString "." ++ tp) = fu
  u3 : Txt.lower gr = gl
  d1 : dmF x x = true
  d2 : dmF (Str.ofString "y" ++ x ++ Str.ofString "." ++ tp) gr = true
  d3 : dmF fu gl = true
  d4 : udmF (Str.ofString "y" ++ x ++ Str.ofString "." ++ tp) gr = true
  d5 : udmF fu gl = true
  d6 : udmF (Str.ofString "y" ++ x) (Str.ofString "y" ++ x) = true
  d7 : udmF (Str.ofString "y" ++ x ++ Str.ofString ".7") (Str.ofString "y" ++ x ++ Str.ofString ".7") = true
  e1 : dmF (Str.ofString "y" ++ x ++ Str.ofString ".7") (Str.ofString "." ++ la) = false
  e2 : dmF (Str.ofString "y" ++ x ++ Str.ofString ".7." ++ tp) (Str.ofString "." ++ la ++ Str.ofString ".7") = false
  e3 : dmF (Str.ofString "." ++ (Str.ofString "y" ++ x)) x = false
  e4 : dmF (Str.ofString "xyz" ++ x) (Str.ofString "yz" ++ x) = false
  e5 : dmF (Str.ofString "y" ++ x ++ Str.ofString "." ++ tp) (Str.ofString "." ++ la ++ Str.ofString ".") = false
  e6 : dmF (Str.ofString "y" ++ x) (Str.ofString ".") = false
  e7 : udmF (Str.ofString "y" ++ x) la = false
  e8 : udmF (Str.ofString "y" ++ x ++ Str.ofString ".7") (Str.ofString "." ++ la ++ Str.ofString ".7") = false
  r1 : reachF (Str.ofString "y" ++ x ++ Str.ofString ".7") = (Str.ofString "y" ++ x ++ Str.ofString ".7")
  r2 : reachF (la ++ Str.ofString ".xlocal") = la ++ Str.ofString ".xlocal"
section
variable {p : Program} {w : World} {lo : List Str} {mean : ExcName → Option Value} {mg mb : Str → Option Value} {E : Value → Shared → Prop} {h₀ : Heap} {L x dx rs rl od I nu la : Addr} {oI oN : Obj} {m : Str → Option Value} {s₀ s : Shared} {Q : Flow → Shared → Prop} {q : Nat → Obj} {its rA oA p1 p2 lt : Array Value} {n rn ln : Nat} {tk tv ts tr t t1 t2 : Tok} {vk vn vg vl vt : Option Value} {tl : List (Addr × Obj)} {late : List Int} {row : List Str} {r0 r1 r2 r3 r4 tail tp : Str} {w0 w1 w2 w3 w4 : Tok} {st R0 : Int}
/-- _law_bare over the law's ledger -/
theorem bareCall {news : List (Addr × Obj)} {t : Tok} {Q : Value → Shared → Prop} (X : (K w.params).In h₀) (T : Top p lo mean mg mb h₀) (S : Now s₀ h₀ L m news s) (hm : (rl, listOf rA rn) ∈ news) (hr : StrsAre rA.toList row) (hn : row.length = 4) (hr1 : ∀ r ∈ row, r.length = 1) (b : BareOk row tail)
    (hQ : ∀ s', Now s₀ h₀ L m news s' → Q (.bool true) s') : wpAny (model PR w) (lawA L) (call (.ref 222) [.ref rl, .str tail t]) Q E s := by
  have N : News h₀ L s.heap ((rl, listOf rA rn) :: news) := fun p hp => by
    rcases List.mem_cons.mp hp with rfl | hp
    · exact S.st.N _ hm
    · exact S.st.N _ hp
  refine bare_ok (dp := callerA.depth + 1) (un := callerA.units + 3) (gd := some []) (cn := Str.ofString "law") (cs := f232.sc) (a := 232) (ccd := .ref 231) (cl := cellsFrom (L + 1) f232.sc.names []) (outer := []) (A₀ := callerA) (base := h₀) (below_caller h₀) S.st.F X N T rfl b.hx hr (by omega) (fun r hr => by rw [hr1 r hr]; decide) b.e1 b.o1 b.e2 b.o2 (by decide +kernel) (by decide +kernel) ?_
  intro t h' tk' F' N'
  exact hQ _ ⟨S.st.of0 F' (fun p hp => N' p (.tail _ hp)), S.mv⟩
/-- _law_names over the law's ledger -/
theorem namesCall {news : List (Addr × Obj)} {x la tp gr fu gl : Str} {t t2 t3 : Tok} {Q : Value → Shared → Prop} (X : (K w.params).In h₀) (T : Top p lo mean mg mb h₀) (S : Now s₀ h₀ L m news s) (b : NamesOk x la tp gr fu gl)
    (hQ : ∀ s', Now s₀ h₀ L m news s' → Q (.bool true) s') : wpAny (model PR w) (lawA L) (call (.ref 217) [.str x t, .str la t2, .str tp t3]) Q E s := by
  refine names_ok (dp := callerA.depth + 1) (un := callerA.units + 3) (gd := some []) (cn := Str.ofString "law") (cs := f232.sc) (a := 232) (ccd := .ref 231) (cl := cellsFrom (L + 1) f232.sc.names []) (outer := []) (A₀ := callerA) (base := h₀) (gr := gr) (fu := fu) (gl := gl) (below_caller h₀) S.st.F X S.st.N T rfl b.hx b.hl b.ht b.hg b.hf b.hgl b.u1 b.u2 b.u3 b.d1 b.d2 b.d3 b.d4 b.d5 b.d6 b.d7 b.e1 b.e2 b.e3 b.e4 b.e5 b.e6 b.e7 b.e8 b.r1 b.r2 (by decide +kernel) (by decide +kernel) ?_
  intro t h' tk' F' N'
  exact hQ _ ⟨S.st.of0 F' N', S.mv⟩
theorem step_6 (X : (K w.params).In h₀) (T : Top p lo mean mg mb h₀) (S : Now s h₀ L m ((la, listOf lt ln) :: (I, oI) :: (nu, oN) :: ledB w.params L q x dx rs rl od its n 0 tk tv (rise5 r0 r1 r2 r3 r4 w0 w1 w2 w3 w4) rA rn oA vk vn vg (some (.ref la)) vt p1 p2 tl) s) (hi : IntsAre lt.toList late) (hr : StrsAre rA.toList row) (hn : row.length = 4) (hr1 : ∀ r ∈ row, r.length = 1)
    (mt : m (Str.ofString "text") = some (.str (txtOf row) t)) (mst : m (Str.ofString "steps") = some (.int st ts)) (mr : m (Str.ofString "rings") = some (.int R0 tr)) (ml : m (Str.ofString "tail") = some (.str tail t1)) (mtp : m (Str.ofString "top") = some (.str tp t2))
    (h11 : late = [] → R0 + 2 * st = 5 ∧ BareOk row tail ∧ ∃ gr fu gl, NamesOk (txtOf row) r4 tp gr fu gl)
    (hdone : ∀ s', Now s h₀ L m ((la, listOf lt ln) :: (I, oI) :: (nu, oN) :: ledB w.params L q x dx rs rl od its n 0 tk tv (rise5 r0 r1 r2 r3 r4 w0 w1 w2 w3 w4) rA rn oA vk vn vg (some (.ref la)) vt p1 p2 tl) s' → Q (.ret (.bool true)) s')
    (hQ : late ≠ [] → ∀ s', Now s h₀ L m ((la, listOf lt ln) :: (I, oI) :: (nu, oN) :: ledB w.params L q x dx rs rl od its n 0 tk tv (rise5 r0 r1 r2 r3 r4 w0 w1 w2 w3 w4) rA rn oA vk vn vg (some (.ref la)) vt p1 p2 tl) s' → RestS w L Q E 12 s') : RestS w L Q E 11 s := by
  refine ⟨?_⟩
  show wpAny _ _ (execs (Stmt.If _ _ _ _ :: List.drop 12 bodyS) _) _ _ _
  refine wpAny_execs_cons ?_
  refine wpAny_If ?_
  refine wpAny_isTrue_Compare1 ?_
  refine eC (env := lenv L) (q := q 8) S (lk_late L) (by k_mem) ?_
  refine List_ ?_
  refine spl0 ?_
  refine nList (env := lenv L) S (Nat.zero_le _) ?_
  intro D3 s1 S
  refine ke_eq_ints (xs := lt.toList) (ys := []) (S.isL (o := listOf lt ln) (by k_mem) LO.mk') (S.isL (o := listOf #[] 0) (.head _) LO.mk') hi .nil (by show callerA.units + 3 + 64 < cLine; decide +kernel) ?_
  refine truthy_b ?_
  have S := S.pick (.drop .all)
  by_cases hl : late = []
  · obtain ⟨h5, hb, gr, fu, gl, hnm⟩ := h11 hl
    rw [if_pos (by simpa using hl)]
    refine wpAny_execs_cons ?_
    refine wpAny_Return_some ?_
    refine BoolOp_and ?_
    refine wpAny_Compare1 ?_
    refine wpAny_BinOp ?_
    refine eL (env := lenv L) S mr ?_
    refine wpAny_BinOp ?_
    refine nInt (env := lenv L) S ?_
    intro _ s2 S
    refine eL (env := lenv L) S mst ?_
    refine nMul (env := lenv L) S (IntMulOk.of_left (by decide +kernel)) ?_
    intro _ s3 S
    refine nAdd (env := lenv L) S ?_
    intro _ s4 S
    refine nInt (env := lenv L) S ?_
    intro _ s5 S
    refine eq_int ?_
    rw [h5]
    refine truthy_b ?_
    rw [if_pos (by decide)]
    refine BoolOp_and ?_
    refine Call_Name (trees := _) rfl ?_
    refine ldK (v := .ref 222) (by kernel_rfl) rfl (by decide) X T S.st ?_
    refine callWith_K (K := K w.params) (h₀ := h₀) X (by kernel_rfl) ?_
    refine spl ?_
    refine eC (env := lenv L) (q := q 3) S (lk_row L) (by k_mem) ?_
    refine spl ?_
    refine eL (env := lenv L) S ml ?_
    refine spl0 ⟨X.keeps S.st.F.keep, ?_⟩
    refine bareCall (rn := rn) X T S (by k_mem) hr hn hr1 hb ?_
    intro s6 S
    refine truthy_b ?_
    rw [if_pos rfl]
    refine BoolOp_one ?_
    refine Call_Name (trees := _) rfl ?_
    refine ldK (v := .ref 217) (by kernel_rfl) rfl (by decide) X T S.st ?_
    refine callWith_K (K := K w.params) (h₀ := h₀) X (by kernel_rfl) ?_
    refine spl ?_
    refine eL (env := lenv L) S mt ?_
    refine spl ?_
    refine sub_gen ?_
    refine eC (env := lenv L) (q := q 4) S (lk_rising L) (by k_mem) ?_
    refine nInt (env := lenv L) S ?_
    intro _ s7 S
    refine ⟨rs, rise5 r0 r1 r2 r3 r4 w0 w1 w2 w3 w4, rfl, S.isL (o := listOf (rise5 r0 r1 r2 r3 r4 w0 w1 w2 w3 w4) 0) (by k_mem) LO.mk', ?_⟩
    refine wpAny_getItem_list (S.isL (o := listOf (rise5 r0 r1 r2 r3 r4 w0 w1 w2 w3 w4) 0) (by k_mem) LO.mk') (by decide) (by decide) rfl ?_
    refine spl ?_
    refine eL (env := lenv L) S mtp ?_
    refine spl0 ⟨X.keeps S.st.F.keep, ?_⟩
    refine namesCall X T S hnm ?_
    intro s8 S
    exact hdone s8 S
  · rw [if_neg (by simpa using hl)]
    refine wpAny_execs_nil ?_
    obtain ⟨r⟩ := hQ hl s1 S
    show wpAny (model PR w) (lawA L) (execs (bodyS.drop 12) (lenv L)) Q E _
    with_reducible exact @r
end
end Mine
end
section
open PySem PySem.W PySem.Calls PyProof.Rows Builtin
set_option maxRecDepth 100000
set_option maxHeartbeats 1000000
namespace Mine
section
variable {prog : Program} {w : World} {A : Around} {E : Value → Shared → Prop} {h₀ : Heap} {L l : Addr} {m : Str → Option Value} {s₀ s : Shared} {news : List (Addr × Obj)} {vs : List Value} {ns : List Int} {o : Obj} {M0 : Int} {Q : Value → Shared → Prop}
theorem nMin (hh : A.handled = none) (S : Now s₀ h₀ L m news s) (hm : (l, o) ∈ news) (ho : LO vs.toArray o) (hi : IntsAre vs ns) (hM : M0 ∈ ns) (hle : ∀ a ∈ ns, M0 ≤ a) (h : ∀ t s', Now s₀ h₀ L m news s' → Q (.int M0 t) s') : wpAny (model prog w) A (call (.builtin "min") [.ref l]) Q E s :=
  min_list_N hh S.st.F S.st.N (S.isL hm ho) hi (List.length_pos_of_mem hM) fun h' M t tk F N hM' hle' => by
    have e : M = M0 := Int.le_antisymm (hle' _ hM) (hle _ hM')
    subst e
    exact h t _ ⟨S.st.of0 F N, S.mv⟩
theorem nMax (hh : A.handled = none) (S : Now s₀ h₀ L m news s) (hm : (l, o) ∈ news) (ho : LO vs.toArray o) (hi : IntsAre vs ns) (hM : M0 ∈ ns) (hle : ∀ a ∈ ns, a ≤ M0) (h : ∀ t s', Now s₀ h₀ L m news s' → Q (.int M0 t) s') : wpAny (model prog w) A (call (.builtin "max") [.ref l]) Q E s :=
  max_list_N hh S.st.F S.st.N (S.isL hm ho) hi (List.length_pos_of_mem hM) fun h' M t tk F N hM' hle' => by
    have e : M = M0 := Int.le_antisymm (hle _ hM') (hle' _ hM)
    subst e
    exact h t _ ⟨S.st.of0 F N, S.mv⟩
end
/-- the four cuts of an exchange, from the numbers of the row -/
structure CutsOk (nums late : List Int) (mn gr me : Int) (a b c d : Nat) : Prop where
  lay : PyData.layable0 (.list (nums.map .int)) = true
  mn1 : mn ∈ late
  mn2 : ∀ x ∈ late, mn ≤ x
  mn3 : mn ∈ nums
  hc : nums.idxOf mn = c
  gr1 : gr ∈ nums.take c
  gr2 : ∀ x ∈ nums.take c, x ≤ gr
  gr3 : gr ∈ nums
  hb : nums.idxOf gr + 1 = b
  ha : (nums.filter fun x => decide (x < mn)).length = a
  hd0 : (nums.filter fun x => decide (x > gr)) = [] → d = 4
  hd1 : (nums.filter fun x => decide (x > gr)) ≠ [] → me ∈ (nums.filter fun x => decide (x > gr)) ∧ (∀ x ∈ (nums.filter fun x => decide (x > gr)), me ≤ x) ∧ me ∈ nums ∧ nums.idxOf me = d
section
variable {p : Program} {w : World} {lo : List Str} {mean : ExcName → Option Value} {mg mb : Str → Option Value} {E : Value → Shared → Prop} {h₀ : Heap} {L x dx rs rl od I nu la : Addr} {oI : Obj} {m : Str → Option Value} {s₀ s : Shared} {Q : Flow → Shared → Prop} {q : Nat → Obj} {its rsA rA oA p1 p2 nA lt : Array Value} {n rn nn ln : Nat} {tk tv : Tok} {vk vg vt : Option Value} {tl : List (Addr × Obj)} {nums late : List Int} {mn gr me : Int} {a b c d : Nat}
theorem step_7 (X : (K w.params).In h₀) (T : Top p lo mean mg mb h₀) (S : Now s₀ h₀ L m ((la, listOf lt ln) :: (I, oI) :: (nu, listOf nA nn) :: ledB w.params L q x dx rs rl od its n 0 tk tv rsA rA rn oA vk (some (.ref nu)) vg (some (.ref la)) vt p1 p2 tl) s) (hi : IntsAre nA.toList nums) (hn : nums.length = 4) (hl : IntsAre lt.toList late) (C : CutsOk nums late mn gr me a b c d)
    (hQ : ∀ m' s' vt' ta tb tc td, Now s₀ h₀ L m' ((I, oI) :: (nu, listOf nA nn) :: ledB w.params L q x dx rs rl od its n 0 tk tv rsA rA rn oA vk (some (.ref nu)) vg (some (.ref la)) vt' p1 p2 tl) s' → m' (Str.ofString "a") = some (.int (a : Nat) ta) → m' (Str.ofString "b") = some (.int (b : Nat) tb) → m' (Str.ofString "c") = some (.int (c : Nat) tc) → m' (Str.ofString "d") = some (.int (d : Nat) td) → (∀ y, y ∉ [Str.ofString "a", Str.ofString "b", Str.ofString "c", Str.ofString "d", Str.ofString "more"] → m' y = m y) → RestS w L Q E 18 s') : RestS w L Q E 12 s := by
  refine ⟨?_⟩
  show wpAny _ _ (execs (Stmt.Assign [Expr.Name _ _] (Expr.Call _ _ _ _) _ :: Stmt.Assign [Expr.Name _ _] (Expr.Call _ _ _ _) _ :: Stmt.Assign [Expr.Name _ _] (Expr.ListComp _ _ _ _) _ :: Stmt.Assign [Expr.Name _ _] (Expr.IfExp _ _ _ _) _ :: Stmt.Assign [Expr.Name _ _] (Expr.Call _ _ _ _) _ :: Stmt.Assign [Expr.Name _ _] (Expr.BinOp _ _ _ _) _ :: List.drop 18 bodyS) _) _ _ _
  have nz : nA.size = 4 := by rw [← Array.length_toList, IntsAre.length hi, hn]
  refine wpAny_execs_cons ?_
  refine wpAny_Assign_Name ?_
  refine MethodCall_ ?_ rfl
  refine eC (env := lenv L) (q := q 6) S (lk_numbers L) (by k_mem) ?_
  refine gmIdx (env := lenv L) S (by k_mem) ?_
  refine callWith_method1 ?_
  refine spl ?_
  refine Call_Name1 (ld_min X T S.st (PySem.callWith_builtin1 ?_))
  refine eC (env := lenv L) (q := q 8) S (lk_late L) (by k_mem) ?_
  refine nMin (vs := lt.toList) (o := listOf lt ln) rfl S (by k_mem) LO.mk' hl C.mn1 C.mn2 ?_
  intro _ s1 S
  refine spl0 ?_
  refine nIdxI (env := lenv L) (vs := nA.toList) (o := listOf nA nn) S (by k_mem) LO.mk' hi C.lay C.mn3 ?_
  intro tc s2 S
  rw [C.hc]
  refine sL (env := lenv L) S ?_
  intro s3 S
  show wpAny _ _ (execs (Stmt.Assign [Expr.Name _ _] (Expr.Call _ _ _ _) _ :: _) _) _ _ _
  refine wpAny_execs_cons ?_
  refine wpAny_Assign_Name ?_
  refine Call_Name1 (ld_max X T S.st (PySem.callWith_builtin1 ?_))
  refine nSlice (s₀ := s₀) (h₀ := h₀) ?_
  refine eC (env := lenv L) (q := q 6) S (lk_numbers L) (by k_mem) ?_
  refine evalPart_none_step ?_
  refine evalPart_some_step ?_
  refine eL (env := lenv L) (v := .int (c : Nat) tc) S (if_pos rfl) ?_
  refine ⟨nu, nA, _, none, some ((c : Nat) : Int), _, _, rfl, S, by k_mem, LO.mk', by omega, .none, .int _ _, fun sl s4 S => ?_⟩
  rw [slicePick_upto' nA c] at S
  refine nMax (vs := nA.toList.take c) (o := listOf (nA.toList.take c).toArray 0) rfl S (by k_mem) LO.mk' (hi.take c) C.gr1 C.gr2 ?_
  intro tg s5 S
  refine sC (env := lenv L) (q := q 9) S (lk_great L) (by repeat (first | exact At.head | apply At.tail)) ?_
  intro s6 S
  have S := S.pick (.drop .all)
  show wpAny _ _ (execs (Stmt.Assign [Expr.Name _ _] (Expr.ListComp _ _ _ _) _ :: _) _) _ _ _
  refine wpAny_execs_cons ?_
  refine LCt.Assign_ListComp_T (cl := [(Str.ofString "great", L + 1 + 1 + 1 + 1 + 1 + 1 + 1 + 1 + 1)]) S.st.F rfl (by with_unfolding_all rfl) (by with_unfolding_all rfl) (by decide) rfl (by decide) rfl rfl rfl ?_
  refine eC (env := lenv L) (q := q 6) S (lk_numbers L) (by k_mem) ?_
  refine LCt.CompSrcT.ledger rfl S.st.F S.st.N (by k_mem) (by rw [sizeLine_eq]; omega) fun g => ?_
  refine compT_keep (fun x t => Value.int x t) (fun x => decide (x > gr)) nums ?n ?P ?turn ?fin
  case n => rw [nz, hn]
  case P =>
    intro j v hv
    obtain ⟨z, t, e1, e2⟩ := IntsAre.at hi j v (by simpa using hv)
    exact ⟨z, t, e2, e1⟩
  case turn =>
    intro z t I2 oI2 C2 oC2 D m₂ ys h tk E' hx hC hm F N off ne
    have S8 := St.turn F N S.st.D off ne
    have nC := hC.ns (S8.get (.tail _ (.head _)))
    refine wpAny_isTrue_Compare1 ?_
    refine load_local (env := compEnvC _ _ _ _) rfl rfl nC hm (by decide) ?_
    refine wpAny_Name (wpAny_loadName_cell (env := compEnvC _ _ _ _) rfl rfl (c := L + 1 + 1 + 1 + 1 + 1 + 1 + 1 + 1 + 1) (v := .int gr tg) rfl ⟨cW (q 9) (some (.int gr tg)), S8.get (by k_mem), rfl⟩ ?_) (by decide)
    refine SiftDown.gt_int ?_
    refine truthy_b ?_
    split
    · rename_i hk
      refine load_local (env := compEnvC _ _ _ _) rfl rfl nC hm (by decide) ?_
      exact St.end' S8 (.inr ⟨_, by k_mem, rfl, _, rfl⟩) ⟨hk, rfl, _, rfl⟩
    · rename_i hk
      exact St.end' S8 (.inr ⟨_, by k_mem, rfl, _, rfl⟩) ⟨Bool.eq_false_iff.mpr hk, rfl⟩
  case fin =>
    intro ym hym mo h tk2 F N o1
    have S : Now s₀ h₀ (lenv L).locals _ _ { s6 with heap := h, toks := tk2 } := ⟨S.st.of F N (off1_all o1), S.mv⟩
    have hmo := vals_ints hym
    show wpAny _ _ (execs (Stmt.Assign [Expr.Name _ _] (Expr.IfExp _ _ _ _) _ :: _) _) _ _ _
    refine wpAny_execs_cons ?_
    refine wpAny_Assign_Name ?_
    have rest : ∀ td s7, Now s₀ h₀ (lenv L).locals (fun y => if y = Str.ofString "more" then some (Value.ref mo) else if y = Str.ofString "c" then some (.int (c : Nat) tc) else m y) ((mo, LCg.lst ym) :: (la, listOf lt ln) :: (I, oI) :: (nu, listOf nA nn) :: ledB w.params L q x dx rs rl od its n 0 tk tv rsA rA rn oA vk (some (.ref nu)) vg (some (.ref la)) (some (.int gr tg)) p1 p2 tl) s7 →
        wpAny (model PR w) (lawA L) (storeName (lenv L) (Str.ofString "d") (.int (d : Nat) td)) (fun _ s' => wpAny (model PR w) (lawA L) (execs (bodyS.drop 16) (lenv L)) Q E s') E s7 := by
      intro td s7 S
      refine sL (env := lenv L) S ?_
      intro s8 S
      show wpAny _ _ (execs (Stmt.Assign [Expr.Name _ _] (Expr.Call _ _ _ _) _ :: Stmt.Assign [Expr.Name _ _] (Expr.BinOp _ _ _ _) _ :: List.drop 18 bodyS) _) _ _ _
      refine wpAny_execs_cons ?_
      refine wpAny_Assign_Name ?_
      refine Call_Name1 (ld_len X T S.st (PySem.callWith_builtin1 ?_))
      refine LCt.ListComp_T (F₀ := S.st.F) (cl := [(Str.ofString "late", L + 1 + 1 + 1 + 1 + 1 + 1 + 1 + 1)]) (by with_unfolding_all rfl) (by decide) rfl (by decide) rfl ?_
      refine eC (env := lenv L) (q := q 6) S (lk_numbers L) (by k_mem) ?_
      refine LCt.CompSrcT.ledger rfl S.st.F S.st.N (by k_mem) (by rw [sizeLine_eq]; omega) fun g => ?_
      refine compT_keep (fun x t => Value.int x t) (fun x => decide (x < mn)) nums ?n ?P ?turn ?fin
      case n => rw [nz, hn]
      case P =>
        intro j v hv
        obtain ⟨z, t, e1, e2⟩ := IntsAre.at hi j v (by simpa using hv)
        exact ⟨z, t, e2, e1⟩
      case turn =>
        intro z t I2 oI2 C2 oC2 D m₂ ys h tk E' hx hC hm F N off ne
        have S8 := St.turn F N S.st.D off ne
        have nC := hC.ns (S8.get (.tail _ (.head _)))
        refine wpAny_isTrue_Compare1 ?_
        refine load_local (env := compEnvC _ _ _ _) rfl rfl nC hm (by decide) ?_
        refine Call_Name1 ?_
        refine load_builtin (env := compEnvC _ _ _ _) (v := .builtin "min") rfl rfl (T.g.keeps S8.F.keep) (mg_none_of X T.g (by kernel_rfl)) (T.b.keeps S8.F.keep) ((T.builtins _ (by decide)).trans (by kernel_rfl)) (by decide) ?_
        refine PySem.callWith_builtin1 ?_
        refine wpAny_Name (wpAny_loadName_cell (env := compEnvC _ _ _ _) rfl rfl (c := L + 1 + 1 + 1 + 1 + 1 + 1 + 1 + 1) (v := .ref la) rfl ⟨cW (q 8) (some (.ref la)), S8.get (by k_mem), rfl⟩ ?_) (by decide)
        refine nMin (s₀ := { s8 with heap := h, toks := tk }) (vs := lt.toList) (o := listOf lt ln) rfl ⟨S8, Mv.refl _⟩ (by k_mem) LO.mk' hl C.mn1 C.mn2 ?_
        intro _ s9 S9
        refine wpAny_lt_int ?_
        refine truthy_b ?_
        have e9 : s9 = { ({ s8 with heap := g } : Shared) with heap := s9.heap, toks := s9.toks } := Mv.to ⟨S9.mv.1, S9.mv.2.1, S9.mv.2.2⟩
        split
        · rename_i hk
          refine load_local (env := compEnvC _ _ _ _) rfl rfl (hC.ns (S9.st.get (.tail _ (.head _)))) hm (by decide) ?_
          rw [e9]
          exact St.end' S9.st (.inr ⟨_, by k_mem, rfl, _, rfl⟩) ⟨hk, rfl, _, rfl⟩
        · rename_i hk
          rw [e9]
          exact St.end' S9.st (.inr ⟨_, by k_mem, rfl, _, rfl⟩) ⟨Bool.eq_false_iff.mpr hk, rfl⟩
      case fin =>
        intro ya hya D h tk2 F N o1
        have S : Now s₀ h₀ (lenv L).locals _ _ { s8 with heap := h, toks := tk2 } := ⟨S.st.of F N (off1_all o1), S.mv⟩
        have hyl := IntsAre.length (vals_ints hya)
        have hyz : ya.length ≤ 4 := by rw [hyl, ← hn]; exact List.length_filter_le _ _
        refine nLen (env := lenv L) (o := LCg.lst ya) (its := ya.toArray) S (by k_mem) ⟨rfl, _, rfl⟩ (by rw [List.size_toArray]; omega) ?_
        intro ta s9 S
        rw [List.size_toArray, hyl, C.ha]
        refine sL (env := lenv L) S ?_
        intro s10 S
        show wpAny _ _ (execs (Stmt.Assign [Expr.Name _ _] (Expr.BinOp _ _ _ _) _ :: List.drop 18 bodyS) _) _ _ _
        refine wpAny_execs_cons ?_
        refine wpAny_Assign_Name ?_
        refine wpAny_BinOp ?_
        refine MethodCall_ ?_ rfl
        refine eC (env := lenv L) (q := q 6) S (lk_numbers L) (by k_mem) ?_
        refine gmIdx (env := lenv L) S (by k_mem) ?_
        refine callWith_method1 ?_
        refine spl ?_
        refine eC (env := lenv L) (q := q 9) S (lk_great L) (by k_mem) ?_
        refine spl0 ?_
        refine nIdxI (env := lenv L) (vs := nA.toList) (o := listOf nA nn) S (by k_mem) LO.mk' hi C.lay C.gr3 ?_
        intro _ s11 S
        refine nInt (env := lenv L) S ?_
        intro _ s12 S
        refine nAdd (env := lenv L) S ?_
        intro tb s13 S
        rw [show ((nums.idxOf gr : Nat) : Int) + 1 = ((b : Nat) : Int) by rw [← C.hb]; omega]
        refine sL (env := lenv L) S ?_
        intro s14 S
        obtain ⟨r⟩ := hQ _ s14 (some (.int gr tg)) ta tb tc td (S.pick (.drop (.drop (.drop .all)))) (by rw [if_neg (by decide), if_pos rfl]) (if_pos rfl) (by rw [if_neg (by decide), if_neg (by decide), if_neg (by decide), if_neg (by decide), if_pos rfl]) (by rw [if_neg (by decide), if_neg (by decide), if_pos rfl]) (fun y hy => by
          simp only [List.mem_cons, List.not_mem_nil, or_false, not_or] at hy
          obtain ⟨n1, n2, n3, n4, n5⟩ := hy
          rw [if_neg n2, if_neg n1, if_neg n4, if_neg n5, if_neg n3])
        show wpAny (model PR w) (lawA L) (execs (bodyS.drop 18) (lenv L)) Q E _
        with_reducible exact @r
    refine IfExp_ ?_
    refine wpAny_isTrue_Compare1 ?_
    refine eL (env := lenv L) (v := .ref mo) S (if_pos rfl) ?_
    refine List_ ?_
    refine spl0 ?_
    refine nList (env := lenv L) S (Nat.zero_le _) ?_
    intro D3 s7 S
    refine ke_ne_ints (xs := ym) (ys := []) (S.isL (o := LCg.lst ym) (by k_mem) ⟨rfl, _, rfl⟩) (S.isL (o := listOf #[] 0) (.head _) LO.mk') hmo .nil (by show callerA.units + 3 + 64 < cLine; decide +kernel) ?_
    refine truthy_b ?_
    have S := S.pick (.drop .all)
    by_cases he : (nums.filter fun x => decide (x > gr)) = []
    · rw [if_neg (by simp [he])]
      refine nInt (env := lenv L) S ?_
      intro td s8 S
      have hd := C.hd0 he
      rw [show (4 : Int) = ((d : Nat) : Int) by rw [hd]; rfl]
      exact rest td s8 S
    · rw [if_pos (by simpa using he)]
      obtain ⟨m1, m2, m3, m4⟩ := C.hd1 he
      refine MethodCall_ ?_ rfl
      refine eC (env := lenv L) (q := q 6) S (lk_numbers L) (by k_mem) ?_
      refine gmIdx (env := lenv L) S (by k_mem) ?_
      refine callWith_method1 ?_
      refine spl ?_
      refine Call_Name1 (ld_min X T S.st (PySem.callWith_builtin1 ?_))
      refine eL (env := lenv L) (v := .ref mo) S (if_pos rfl) ?_
      refine nMin (vs := ym) (o := LCg.lst ym) rfl S (by k_mem) ⟨rfl, _, rfl⟩ hmo m1 m2 ?_
      intro _ s8 S
      refine spl0 ?_
      refine nIdxI (env := lenv L) (vs := nA.toList) (o := listOf nA nn) S (by k_mem) LO.mk' hi C.lay m3 ?_
      intro td s9 S
      rw [m4]
      exact rest td s9 S
end
end Mine
end
section
open PySem PySem.W PySem.Calls PyProof.Rows Builtin
set_option maxRecDepth 100000
set_option maxHeartbeats 1000000
namespace Mine
theorem strs_take {vs : List Value} {xs : List Str} (h : StrsAre vs xs) : ∀ k, StrsAre (vs.take k) (xs.take k) := by
  induction h with
  | nil => intro k; rw [List.take_nil, List.take_nil]; exact .nil
  | cons x t h ih => intro k; cases k with
    | zero => exact .nil
    | succ k => exact .cons x t (ih k)
theorem strs_drop {vs : List Value} {xs : List Str} (h : StrsAre vs xs) : ∀ k, StrsAre (vs.drop k) (xs.drop k) := by
  induction h with
  | nil => intro k; rw [List.drop_nil, List.drop_nil]; exact .nil
  | cons x t h ih => intro k; cases k with
    | zero => exact .cons x t h
    | succ k => exact ih k
section
variable {p : Program} {w : World} {lo : List Str} {mean : ExcName → Option Value} {mg mb : Str → Option Value} {E : Value → Shared → Prop} {h₀ : Heap} {L x dx rs rl od I nu : Addr} {oI oN : Obj} {m : Str → Option Value} {s₀ s : Shared} {Q : Flow → Shared → Prop} {q : Nat → Obj} {its rsA rA oA p1 p2 : Array Value} {n rn : Nat} {tk tv ta tb tc td : Tok} {vk vn vg vl vt : Option Value} {tl : List (Addr × Obj)} {row : List Str} {a b c d : Nat}
theorem len_ap {α : Type} {l r : List α} {A B : Nat} (h1 : l.length ≤ A) (h2 : r.length ≤ B) : (l ++ r).length ≤ A + B := List.length_append ▸ Nat.add_le_add h1 h2
theorem len_t {α : Type} {l : List α} {n : Nat} (h : l.length = n) (k : Nat) : (l.take k).length ≤ n := h ▸ List.length_take_le' k l
theorem len_td {α : Type} {l : List α} {n : Nat} (h : l.length = n) (c k : Nat) : ((l.drop c).take k).length ≤ n := Nat.le_trans (List.length_take_le' k _) (h ▸ (List.length_drop ▸ Nat.sub_le _ _))
theorem len_d {α : Type} {l : List α} {n : Nat} (h : l.length = n) (c : Nat) : (l.drop c).length ≤ n := h ▸ (List.length_drop ▸ Nat.sub_le _ _)
theorem sz_le {l r : List Value} {A B C : Nat} (h1 : l.length ≤ A) (h2 : r.length ≤ B) (h : A + B ≤ C) : l.toArray.size + r.toArray.size ≤ C := Nat.le_trans (Nat.add_le_add h1 h2) h
theorem step_8 (X : (K w.params).In h₀) (T : Top p lo mean mg mb h₀) (S : Now s₀ h₀ L m ((I, oI) :: (nu, oN) :: ledB w.params L q x dx rs rl od its n 0 tk tv rsA rA rn oA vk vn vg vl vt p1 p2 tl) s) (c1 : oI.cls ≠ .type "tuple") (c2 : oN.cls ≠ .type "tuple") (hp : Pcs tl its.toList (dots row)) (hr : StrsAre rA.toList row) (hn : row.length = 4)
    (ma : m (Str.ofString "a") = some (.int (a : Nat) ta)) (mb' : m (Str.ofString "b") = some (.int (b : Nat) tb)) (mc : m (Str.ofString "c") = some (.int (c : Nat) tc)) (md : m (Str.ofString "d") = some (.int (d : Nat) td)) (h01 : a < b) (h12 : b ≤ c) (h23 : c < d) (h3 : d ≤ 4)
    (hQ : ∀ s' its' n' rl' rA' rn' tl', Now s₀ h₀ L m ((I, oI) :: ledB w.params L q x dx rs rl' od its' n' 0 tk tv rsA rA' rn' oA vk vn vg vl vt p1 p2 tl') s' → Pcs tl' its'.toList (dots (exchR row a b c d)) → StrsAre rA'.toList (exchR row a b c d) → Q .next s') : RestS w L Q E 18 s := by
  have hA : rA.toList.length = 4 := (strs_len hr).trans hn
  refine ⟨?_⟩
  show wpAny _ _ (execs (Stmt.If _ _ _ _ :: Stmt.Assign [Expr.Name _ _] (Expr.BinOp _ _ _ _) _ :: []) _) _ _ _
  have rz : rA.size = 4 := by rw [← Array.length_toList, strs_len hr, hn]
  refine wpAny_execs_cons ?_
  refine wpAny_If ?_
  refine isTrue_not ?_
  refine isTrue_plain ?_
  refine Call_Name (trees := _) rfl ?_
  refine ldK (v := .ref 227) (by kernel_rfl) rfl (by decide) X T S.st ?_
  refine callWith_K (K := K w.params) (h₀ := h₀) X (by kernel_rfl) ?_
  refine spl ?_
  refine eC (env := lenv L) (q := q 5) S (lk_pile L) (by k_mem) ?_
  refine spl ?_
  refine List_ ?_
  refine spl ?_
  refine eL (env := lenv L) S ma ?_
  refine spl ?_
  refine eL (env := lenv L) S mb' ?_
  refine spl ?_
  refine eL (env := lenv L) S mc ?_
  refine spl ?_
  refine eL (env := lenv L) S md ?_
  refine spl0 ?_
  refine nList (env := lenv L) S (Nat.le_of_ble_eq_true rfl) ?_
  intro ca s1 S
  refine spl0 ⟨X.keeps S.st.F.keep, ?_⟩
  refine exchange_ok (dp := callerA.depth + 1) (un := callerA.units + 3) (gd := some []) (cn := Str.ofString "law") (cs := f232.sc) (a := 232) (ccd := .ref 231) (cl := cellsFrom (L + 1) f232.sc.names []) (outer := []) (A₀ := callerA) (base := h₀) (x := x) (dx := dx) (ca := ca) (its := its) (n := n) (k := 0) (tk := tk) (tv := tv) (ps := dots row)
    (nx := fun its' n' => (ca, listOf [Value.int (a : Nat) ta, .int (b : Nat) tb, .int (c : Nat) tc, .int (d : Nat) td].toArray 0) :: (I, oI) :: (nu, oN) :: ledB w.params L q x dx rs rl od its' n' 0 tk tv rsA rA rn oA vk vn vg vl vt p1 p2 tl)
    (below_caller h₀) S.st X T rfl (by k_mem) (.head _) (fun _ _ => by repeat (first | exact At.head | apply At.tail)) (hp.mono fun _ _ _ _ _ h => by repeat (first | exact h | apply List.Mem.tail)) (by rw [List.length_map]; exact hn) h01 h12 h23 h3 (by decide +kernel) (by decide +kernel) ?_
  intro its2 n2 new h2' tk2 S2 hp2
  have S : Now s₀ h₀ L m _ { s1 with heap := h2', toks := tk2 } := ⟨S2, S.mv⟩
  refine truthy_b ?_
  rw [if_neg (by decide)]
  refine wpAny_execs_nil ?_
  rw [exch_dots] at hp2
  have hp3 : Pcs (new ++ tl) its2.toList (dots (exchR row a b c d)) := Pcs.inTl (own := [(ca, listOf [Value.int (a : Nat) ta, .int (b : Nat) tb, .int (c : Nat) tc, .int (d : Nat) td].toArray 0), (I, oI), (nu, oN)]) (fun p hp => by
    simp only [List.mem_cons, List.not_mem_nil, or_false] at hp
    rcases hp with rfl | rfl | rfl
    · exact (show Value.type "list" ≠ Value.type "tuple" by decide)
    · exact c1
    · exact c2) hp2
  have S := Now.sinkB (new := new) (own := (ca, listOf [Value.int (a : Nat) ta, .int (b : Nat) tb, .int (c : Nat) tc, .int (d : Nat) td].toArray 0) :: (I, oI) :: [(nu, oN)]) ⟨S.st.perm (List.perm_append_comm_assoc new ((ca, listOf [Value.int (a : Nat) ta, .int (b : Nat) tb, .int (c : Nat) tc, .int (d : Nat) td].toArray 0) :: (I, oI) :: [(nu, oN)]) _), S.mv⟩
  have S := S.pick (news' := (I, oI) :: ledB w.params L q x dx rs rl od its2 n2 0 tk tv rsA rA rn oA vk vn vg vl vt p1 p2 (new ++ tl)) (.drop (.cons .here (.drop .all)))
  clear hp2 S2
  show wpAny _ _ (execs (Stmt.Assign [Expr.Name _ _] (Expr.BinOp _ _ _ _) _ :: []) _) _ _ _
  refine wpAny_execs_cons ?_
  refine wpAny_Assign_Name ?_
  refine wpAny_BinOp ?_
  refine wpAny_BinOp ?_
  refine wpAny_BinOp ?_
  refine wpAny_BinOp ?_
  refine nSlice (s₀ := s₀) (h₀ := h₀) ?_
  refine eC (env := lenv L) (q := q 3) S (lk_row L) (by k_mem) ?_
  refine evalPart_none_step ?_
  refine evalPart_some_step ?_
  refine eL (env := lenv L) S ma ?_
  refine ⟨rl, rA, _, none, some ((a : Nat) : Int), _, _, rfl, S, by k_mem, LO.mk', by omega, .none, .int _ _, fun l1 s2 S => ?_⟩
  rw [slicePick_upto' rA a] at S
  refine nSlice (s₀ := s₀) (h₀ := h₀) ?_
  refine eC (env := lenv L) (q := q 3) S (lk_row L) (by k_mem) ?_
  refine evalPart_some_step ?_
  refine eL (env := lenv L) S mc ?_
  refine evalPart_some_step ?_
  refine eL (env := lenv L) S md ?_
  refine ⟨rl, rA, _, some ((c : Nat) : Int), some ((d : Nat) : Int), _, _, rfl, S, by k_mem, LO.mk', by omega, .int _ _, .int _ _, fun l2 s3 S => ?_⟩
  rw [slicePick_run rA c d (by omega) (by omega)] at S
  refine nCatL (env := lenv L) (l := l1) (r := l2) (n := 0) (n2 := 0) (its := (rA.toList.take a).toArray) (its2 := ((rA.toList.drop c).take (d - c)).toArray) S (by k_mem) (by k_mem) (sz_le (len_t hA a) (len_td hA c _) (by decide)) ?_
  intro l3 s4 S
  have S := S.pick (.cons .here (.drop (.drop .all)))
  have g3 : StrsAre ((rA.toList.take a).toArray.toList ++ ((rA.toList.drop c).take (d - c)).toArray.toList) (row.take a ++ (row.drop c).take (d - c)) := strs_app (strs_take hr a) (strs_take (strs_drop hr c) (d - c))
  generalize (rA.toList.take a).toArray.toList ++ ((rA.toList.drop c).take (d - c)).toArray.toList = v3 at S g3
  have z3 : v3.length ≤ 8 := Nat.le_trans (Nat.le_of_eq (strs_len g3)) (len_ap (len_t hn a) (len_td hn c _))
  refine nSlice (s₀ := s₀) (h₀ := h₀) ?_
  refine eC (env := lenv L) (q := q 3) S (lk_row L) (by k_mem) ?_
  refine evalPart_some_step ?_
  refine eL (env := lenv L) S mb' ?_
  refine evalPart_some_step ?_
  refine eL (env := lenv L) S mc ?_
  refine ⟨rl, rA, _, some ((b : Nat) : Int), some ((c : Nat) : Int), _, _, rfl, S, by k_mem, LO.mk', by omega, .int _ _, .int _ _, fun l4 s5 S => ?_⟩
  rw [slicePick_run rA b c (by omega) (by omega)] at S
  refine nCatL (env := lenv L) (l := l3) (r := l4) (n := 0) (n2 := 0) (its := v3.toArray) (its2 := ((rA.toList.drop b).take (c - b)).toArray) S (by k_mem) (by k_mem) (sz_le z3 (len_td hA b _) (by decide)) ?_
  intro l5 s6 S
  have S := S.pick (.cons .here (.drop (.drop .all)))
  have g5 : StrsAre (v3.toArray.toList ++ ((rA.toList.drop b).take (c - b)).toArray.toList) (row.take a ++ (row.drop c).take (d - c) ++ (row.drop b).take (c - b)) := strs_app g3 (strs_take (strs_drop hr b) (c - b))
  generalize v3.toArray.toList ++ ((rA.toList.drop b).take (c - b)).toArray.toList = v5 at S g5
  have z5 : v5.length ≤ 12 := Nat.le_trans (Nat.le_of_eq (strs_len g5)) (len_ap (len_ap (len_t hn a) (len_td hn c _)) (len_td hn b _))
  refine nSlice (s₀ := s₀) (h₀ := h₀) ?_
  refine eC (env := lenv L) (q := q 3) S (lk_row L) (by k_mem) ?_
  refine evalPart_some_step ?_
  refine eL (env := lenv L) S ma ?_
  refine evalPart_some_step ?_
  refine eL (env := lenv L) S mb' ?_
  refine ⟨rl, rA, _, some ((a : Nat) : Int), some ((b : Nat) : Int), _, _, rfl, S, by k_mem, LO.mk', by omega, .int _ _, .int _ _, fun l6 s7 S => ?_⟩
  rw [slicePick_run rA a b (by omega) (by omega)] at S
  refine nCatL (env := lenv L) (l := l5) (r := l6) (n := 0) (n2 := 0) (its := v5.toArray) (its2 := ((rA.toList.drop a).take (b - a)).toArray) S (by k_mem) (by k_mem) (sz_le z5 (len_td hA a _) (by decide)) ?_
  intro l7 s8 S
  have S := S.pick (.cons .here (.drop (.drop .all)))
  have g7 : StrsAre (v5.toArray.toList ++ ((rA.toList.drop a).take (b - a)).toArray.toList) (row.take a ++ (row.drop c).take (d - c) ++ (row.drop b).take (c - b) ++ (row.drop a).take (b - a)) := strs_app g5 (strs_take (strs_drop hr a) (b - a))
  generalize v5.toArray.toList ++ ((rA.toList.drop a).take (b - a)).toArray.toList = v7 at S g7
  have z7 : v7.length ≤ 16 := Nat.le_trans (Nat.le_of_eq (strs_len g7)) (len_ap (len_ap (len_ap (len_t hn a) (len_td hn c _)) (len_td hn b _)) (len_td hn a _))
  refine nSlice (s₀ := s₀) (h₀ := h₀) ?_
  refine eC (env := lenv L) (q := q 3) S (lk_row L) (by k_mem) ?_
  refine evalPart_some_step ?_
  refine eL (env := lenv L) S md ?_
  refine evalPart_none_step ?_
  refine ⟨rl, rA, _, some ((d : Nat) : Int), none, _, _, rfl, S, by k_mem, LO.mk', by omega, .int _ _, .none, fun l8 s9 S => ?_⟩
  rw [slicePick_from' rA d] at S
  refine nCatL (env := lenv L) (l := l7) (r := l8) (n := 0) (n2 := 0) (its := v7.toArray) (its2 := (rA.toList.drop d).toArray) S (by k_mem) (by k_mem) (sz_le z7 (len_d hA d) (by decide)) ?_
  intro l9 s10 S
  have S := S.pick (.cons .here (.drop (.drop .all)))
  have g9 : StrsAre (v7.toArray.toList ++ (rA.toList.drop d).toArray.toList) (exchR row a b c d) := by
    unfold exchR
    rw [List.drop_take, List.drop_take, List.drop_take]
    exact strs_app g7 (strs_drop hr d)
  generalize v7.toArray.toList ++ (rA.toList.drop d).toArray.toList = v9 at S g9
  refine sC (env := lenv L) (q := q 3) S (lk_row L) (by repeat (first | exact At.head | apply At.tail)) ?_
  intro s11 S
  refine wpAny_execs_nil ?_
  exact hQ s11 its2 n2 l9 v9.toArray 0 (new ++ tl) (S.pick (.cons (.there .here) (.cons (.there .here) (.cons (.there .here) (.cons (.there .here) (.cons .here (.drop .all))))))) hp3 g9
end
end Mine
end
section
open PySem PySem.W PySem.Calls PyProof.Rows Builtin
set_option maxRecDepth 100000
set_option maxHeartbeats 1000000
namespace Mine
inductive Led6 (mk tail r0 r1 r2 r3 r4 : Str) (R0 st : Int) (row : List Str) : Prop
  | mk (ls : List Int) (o0 o1 o2 o3 o4 : Int) (h1 : LeadOk (txtOf row) mk tail r0 r1 r2 r3 r4 ls) (h2 : Good5 ls) (h3 : (List.range 5).map (ownF [r0, r1, r2, r3, r4] (Str.ofString "" :: row)) = [o0, o1, o2, o3, o4])
    (h4 : st = 0 → ls = [o0, o1, o2, o3, o4] ∧ besideF (txtOf row) r1 r2 r3 r4 o0 o1 o2 o3 o4 = true) (h5 : ringsF ls = R0 + 2 * st) : Led6 mk tail r0 r1 r2 r3 r4 R0 st row
inductive CutStep (nums late : List Int) (R : Nat → Nat → Nat → Nat → Prop) : Prop
  | mk (mn gr me : Int) (a b c d : Nat) (C : CutsOk nums late mn gr me a b c d) (h1 : a < b) (h2 : b ≤ c) (h3 : c < d) (h4 : d ≤ 4) (h5 : R a b c d) : CutStep nums late R
/-- what the law asks of the row of a step -/
structure RowOk (mk tail tp r0 r1 r2 r3 r4 : Str) (R0 st : Int) (row : List Str) : Prop where
  n : row.length = 4
  r1' : ∀ r ∈ row, r.length = 1
  ro : ∀ r ∈ row, r ∈ ordL
  read : readF (txtOf row) tp = row
  htp : tp.length ≤ 100
  hin : ∀ k < 5, [r0, r1, r2, r3, r4].getD ((k + 1) % 5) (Str.ofString "") ∈ Str.ofString "" :: row
  hpr : ∀ k < 5, prevF [r0, r1, r2, r3, r4] (Str.ofString "" :: row) k ∈ [r0, r1, r2, r3, r4]
  lead : Led6 mk tail r0 r1 r2 r3 r4 R0 st row
  fin : lateF (row.map tokF) 4 = [] → R0 + 2 * st = 5 ∧ BareOk row tail ∧ ∃ gr fu gl, NamesOk (txtOf row) r4 tp gr fu gl
/-- the rows of the steps that are left -/
noncomputable def Road (mk tail tp r0 r1 r2 r3 r4 : Str) (R0 : Int) : Nat → Int → List Str → Prop
  | 0, _, _ => False
  | k + 1, st, row => RowOk mk tail tp r0 r1 r2 r3 r4 R0 st row ∧ (lateF (row.map tokF) 4 ≠ [] → CutStep (row.map tokF) (lateF (row.map tokF) 4) fun a b c d => Road mk tail tp r0 r1 r2 r3 r4 R0 k (st + 1) (exchR row a b c d))
theorem RestS.run0 {w : World} {L : Addr} {Q : Flow → Shared → Prop} {E : Value → Shared → Prop} {s : Shared} (h : RestS w L Q E 0 s) : wpAny (model PR w) (lawA L) (execs bodyS (lenv L)) Q E s := h.run
section
variable {p : Program} {w : World} {lo : List Str} {mean : ExcName → Option Value} {mg mb : Str → Option Value} {E : Value → Shared → Prop} {h₀ : Heap} {L x dx rs rl od : Addr} {m : Str → Option Value} {s : Shared} {Q : Flow → Shared → Prop} {q : Nat → Obj} {its rA oA p1 p2 : Array Value} {n rn : Nat} {tk tv t1 t2 t3 t4 : Tok} {vk vn vg vl vt : Option Value} {tl : List (Addr × Obj)} {os : OsState} {row : List Str} {r0 r1 r2 r3 r4 mk tail tp : Str} {w0 w1 w2 w3 w4 : Tok} {R0 : Int}
inductive J9 (w : World) (L : Addr) (q : Nat → Obj) (x dx rs od : Addr) (mk tail tp r0 r1 r2 r3 r4 : Str) (w0 w1 w2 w3 w4 t1 t2 t3 t4 : Tok) (R0 : Int) (oA : Array Value) (os : OsState) (i : Nat) (m' : Str → Option Value) (news : List (Addr × Obj)) (t : Shared) : Prop
  | mk (row : List Str) (its : Array Value) (n : Nat) (tk tv : Tok) (rl : Addr) (rA : Array Value) (rn : Nat) (vk vn vg vl vt : Option Value) (p1 p2 : Array Value) (tl : List (Addr × Obj)) (e : news = ledB w.params L q x dx rs rl od its n 0 tk tv (rise5 r0 r1 r2 r3 r4 w0 w1 w2 w3 w4) rA rn oA vk vn vg vl vt p1 p2 tl) (h1 : Pcs tl its.toList (dots row)) (h2 : StrsAre rA.toList row) (h3 : TriplesOk p1.toList) (h4 : TriplesOk p2.toList) (h5 : Road mk tail tp r0 r1 r2 r3 r4 R0 (3 - i) (i : Int) row) (h6 : Gd os t)
    (h7 : m' (Str.ofString "mark") = some (.str mk t1)) (h8 : m' (Str.ofString "tail") = some (.str tail t2)) (h9 : m' (Str.ofString "top") = some (.str tp t3)) (h10 : m' (Str.ofString "rings") = some (.int R0 t4)) : J9 w L q x dx rs od mk tail tp r0 r1 r2 r3 r4 w0 w1 w2 w3 w4 t1 t2 t3 t4 R0 oA os i m' news t
theorem law_9 (X : (K w.params).In h₀) (T : Top p lo mean mg mb h₀) (S : Now s h₀ L m (ledB w.params L q x dx rs rl od its n 0 tk tv (rise5 r0 r1 r2 r3 r4 w0 w1 w2 w3 w4) rA rn oA vk vn vg vl vt p1 p2 tl) s) (g : Gd os s) (hp : Pcs tl its.toList (dots row)) (hr : StrsAre rA.toList row) (ho : StrsAre oA.toList ordL) (h1 : TriplesOk p1.toList) (h2 : TriplesOk p2.toList)
    (mm : m (Str.ofString "mark") = some (.str mk t1)) (ml : m (Str.ofString "tail") = some (.str tail t2)) (mtp : m (Str.ofString "top") = some (.str tp t3)) (mr : m (Str.ofString "rings") = some (.int R0 t4)) (hroad : Road mk tail tp r0 r1 r2 r3 r4 R0 3 0 row)
    (hdone : ∀ s' m' news' p1' p2', St h₀ L m' news' s'.heap → (87, tabO p1') ∈ news' → (94, tabO p2') ∈ news' → TriplesOk p1'.toList → TriplesOk p2'.toList → Gd os s' → Q (.ret (.bool true)) s') : Rest w L Q E 17 s := by
  refine ⟨?_⟩
  show wpAny _ _ (execs (Stmt.For _ _ _ _ _ :: List.drop 18 f232.b) _) _ _ _
  refine wpAny_execs_cons ?_
  refine for_St_range (h₀ := h₀) (L := L) (J := fun i m' news t => J9 w L q x dx rs od mk tail tp r0 r1 r2 r3 r4 w0 w1 w2 w3 w4 t1 t2 t3 t4 R0 oA os i m' news t) rfl ?hJ (fun _ _ => rfl) (fun _ => rfl) ?_
  case hJ =>
    rintro i m' news t g' tk' ⟨row, its, n, tk, tv, rl, rA, rn, vk, vn, vg, vl, vt, p1, p2, tl, a1, a2, a3, a4, a5, a6, a7, b1, b2, b3, b4⟩
    exact ⟨row, its, n, tk, tv, rl, rA, rn, vk, vn, vg, vl, vt, p1, p2, tl, a1, a2, a3, a4, a5, a6, ⟨a7.o, a7.g⟩, b1, b2, b3, b4⟩
  refine Call_Name1 (ld_range X T S.st (callWith_type1 ?_))
  refine nInt (env := lenv L) S ?_
  intro _ s1 S
  refine nRange1 (env := lenv L) S ?_
  intro r u1 u2 u3 s2 S hrg
  refine ⟨r, 0, 3, _, _, _, 3, m, _, rfl, hrg, small_one (by decide) (by decide) (by decide) (by decide), (rangeSize_nat _ _).trans rfl, ⟨S.st, trivial, fun g' => ⟨row, its, n, tk, tv, rl, rA, rn, vk, vn, vg, vl, vt, p1, p2, tl, rfl, hp, hr, h1, h2, hroad, ⟨(g.mv S.mv).o, (g.mv S.mv).g⟩, mm, ml, mtp, mr⟩, ?_, ?_⟩⟩
  · rintro i v m1 news t tk9 I oI hi ⟨u, rfl⟩ ⟨row, its, n, tk, tv, rl, rA, rn, vk, vn, vg, vl, vt, p1, p2, tl, rfl, hp, hr, h1, h2, hroad, g, mm, ml, mtp, mr⟩ - S4 cI E'
    have hi3 : i < 3 := hi
    have S : Now { t with toks := tk9 } h₀ L m1 _ { t with toks := tk9 } := ⟨S4, Mv.refl _⟩
    have g1 : Gd os { t with toks := tk9 } := ⟨g.o, g.g⟩
    rw [show 3 - i = (2 - i) + 1 by omega] at hroad
    obtain ⟨R, hnext⟩ := hroad
    obtain ⟨ls, o0, o1, o2, o3, o4, lok, lgood, lown, l7, l8⟩ := R.lead
    rw [show (0 : Int) + (i : Int) = (i : Int) by omega]
    refine tL (env := lenv L) S ?_
    intro s3 S
    generalize hM : (fun y => if y = Str.ofString "steps" then some (Value.int (i : Int) u) else m1 y) = m2 at S
    have mst : m2 (Str.ofString "steps") = some (.int (i : Int) u) := by rw [← hM]; exact if_pos rfl
    have mo : ∀ y, y ≠ Str.ofString "steps" → m2 y = m1 y := fun y hy => by rw [← hM]; exact if_neg hy
    have g3 : Gd os s3 := g1.mv S.mv
    have mm2 := (mo _ (by decide)).trans mm
    have ml2 := (mo _ (by decide)).trans ml
    have mtp2 := (mo _ (by decide)).trans mtp
    have mr2 := (mo _ (by decide)).trans mr
    clear mo hM mm ml mtp mr S4 g g1
    refine RestS.run0 ?_
    refine step_1 X T ⟨S.st, Mv.refl _⟩ g3 hp hr R.n R.r1' h1 h2 ?_
    intro m3 s4 tt p1 p2 S g4 h1 h2 mt mo
    have mst := (mo _ (by decide)).trans mst
    have mm2 := (mo _ (by decide)).trans mm2
    have ml2 := (mo _ (by decide)).trans ml2
    have mtp2 := (mo _ (by decide)).trans mtp2
    have mr2 := (mo _ (by decide)).trans mr2
    clear mo
    refine step_2 X T S hr R.n R.r1' ho R.ro R.read R.htp mt mtp2 ?_
    intro s5 nu nA nn S hnum
    refine step_3 X T S hr R.n lok mt mm2 ml2 R.hin R.hpr ?_
    intro m4 s6 le lA ow wA rg gA S hle how mle mow mo
    have mt := (mo _ (by decide) (by decide)).trans mt
    have mst := (mo _ (by decide) (by decide)).trans mst
    have mm2 := (mo _ (by decide) (by decide)).trans mm2
    have ml2 := (mo _ (by decide) (by decide)).trans ml2
    have mtp2 := (mo _ (by decide) (by decide)).trans mtp2
    have mr2 := (mo _ (by decide) (by decide)).trans mr2
    clear mo
    rw [lown] at how
    refine step_4 X T (S.pick (.cons .here (.cons .here (.cons .here (.cons (.there .here) (.drop .all)))))) R.n R.r1' lok.hr hle how lgood mt mst mr2 mle mow l7 l8 ⟨by omega, by omega⟩ ?_
    intro s7 S
    refine step_5 X T S hnum (by rw [List.length_map]; exact R.n) ?_
    intro s8 la lt ln vk' S hlt
    have g8 : Gd os s8 := g4.mv S.mv
    refine step_6 X T ⟨S.st, Mv.refl _⟩ hlt hr R.n R.r1' mt mst mr2 ml2 mtp2 R.fin ?_ ?_
    · intro s9 S
      exact hdone s9 _ _ p1 p2 S.st (by k_mem) (by k_mem) h1 h2 (g8.mv S.mv)
    · intro hne s9 S
      obtain ⟨mn, gr, me, a, b, c, d, hC, e1, e2, e3, e4, hR⟩ := hnext hne
      refine step_7 X T S hnum (by rw [List.length_map]; exact R.n) hlt hC ?_
      intro m5 s10 vt' ta tb tc td S ma mb mc md mo
      refine step_8 X T S cI (show Value.type "list" ≠ Value.type "tuple" by decide) hp hr R.n ma mb mc md e1 e2 e3 e4 ?_
      intro s11 its' n' rl' rA' rn' tl' S hp' hr'
      refine ⟨m5, _, S.st, ⟨_, _, _, _, _, _, _, _, _, _, _, _, _, _, _, _, rfl, hp', hr', h1, h2, ?_, g8.mv S.mv, (mo _ (by decide)).trans mm2, (mo _ (by decide)).trans ml2, (mo _ (by decide)).trans mtp2, (mo _ (by decide)).trans mr2⟩, trivial⟩
      rw [show 3 - (i + 1) = 2 - i by omega, show ((i + 1 : Nat) : Int) = (i : Int) + 1 by omega]
      exact hR
  · rintro m' news t tk9 ⟨row, its, n, tk, tv, rl, rA, rn, vk, vn, vg, vl, vt, p1, p2, tl, a1, a2, a3, a4, a5, a6, a7, b1, b2, b3, b4⟩ S'
    exact a6.elim
end
end Mine
end
section
open PySem PySem.W PySem.Calls PyProof.Rows Builtin
set_option maxRecDepth 100000
set_option maxHeartbeats 1000000
namespace Mine
/-- the plain law at one row -/
structure PureOk (row : List Str) (mk tail tp r0 r1 r2 r3 r4 : Str) (ls : List Int) (lsF : List Str → List Int) : Prop where
  rise : (Str.ofString "" :: ordL.filter fun x => row.any (· == x)) = [r0, r1, r2, r3, r4]
  lead : LeadOk (txtOf row) mk tail r0 r1 r2 r3 r4 ls
  good : Good5 ls
  cuts : Cuts row mk tail r0 r1 r2 r3 r4 lsF
  gz : (gA lsF row (ringsF ls) 3).length ≤ 500
  g0 : gA lsF row (ringsF ls) 3 ≠ []
  g3 : ∀ g ∈ gA lsF row (ringsF ls) 3, g = -2 ∨ g = 0 ∨ g = 2
  gr : ((gA lsF row (ringsF ls) 3).any fun x => x == 2) = decide (ringsF ls < 5)
  road : Road mk tail tp r0 r1 r2 r3 r4 (ringsF ls) 3 0 row
inductive PureEx (row : List Str) (mk tail tp : Str) : Prop
  | mk (r0 r1 r2 r3 r4 : Str) (ls : List Int) (lsF : List Str → List Int) (P : PureOk row mk tail tp r0 r1 r2 r3 r4 ls lsF) : PureEx row mk tail tp
noncomputable def PureLaw : Prop := ∀ row mk tail tp, (∀ x ∈ row, x ∈ ordL) → row.Nodup → row.length = 4 → mk ∈ marks → tail ∈ tails → tp ∈ tops → PureEx row mk tail tp
section
variable {p : Program} {w : World} {lo : List Str} {mean : ExcName → Option Value} {mg mb : Str → Option Value} {E : Value → Shared → Prop} {h₀ : Heap} {L sa : Addr} {m : Str → Option Value} {s : Shared} {Q : Flow → Shared → Prop} {q : Nat → Obj} {os : OsState}
theorem law_all {vs : List Value} {ns : List Int} (pure : PureLaw) (X : (K w.params).In h₀) (T : Top p lo mean mg mb h₀) (S : Now s h₀ L m (cells9 L q none none none none none none none none none (tabs #[] #[])) s) (g : Gd os s) (ms : m (Str.ofString "script") = some (.ref sa)) (hs : h₀.IsList sa vs.toArray) (hi : IntsAre vs ns) (hn : ns.length ≤ 63)
    (hdone : ∀ s' m' news' p1' p2', St h₀ L m' news' s'.heap → (87, tabO p1') ∈ news' → (94, tabO p2') ∈ news' → TriplesOk p1'.toList → TriplesOk p2'.toList → Gd os s' → Q (.ret (.bool true)) s') : Rest w L Q E 0 s := by
  refine law_1 X T S ms hs hi hn ?_
  intro m1 s1 ce oC vk c0 c1 t0 t1 S hC mc
  refine law_2 X T S hC mc ?_
  intro m2 s2 od rl oC c0 t0 oA rA rn row S hC mc ho hr hro hnd hn4
  refine law_3 S hC mc ?_
  intro m3 s3 tp mk tail u1 u2 u3 S htp hmk htl mtp mmk mtl
  obtain ⟨r0, r1, r2, r3, r4, ls, lsF, P⟩ := pure row mk tail tp hro hnd hn4 hmk htl htp
  refine law_4 S ho hr hn4 ?_
  intro s4 rs rsA S hrs
  rw [P.rise] at hrs
  obtain ⟨w0, w1, w2, w3, w4, e5⟩ := strs5 hrs
  have e6 : rsA = rise5 r0 r1 r2 r3 r4 w0 w1 w2 w3 w4 := by rw [← Array.toArray_toList (xs := rsA), e5]
  subst e6
  refine law_5 X T S g hr hn4 P.cuts.r1' ?_
  intro m5 s5 x dx its n tk tv p1 tl S g5 tr1 hp mo
  have mtp := (mo _ (by decide)).trans mtp
  have mmk := (mo _ (by decide)).trans mmk
  have mtl := (mo _ (by decide)).trans mtl
  clear mo
  refine law_6 X T S g5 hp hn4 P.cuts.r1' trivial mmk mtl P.lead P.good ?_
  intro m6 s6 gl p2 t6 S g6 tr2 mr mgl mo
  have mtp := (mo _ (by decide) (by decide)).trans mtp
  have mmk := (mo _ (by decide) (by decide)).trans mmk
  have mtl := (mo _ (by decide) (by decide)).trans mtl
  clear mo
  have B : Base p lo mean mg mb w h₀ ⟨w.params, L, q, x, dx, rs, rl, od, rise5 r0 r1 r2 r3 r4 w0 w1 w2 w3 w4, rA, rn, oA, vk, none, none, none, none, gl, os, row⟩ m6 mk tail r0 r1 r2 r3 r4 u2 u3 w0 w1 w2 w3 w4 t6 lsF (ringsF ls) := ⟨X, T, rfl, P.cuts, rfl, hr, mmk, mtl, mr, mgl⟩
  refine law_7 B S ⟨its, n, 3, tk, tv, p1, p2, tl, #[], 0, rfl, hp, .nil, tr1, tr2, g6.o, g6.g, .inl rfl, fun _ _ _ _ _ => rfl⟩ ?_
  intro m7 news7 s7 S H
  refine law_8 B S H P.gz P.g0 P.g3 P.gr ?_
  intro s8 its8 n8 tk8 tv8 p18 p28 tl8 S g8 tr1 tr2 hp mo
  refine law_9 X T S g8 hp hr ho tr1 tr2 ((mo _ (by decide) (by decide) (by decide) (by decide)).trans mmk) ((mo _ (by decide) (by decide) (by decide) (by decide)).trans mtl) ((mo _ (by decide) (by decide) (by decide) (by decide)).trans mtp) ((mo _ (by decide) (by decide) (by decide) (by decide)).trans mr) P.road hdone
end
end Mine
end
section
open PySem PySem.W PySem.Calls PyProof.Rows Builtin
set_option maxRecDepth 100000
set_option maxHeartbeats 1000000
namespace Mine
/-- the law's call, from the program's top -/
theorem law_run {p : Program} {w : World} {lo : List Str} {mean : ExcName → Option Value} {mg mb : Str → Option Value} {R : Result → Shared → Prop} {s : Shared} {sa : Addr} {vs : List Value} {ns : List Int} (pure : PureLaw) (X : (K w.params).In s.heap) (T : Top p lo mean mg mb s.heap) (t1 : s.heap.get? 87 = some (tabO #[])) (t2 : s.heap.get? 94 = some (tabO #[]))
    (hl : s.heap.IsList sa vs.toArray) (hi : IntsAre vs ns) (hn : ns.length ≤ 63) (hg : s.gens = #[]) (hR : ∀ s', OldK s.heap s'.heap → s'.os = s.os → AllBare s'.gens → R (.ok (.ret (.bool true))) s') :
    codeAny (model PR w) callerA (.call (.ref 232) ⟨[.ref sa], []⟩) R s := by
  refine law_enter X T t1 t2 ?_
  intro p' lo' h₀ L h₁ tk q m hm e0 X0 T0 S0
  subst e0
  have hT : TabsAt [(91, 87), (98, 94)] s.heap := by
    intro q hq
    rcases List.mem_cons.mp hq with rfl | hq
    · exact ⟨codeHd_of_K X (by kernel_rfl), t1⟩
    · cases List.mem_singleton.mp hq
      exact ⟨codeHd_of_K X (by kernel_rfl), t2⟩
  have hne : ∀ b o, s.heap.get? b = some o → o.cls = .type "list" → b ∉ [87, 94] := by
    intro b o e hc hb
    rcases List.mem_cons.mp hb with rfl | hb
    · rw [t1] at e; cases e; cases hc
    · cases List.mem_singleton.mp hb
      rw [t2] at e; cases e; cases hc
  have hl0 : (hideAll s.heap [87, 94]).IsList sa vs.toArray := by
    obtain ⟨o, e, c, d⟩ := hl
    exact ⟨o, hideAll_get _ e (hne sa o e c), c, d⟩
  have S : Now { s with heap := h₁, toks := tk } (hideAll s.heap [87, 94]) L m (cells9 L q none none none none none none none none none (tabs #[] #[])) { s with heap := h₁, toks := tk } := ⟨S0, Mv.refl _⟩
  have g : Gd s.os { s with heap := h₁, toks := tk } := ⟨rfl, .of_eq hg⟩
  refine (law_all (Q := fun f s' => R (.ok (.ret (match f with | .ret v => v | _ => .none))) s') (E := fun _ _ => False) pure X0 T0 S g hm hl0 hi hn ?_).run
  · intro s' m' news' p1 p2 S' n1 n2 _ _ g'
    refine hR s' ⟨fun b o e => ?_, fun b o e => ?_⟩ g'.o g'.g
    · by_cases hb : b ∈ [87, 94]
      · rcases List.mem_cons.mp hb with rfl | hb
        · have e1 := t1
          rw [e] at e1
          cases e1
          exact .inr (.inl ⟨((hT _ (.head _)).1.tab (hT _ (.head _)).2).isCodeTable, rfl, #[], p1, rfl, by rw [Array.empty_append]; exact S'.get n1⟩)
        · cases List.mem_singleton.mp hb
          have e1 := t2
          rw [e] at e1
          cases e1
          exact .inr (.inl ⟨((hT _ (.tail _ (.head _))).1.tab (hT _ (.tail _ (.head _))).2).isCodeTable, rfl, #[], p2, rfl, by rw [Array.empty_append]; exact S'.get n2⟩)
      · exact .inl (S'.F.keep b o (hideAll_get _ e hb))
    · by_cases hb : b ∈ [87, 94]
      · rcases List.mem_cons.mp hb with rfl | hb
        · exact ⟨_, S'.get n1⟩
        · cases List.mem_singleton.mp hb
          exact ⟨_, S'.get n2⟩
      · exact ⟨o, S'.F.keep b o (hideAll_get _ e hb)⟩
end Mine
end
section
open PySem PySem.W PyProof.Rows
set_option maxRecDepth 100000
namespace Mine
noncomputable abbrev HM : Hook := kmHook K kas (fun _ => by kernel_rfl) [87, 94]
theorem left_allM : LeftO PySem.Challenge.pw_xl0024_01 q1 loo (fun s => xlAt q1 [] s && recOk (RowW.records PySem.Challenge.rw_xl0024_01.row.toRowW) s) (Hook.obs HM) (Hook.val HM) 5242 :=
  left_of "special-get-raises" leftm_false leftm_true
set_option maxHeartbeats 4000000 in
theorem ws : PySem.Challenge.rw_xl0024_01.wellSaid = true := by
  unfold OpenLaw.wellSaid OpenRow.wellSaid OpenRow.partSaid looksOpen
  repeat' (with_reducible refine look_both ?_ ?_)
  all_goals (decide +kernel)
set_option maxHeartbeats 4000000 in
theorem hd (pure : PureLaw) : PySem.Challenge.rw_xl0024_01.Holds := by
  w_on
  refine holds_law ws fun said => ?_
  refine holds_open (q := q1) (loose := loo) (Xt := fun s => xlAt q1 [] s && recOk (RowW.records PySem.Challenge.rw_xl0024_01.row.toRowW) s) (XP := XL q1 []) (Yf := Hook.obs HM) (Ya := Hook.val HM) (YP := Hook.says HM) (N := 5242) left_allM (Hook.of HM) (Hook.keeps HM) (fun s e => xl_of s (Bool.and_eq_true_iff.mp e).1) XL.keeps (by rfl) (by rfl) (by rfl) (fun s e => recFacts_of (Bool.and_eq_true_iff.mp e).2) (by rfl) (by first | assumption | decide +kernel) (by decide +kernel) ⟨rfl, rfl, rfl, rfl, rfl, by decide +kernel⟩ ?hw ?hc
  case hw => w_witness2
  intro w s₀ s₁ mg mb G Y fa o pm cd doc dV kV ho hd hcd hD hmg hg args vals as hpre hlay hrd hwl hlo
  have KX := km_in_of Y
  have hT8 := km_tabs_of Y
  have X := (Ground.X G).1
  have V := (Ground.X G).2
  refine Ground.open G ?_
  intro T B D TE TW
  try (refine guard_noD D (by decide +kernel) ?_; clear D)
  have e8 : mg (Str.ofString "law") = some (.ref 232) := mg_of KX T.g (by kernel_rfl)
  have e9 : fa = 232 := Value.ref.inj (Option.some.inj (Eq.trans (Eq.symm hmg) e8))
  clear hd hD ho hcd hmg e8
  subst e9
  wrow_args hpre hlay hrd hwl hlo
  all_goals (first | refine callC_kw (enter_call ?_) | refine enter_call ?_)
  rename_i hL _ _ _ hI _ hn _
  refine law_run pure KX T (hT8 87 (.head _)) (hT8 94 (.tail _ (.head _))) hL hI (by omega) hg ?_
  intro s' hk hos hb
  refine ⟨.inl ⟨.bool true, .bool true, [], rfl, ?_, .bool true, ?_, ?_⟩, hk, hos, hb⟩
  · exact fun _ => rfl
  · have e1 : WShape.has [] (WData.bool true) .bool = true := by decide +kernel
    show (WShape.has [] (WData.bool true) .bool && WTm.holds [] (.eq .res (.lit (.bool true))) _) = true
    rw [e1, holdsW_of_value (X := true) (Eq.trans (w_eq_bool (k := true) (l := true) (by simp [WTm.value]) (by simp [WTm.value])) rfl)]
    rfl
  · intro h; exact ⟨.nil, fun _ h => nomatch h⟩
end Mine
end
section
open PySem PySem.W PyProof.Rows PySem.Builtin PySem.Builtin.Str
set_option maxRecDepth 100000
namespace Mine
/-- the code points of the twelve signs -/
noncomputable def sgns : List Nat := [40, 41, 91, 93, 43, 45, 42, 47, 124, 38, 60, 62]
/-- a change of signs -/
structure Eqv (φ : Nat → Nat) : Prop where
  inj : ∀ a b, φ a = φ b → a = b
  fix : ∀ c, c ∉ sgns → φ c = c
  sgn : ∀ c, c ∈ sgns → φ c ∈ sgns
noncomputable def mp (φ : Nat → Nat) (x : Str) : Str := ⟨x.cps.map φ⟩
/-- the text holds no sign -/
noncomputable def plain (x : Str) : Bool := x.cps.toList.all fun c => !sgns.contains c
section
variable {φ : Nat → Nat} {x y z : Str}
theorem mp_len : (mp φ x).length = x.length := Array.size_map ..
theorem mp_app : mp φ (x ++ y) = mp φ x ++ mp φ y := congrArg Str.mk (Array.map_append ..)
theorem mp_inj (e : Eqv φ) (h : mp φ x = mp φ y) : x = y := by
  rcases x with ⟨⟨x⟩⟩
  rcases y with ⟨⟨y⟩⟩
  have h1 : x.map φ = y.map φ := by
    have := congrArg (fun s : Str => s.cps.toList) h
    simpa [mp] using this
  have h2 : x = y := by
    clear h
    induction x generalizing y with
    | nil => cases y with
      | nil => rfl
      | cons b y => cases h1
    | cons a x ih => cases y with
      | nil => cases h1
      | cons b y =>
        injection h1 with h1 h2
        rw [e.inj a b h1, ih y h2]
  rw [h2]
theorem mp_beq (e : Eqv φ) : (mp φ x == mp φ y) = (x == y) := by
  by_cases h : x = y
  · rw [h]; simp
  · rw [beq_eq_false_iff_ne.mpr h, beq_eq_false_iff_ne.mpr fun h1 => h (mp_inj e h1)]
theorem mp_fix (e : Eqv φ) (h : plain x = true) : mp φ x = x := by
  rcases x with ⟨⟨x⟩⟩
  have h1 : x.map φ = x := by
    induction x with
    | nil => rfl
    | cons a x ih =>
      have h2 : (!sgns.contains a) = true ∧ plain ⟨⟨x⟩⟩ = true := by
        simpa [plain] using h
      rw [List.map_cons, ih h2.2, e.fix a (by simpa using h2.1)]
  show Str.mk (Array.map φ ⟨x⟩) = _
  rw [List.map_toArray, h1]
theorem arr_inj (e : Eqv φ) {a b : Array Nat} : (a.map φ == b.map φ) = (a == b) := by
  have := mp_beq (x := ⟨a⟩) (y := ⟨b⟩) e
  have h : ∀ a b : Array Nat, ((Str.mk a) == (Str.mk b)) = (a == b) := fun a b => by
    by_cases h : a = b
    · rw [h]; simp
    · rw [beq_eq_false_iff_ne.mpr h, beq_eq_false_iff_ne.mpr fun h1 => h (congrArg Str.cps h1)]
  rw [← h, ← h]
  exact this
theorem sub_mp (e : Eqv φ) (i : Nat) : subAt (mp φ x) (mp φ y) i = subAt x y i := by
  unfold subAt
  rw [mp_len]
  show (Array.extract (x.cps.map φ) _ _ == y.cps.map φ) = _
  rw [← Array.map_extract, arr_inj e]
theorem occ_mp (e : Eqv φ) (lo hi lim : Nat) : occurrences (mp φ x) (mp φ y) lo hi lim = occurrences x y lo hi lim := by
  unfold occurrences
  simp only [mp_len, sub_mp e]
theorem last_mp (e : Eqv φ) (lo hi : Nat) : lastOccurrence (mp φ x) (mp φ y) lo hi = lastOccurrence x y lo hi := by
  unfold lastOccurrence
  simp only [mp_len, sub_mp e]
theorem find_mp (e : Eqv φ) : Txt.find (mp φ x) (mp φ y) = Txt.find x y := by
  unfold Txt.find
  rw [mp_len, occ_mp e]
theorem rfind_mp (e : Eqv φ) : Txt.rfind (mp φ x) (mp φ y) = Txt.rfind x y := by
  unfold Txt.rfind
  rw [mp_len, last_mp e]
theorem find4_mp (e : Eqv φ) (i j : Int) : find4 (mp φ x) (mp φ y) i j = find4 x y i j := by
  unfold find4
  rw [mp_len, occ_mp e]
theorem rfind4_mp (e : Eqv φ) (i j : Int) : rfind4 (mp φ x) (mp φ y) i j = rfind4 x y i j := by
  unfold rfind4
  rw [mp_len, last_mp e]
theorem find_c (e : Eqv φ) (h : plain y = true) : Txt.find (mp φ x) y = Txt.find x y := by
  conv => lhs; rw [← mp_fix e h]
  exact find_mp e
theorem find4_c (e : Eqv φ) (h : plain y = true) (i j : Int) : find4 (mp φ x) y i j = find4 x y i j := by
  conv => lhs; rw [← mp_fix e h]
  exact find4_mp e i j
theorem rfind4_c (e : Eqv φ) (h : plain y = true) (i j : Int) : rfind4 (mp φ x) y i j = rfind4 x y i j := by
  conv => lhs; rw [← mp_fix e h]
  exact rfind4_mp e i j
theorem beq_c (e : Eqv φ) (h : plain y = true) : (mp φ x == y) = (x == y) := by
  conv => lhs; rw [← mp_fix e h]
  exact mp_beq e
theorem starts_mp (e : Eqv φ) : Txt.startswith (mp φ x) (mp φ y) = Txt.startswith x y := by
  unfold Txt.startswith
  rw [mp_len, mp_len, sub_mp e]
theorem starts_c (e : Eqv φ) (h : plain y = true) : Txt.startswith (mp φ x) y = Txt.startswith x y := by
  conv => lhs; rw [← mp_fix e h]
  exact starts_mp e
theorem ends_mp (e : Eqv φ) : Txt.endswith (mp φ x) (mp φ y) = Txt.endswith x y := by
  unfold Txt.endswith
  rw [mp_len, mp_len, sub_mp e]
theorem slice_mp (l u : Option Int) : Txt.slice (mp φ x) l u = mp φ (Txt.slice x l u) := by
  unfold Txt.slice
  rw [mp_len]
  split
  · rfl
  · show Str.mk _ = Str.mk (Array.map φ _)
    rw [List.map_toArray, List.map_filterMap]
    congr 2
    congr 1
    funext i
    show (Array.map φ x.cps)[i]? = _
    rw [Array.getElem?_map]
theorem strip_mp (e : Eqv φ) : stripF (mp φ x) = mp φ (stripF x) := by
  unfold stripF stripB stripC
  simp only [find_c e (y := "\n") (by decide), find4_c e (y := ":") (by decide), rfind4_c e (y := ".") (by decide), mp_len, slice_mp]
theorem sub_str (i j : Nat) : strSub (mp φ x) i j = mp φ (strSub x i j) := by
  show Str.mk ((x.cps.map φ).extract i j) = Str.mk ((x.cps.extract i j).map φ)
  rw [Array.map_extract]
theorem parts_mp (cuts : List Nat) (n : Nat) : partsBetween (mp φ x) cuts n = (partsBetween x cuts n).map (mp φ) := by
  unfold partsBetween
  dsimp only
  rw [mp_len, List.map_map]
  refine List.map_congr_left fun p _ => ?_
  exact sub_str _ _
theorem glued_mp (ps : List Str) : glued (mp φ z) (ps.map (mp φ)) = mp φ (glued z ps) := by
  have key : ∀ (l : List Str) (a : Array Nat), (l.map (mp φ)).foldl (fun acc p => acc ++ (mp φ z).cps ++ p.cps) (a.map φ) = (l.foldl (fun acc p => acc ++ z.cps ++ p.cps) a).map φ := by
    intro l
    induction l with
    | nil => intro a; rfl
    | cons p l ih =>
      intro a
      rw [List.map_cons, List.foldl_cons, List.foldl_cons, ← ih]
      congr 1
      show Array.map φ a ++ Array.map φ z.cps ++ Array.map φ p.cps = _
      rw [Array.map_append, Array.map_append]
  show Str.mk _ = Str.mk (Array.map φ (List.foldl (fun acc (p : Str) => acc ++ z.cps ++ p.cps) _ _))
  rw [← List.map_drop, ← key]
  congr 2
  cases ps with
  | nil => show (#[] : Array Nat) = Array.map φ #[]; simp
  | cons p ps => rfl
theorem replace_mp (e : Eqv φ) : Txt.replace (mp φ x) (mp φ y) (mp φ z) = mp φ (Txt.replace x y z) := by
  unfold Txt.replace
  rw [mp_len, mp_len, mp_len, occ_mp e]
  split
  · rfl
  · rw [parts_mp, glued_mp]
theorem item_mp (e : Eqv φ) (i : Int) : Txt.item (mp φ x) i = mp φ (Txt.item x i) := by
  unfold Txt.item Txt.charAt
  rw [mp_len]
  have h2 : ∀ c : Nat, mp φ ⟨#[c]⟩ = ⟨#[φ c]⟩ := fun c => by simp [mp]
  rw [h2]
  refine congrArg (fun c : Nat => Str.mk #[c]) ?_
  cases seqIndex? i x.length with
  | none => exact (e.fix 0 (by decide)).symm
  | some k =>
    show (Option.getD ((Array.map φ x.cps)[k]?) 0) = φ (Option.getD (x.cps[k]?) 0)
    rw [Array.getElem?_map]
    cases x.cps[k]? with
    | none => exact (e.fix 0 (by decide)).symm
    | some c => rfl
/-- a digit stays one -/
theorem dig_c (e : Eqv φ) (d : Nat → Bool) (hd : ∀ c ∈ sgns, d c = false) (c : Nat) : d (φ c) = d c := by
  by_cases h : c ∈ sgns
  · rw [hd c h, hd _ (e.sgn c h)]
  · rw [e.fix c h]
theorem eq_c (e : Eqv φ) {k : Nat} (hk : k ∉ sgns) (c : Nat) : (φ c == k) = (c == k) := by
  by_cases h : c = k
  · rw [h, e.fix k hk]
  · rw [beq_eq_false_iff_ne.mpr h, beq_eq_false_iff_ne.mpr fun h1 => h (e.inj c k (h1.trans (e.fix k hk).symm))]
theorem get_c (e : Eqv φ) (T : Array Nat) (p : Nat) : (T.map φ).getD p 0 = φ (T.getD p 0) := by
  rw [Array.getD_eq_getD_getElem?, Array.getD_eq_getD_getElem?, Array.getElem?_map]
  cases T[p]? with
  | none => exact (e.fix 0 (by decide)).symm
  | some c => rfl
theorem ipv4_mp (e : Eqv φ) (T : Array Nat) : Re.ipv4 (T.map φ) = Re.ipv4 T := by
  have hD : ∀ n p, Re.dig (T.map φ) n p = Re.dig T n p := by
    intro n
    induction n with
    | zero => intro p; rfl
    | succ n ih =>
      intro p
      unfold Re.dig
      rw [get_c e, dig_c e PySem.Sre.isDigit (by decide +kernel), ih]
  have hE : ∀ p, Re.ends (T.map φ) p = Re.ends T p := fun p => by
    unfold Re.ends
    rw [get_c e, Array.size_map, eq_c e (by decide)]
  have hT : ∀ d p, Re.tail (T.map φ) p d = Re.tail T p d := by
    intro d
    induction d with
    | zero => intro p; rfl
    | succ d ih => intro p; unfold Re.tail; rw [hE, ih]
  have hH : ∀ s, Re.hit (T.map φ) s = Re.hit T s := fun s => by
    unfold Re.hit
    rw [get_c e, Array.size_map, eq_c e (by decide), hD, hT]
  have hS : ∀ k s, Re.scan (T.map φ) k s = Re.scan T k s := by
    intro k
    induction k with
    | zero => intro s; exact hH s
    | succ k ih => intro s; unfold Re.scan; rw [hH, ih]
  unfold Re.ipv4
  rw [Array.size_map, hS]
theorem hdn_mp (e : Eqv φ) : hdnF (mp φ x) = hdnF x := by
  unfold hdnF
  rw [item_mp e, item_mp e, beq_c e (by decide), beq_c e (by decide), beq_c e (by decide)]
  show (!Re.ipv4 (x.cps.map φ) && _ && _ && _) = _
  rw [ipv4_mp e]
theorem reach_mp (e : Eqv φ) : reachF (mp φ x) = mp φ (reachF x) := by
  unfold reachF
  have hd : mp φ (Str.ofString ".") = Str.ofString "." := mp_fix e (by decide)
  simp only [find_c e (y := Str.ofString ".") (by decide), slice_mp, hdn_mp e, beq_c e (y := Str.ofString "local") (by decide)]
  repeat' split
  all_goals first | rfl | rw [mp_app, hd]
theorem readL_mp (e : Eqv φ) : ∀ (n : Nat) (x : Str) (sg : List Str), readL n (mp φ x) (sg.map (mp φ)) = (mp φ (readL n x sg).1, (readL n x sg).2.map (mp φ)) := by
  intro n
  induction n with
  | zero => intro x sg; rfl
  | succ n ih =>
    intro x sg
    unfold readL
    rw [reach_mp e]
    by_cases h : reachF x = x
    · rw [if_pos h, if_pos (by rw [h])]
    · rw [if_neg h, if_neg (fun h1 => h (mp_inj e h1)), slice_mp, mp_len, mp_len, slice_mp, show List.map (mp φ) sg ++ [mp φ (Txt.slice x none (some ((x.length : Int) - ((reachF x).length : Int))))] = List.map (mp φ) (sg ++ [Txt.slice x none (some ((x.length : Int) - ((reachF x).length : Int)))]) by rw [List.map_append]; rfl, ih]
theorem read_mp (e : Eqv φ) {tp : Str} (h : plain tp = true) : readF (mp φ x) tp = (readF x tp).map (mp φ) := by
  unfold readF
  have hd : mp φ (Str.ofString ".") = Str.ofString "." := mp_fix e (by decide)
  have e1 : Txt.slice (mp φ x) (some 1) none ++ Str.ofString "." ++ tp = mp φ (Txt.slice x (some 1) none ++ Str.ofString "." ++ tp) := by
    rw [slice_mp, mp_app, mp_app, hd, mp_fix e h]
  have h2 := readL_mp e 6 (Txt.slice x (some 1) none ++ Str.ofString "." ++ tp) []
  rw [List.map_nil] at h2
  rw [e1, h2]
  dsimp only
  rw [beq_c e h]
  split
  · rfl
  · rfl
/-- all the text's code points are those of ASCII -/
noncomputable def asc (x : Str) : Bool := x.cps.toList.all fun c => decide (c < 128)
theorem placed_mp (f : Nat → List Nat) (hf : ∀ c ∈ x.cps.toList, f (φ c) = (f c).map φ) : placed (mp φ x) (fun _ c => f c) = (placed x fun _ c => f c).map φ := by
  have h : ∀ y : Str, placed y (fun _ c => f c) = (y.cps.map fun c => (f c).toArray).flatten := fun y => by
    unfold placed
    congr 1
    refine Array.ext (by simp) fun i _ _ => by simp
  rw [h, h, Array.map_flatten, Array.map_map]
  show ((x.cps.map φ).map _).flatten = _
  rw [Array.map_map]
  congr 1
  refine Array.map_congr_left fun c hc => ?_
  show (f (φ c)).toArray = ((f c).toArray).map φ
  rw [hf c (by simpa using hc), List.map_toArray]
theorem placed_low (y : Str) (h : asc y = true) : placed y (fun i _ => Unicode.lowerAt y.cps i) = placed y fun _ c => Unicode.lowerOf c := by
  unfold placed
  congr 1
  refine Array.ext (by simp) fun i h1 h2 => ?_
  have h3 : i < y.cps.size := by simpa using h1
  simp only [Array.getElem_mapIdx]
  unfold Unicode.lowerAt
  rw [Array.getElem?_eq_getElem h3]
  have h4 : y.cps[i] < 128 := by
    have := List.all_eq_true.mp h y.cps[i] (by simp)
    simpa using this
  have h5 : (y.cps[i] == 0x3A3) = false := by simp; omega
  simp only [h5, Bool.false_and, Bool.false_eq_true, if_false]
theorem asc_mp (e : Eqv φ) (h : asc x = true) : asc (mp φ x) = true := by
  unfold asc at h ⊢
  rw [List.all_eq_true] at h ⊢
  intro c hc
  obtain ⟨b, hb, rfl⟩ : ∃ b, b ∈ x.cps.toList ∧ φ b = c := by simpa [mp] using hc
  by_cases hs : b ∈ sgns
  · have : ∀ k ∈ sgns, decide (k < 128) = true := by decide
    exact this _ (e.sgn b hs)
  · rw [e.fix b hs]; exact h b hb
theorem case_c (e : Eqv φ) (f : Nat → List Nat) (h1 : ∀ c ∈ sgns, f c = [c]) (h2 : ∀ c < 128, c ∈ sgns ∨ ∀ b ∈ f c, b ∉ sgns) (c : Nat) (hc : c < 128) : f (φ c) = (f c).map φ := by
  by_cases h : c ∈ sgns
  · rw [h1 c h, h1 _ (e.sgn c h)]; rfl
  · rw [e.fix c h]
    have h3 := (h2 c hc).resolve_left h
    have : ∀ l : List Nat, (∀ b ∈ l, b ∉ sgns) → l.map φ = l := by
      intro l
      induction l with
      | nil => intro _; rfl
      | cons a l ih => intro h; rw [List.map_cons, e.fix a (h a (.head _)), ih fun b hb => h b (.tail _ hb)]
    rw [this _ h3]
theorem asc_at {c : Nat} (h : asc x = true) (hc : c ∈ x.cps.toList) : c < 128 := by
  have := List.all_eq_true.mp h c hc
  simpa using this
theorem lower_mp (e : Eqv φ) (h : asc x = true) : Txt.lower (mp φ x) = mp φ (Txt.lower x) := by
  unfold Txt.lower
  rw [placed_low _ h, placed_low _ (asc_mp e h)]
  show Str.mk _ = Str.mk _
  rw [placed_mp Unicode.lowerOf fun c hc => case_c e _ (by decide +kernel) (by decide +kernel) c (asc_at h hc)]
theorem upper_mp (e : Eqv φ) (h : asc x = true) : Txt.upper (mp φ x) = mp φ (Txt.upper x) := by
  unfold Txt.upper
  show Str.mk _ = Str.mk _
  rw [placed_mp Unicode.upperOf fun c hc => case_c e _ (by decide +kernel) (by decide +kernel) c (asc_at h hc)]
theorem dm_mp (e : Eqv φ) (hx : asc x = true) (hy : asc y = true) : dmF (mp φ x) (mp φ y) = dmF x y := by
  unfold dmF
  rw [lower_mp e hx, lower_mp e hy, mp_beq e, hdn_mp e, rfind_mp e, starts_c e (by decide), slice_mp, hdn_mp e]
theorem udm_mp (e : Eqv φ) (hx : asc x = true) (hy : asc y = true) : udmF (mp φ x) (mp φ y) = udmF x y := by
  unfold udmF
  rw [lower_mp e hx, lower_mp e hy, mp_beq e, starts_c e (by decide), ends_mp e]
  show (if Re.ipv4 ((Txt.lower x).cps.map φ) = true then _ else if Re.ipv4 ((Txt.lower y).cps.map φ) = true then _ else _) = _
  rw [ipv4_mp e, ipv4_mp e]
end
end Mine
end
section
open PySem PySem.W PyProof.Rows PySem.Builtin PySem.Builtin.Str
set_option maxRecDepth 100000
namespace Mine
noncomputable abbrev n0 : Str := Str.ofString ""
noncomputable abbrev a1 : Str := Str.ofString "("
noncomputable abbrev a2 : Str := Str.ofString ")"
noncomputable abbrev a3 : Str := Str.ofString "["
noncomputable abbrev a4 : Str := Str.ofString "]"
noncomputable def A4 : List Str := [a1, a2, a3, a4]
noncomputable def rows24 : List (List Str) := (A4.flatMap fun w => A4.flatMap fun x => A4.flatMap fun y => A4.map fun z => [w, x, y, z]).filter fun r => decide r.Nodup
noncomputable def swp (u v c : Nat) : Nat := if c = u then v else if c = v then u else c
theorem swp_swp (u v c : Nat) : swp u v (swp u v c) = c := by
  unfold swp
  by_cases h1 : c = u
  · rw [if_pos h1]
    by_cases h2 : v = u
    · rw [if_pos h2, h1, h2]
    · rw [if_neg h2, if_pos rfl, h1]
  · rw [if_neg h1]
    by_cases h2 : c = v
    · rw [if_pos h2, if_pos rfl, h2]
    · rw [if_neg h2, if_neg h1, if_neg h2]
theorem swp_eqv {u v : Nat} (hu : u ∈ sgns) (hv : v ∈ sgns) : Eqv (swp u v) := by
  refine ⟨fun a b h => by rw [← swp_swp u v a, h, swp_swp], fun c h => ?_, fun c h => ?_⟩
  · have h1 : c ≠ u := fun e => h (e ▸ hu)
    have h2 : c ≠ v := fun e => h (e ▸ hv)
    unfold swp
    rw [if_neg h1, if_neg h2]
  · unfold swp
    split
    · exact hv
    · split
      · exact hu
      · exact h
theorem Eqv.comp {f g : Nat → Nat} (e : Eqv f) (d : Eqv g) : Eqv (fun c => g (f c)) :=
  ⟨fun a b h => e.inj _ _ (d.inj _ _ h), fun c h => by show g (f c) = c; rw [e.fix c h, d.fix c h], fun c h => d.sgn _ (e.sgn c h)⟩
theorem eqv_id : Eqv fun c => c := ⟨fun _ _ h => h, fun _ _ => rfl, fun _ h => h⟩
theorem eqv_ex : ∀ (as bs : List Nat), as.length = bs.length → as.Nodup → bs.Nodup → (∀ a ∈ as, a ∈ sgns) → (∀ b ∈ bs, b ∈ sgns) → ∃ φ, Eqv φ ∧ as.map φ = bs
  | [], [], _, _, _, _, _ => ⟨_, eqv_id, rfl⟩
  | [], _ :: _, h, _, _, _, _ => by cases h
  | _ :: _, [], h, _, _, _, _ => by cases h
  | a :: as, b :: bs, h, na, nb, ha, hb => by
    obtain ⟨φ, e, hm⟩ := eqv_ex as bs (by simpa using h) (List.nodup_cons.mp na).2 (List.nodup_cons.mp nb).2 (fun x hx => ha x (.tail _ hx)) (fun x hx => hb x (.tail _ hx))
    refine ⟨_, e.comp (swp_eqv (e.sgn a (ha a (.head _))) (hb b (.head _))), ?_⟩
    rw [List.map_cons]
    congr 1
    · unfold swp; rw [if_pos rfl]
    · rw [← hm]
      refine List.map_congr_left fun x hx => ?_
      have h1 : φ x ≠ φ a := fun h1 => (List.nodup_cons.mp na).1 (e.inj _ _ h1 ▸ hx)
      have h2 : φ x ≠ b := fun h2 => (List.nodup_cons.mp nb).1 (by rw [← h2, ← hm]; exact List.mem_map_of_mem hx)
      unfold swp
      rw [if_neg h1, if_neg h2]
/-- the code point of a sign -/
noncomputable def code (x : Str) : Nat := x.cps.getD 0 0
theorem ord_code : ∀ x ∈ ordL, x = ⟨#[code x]⟩ ∧ code x ∈ sgns := by decide +kernel
theorem ord_nodup : ordL.Nodup := by decide +kernel
theorem ord_tok : ordL.Pairwise fun x y => tokF x < tokF y := by decide +kernel
/-- an order of the numbers is kept -/
structure Mon (ψ : Int → Int) : Prop where
  lt : ∀ x y, ψ x < ψ y ↔ x < y
noncomputable def psi (t1 t2 t3 t4 x : Int) : Int := t1 + (x - 7) + (if 8 ≤ x then t2 - t1 - 1 else 0) + (if 9 ≤ x then t3 - t2 - 1 else 0) + (if 10 ≤ x then t4 - t3 - 1 else 0)
theorem Mon.add {f : Int → Int} (m : Mon f) (k e : Int) (h : 0 ≤ e) : Mon fun x => f x + if k ≤ x then e else 0 := by
  have key : ∀ x y, x < y → (f x + if k ≤ x then e else 0) < f y + if k ≤ y then e else 0 := fun x y hxy => by
    have h1 := (m.lt x y).mpr hxy
    by_cases hx : k ≤ x
    · rw [if_pos hx, if_pos (Int.le_of_lt (Int.lt_of_le_of_lt hx hxy))]
      exact Int.add_lt_add_right h1 e
    · rw [if_neg hx, Int.add_zero]
      refine Int.lt_of_lt_of_le h1 (Int.le_add_of_nonneg_right ?_)
      split
      · exact h
      · exact Int.le_refl 0
  refine ⟨fun x y => ⟨fun h2 => Int.not_le.mp fun h3 => ?_, key x y⟩⟩
  rcases Int.lt_or_eq_of_le h3 with h4 | h4
  · exact Int.lt_irrefl _ (Int.lt_trans h2 (key y x h4))
  · rw [h4] at h2
    exact Int.lt_irrefl _ h2
theorem Mon.id (t : Int) : Mon fun x => t + (x - 7) := ⟨fun x y => by omega⟩
theorem psi_mon {t1 t2 t3 t4 : Int} (h1 : t1 < t2) (h2 : t2 < t3) (h3 : t3 < t4) : Mon (psi t1 t2 t3 t4) :=
  (((Mon.id t1).add 8 (t2 - t1 - 1) (by omega)).add 9 (t3 - t2 - 1) (by omega)).add 10 (t4 - t3 - 1) (by omega)
theorem psi_7 (t1 t2 t3 t4 : Int) : psi t1 t2 t3 t4 7 = t1 := by show t1 + 0 + 0 + 0 + 0 = t1; simp only [Int.add_zero]
theorem psi_8 (t1 t2 t3 t4 : Int) : psi t1 t2 t3 t4 8 = t2 := by show t1 + 1 + (t2 - t1 - 1) + 0 + 0 = t2; omega
theorem psi_9 (t1 t2 t3 t4 : Int) : psi t1 t2 t3 t4 9 = t3 := by show t1 + 2 + (t2 - t1 - 1) + (t3 - t2 - 1) + 0 = t3; omega
theorem psi_10 (t1 t2 t3 t4 : Int) : psi t1 t2 t3 t4 10 = t4 := by show t1 + 3 + (t2 - t1 - 1) + (t3 - t2 - 1) + (t4 - t3 - 1) = t4; omega
/-- a row is a canonical row, its signs changed -/
structure Chg (φ : Nat → Nat) (ψ : Int → Int) : Prop where
  e : Eqv φ
  m : Mon ψ
  tok : ∀ a ∈ A4, tokF (mp φ a) = ψ (tokF a)
  ord : ∀ a ∈ A4, mp φ a ∈ ordL
theorem nodup_count {l : List Str} (h : l.Nodup) (a : Str) : l.count a = if a ∈ l then 1 else 0 := by
  split
  · rename_i hm
    have h1 := List.nodup_iff_count.mp h a
    have h2 := List.count_pos_iff.mpr hm
    omega
  · rename_i hm
    exact List.count_eq_zero.mpr hm
theorem row_ex {row : List Str} (ho : ∀ x ∈ row, x ∈ ordL) (hF : row.Nodup) (hn : row.length = 4) : ∃ φ, Eqv φ ∧ row = A4.map (mp φ) := by
  obtain ⟨r1, r2, r3, r4, rfl⟩ : ∃ r1 r2 r3 r4, row = [r1, r2, r3, r4] := by
    rcases row with _ | ⟨a, _ | ⟨b, _ | ⟨c, _ | ⟨d, _ | ⟨e, r⟩⟩⟩⟩⟩ <;> first | exact ⟨_, _, _, _, rfl⟩ | (simp at hn)
  obtain ⟨e1, s1⟩ := ord_code r1 (ho _ (by simp))
  obtain ⟨e2, s2⟩ := ord_code r2 (ho _ (by simp))
  obtain ⟨e3, s3⟩ := ord_code r3 (ho _ (by simp))
  obtain ⟨e4, s4⟩ := ord_code r4 (ho _ (by simp))
  have hci : ∀ x ∈ ordL, ∀ y ∈ ordL, code x = code y → x = y := fun x hx y hy h => by
    rw [(ord_code x hx).1, (ord_code y hy).1, h]
  have nc : [code r1, code r2, code r3, code r4].Nodup := by
    have := hF
    simp only [List.nodup_cons, List.mem_cons, List.not_mem_nil, or_false, not_or, List.nodup_nil, not_false_eq_true, and_true] at this ⊢
    obtain ⟨⟨b1, b2, b3⟩, ⟨b4, b5⟩, b6⟩ := this
    refine ⟨⟨fun h => b1 (hci _ (ho _ (by simp)) _ (ho _ (by simp)) h), fun h => b2 (hci _ (ho _ (by simp)) _ (ho _ (by simp)) h), fun h => b3 (hci _ (ho _ (by simp)) _ (ho _ (by simp)) h)⟩, ⟨fun h => b4 (hci _ (ho _ (by simp)) _ (ho _ (by simp)) h), fun h => b5 (hci _ (ho _ (by simp)) _ (ho _ (by simp)) h)⟩, fun h => b6 (hci _ (ho _ (by simp)) _ (ho _ (by simp)) h)⟩
  obtain ⟨φ, e, hm⟩ := eqv_ex [40, 41, 91, 93] [code r1, code r2, code r3, code r4] rfl (by decide) nc (by decide) (by
    intro b hb
    simp only [List.mem_cons, List.not_mem_nil, or_false] at hb
    rcases hb with rfl | rfl | rfl | rfl <;> assumption)
  simp only [List.map_cons, List.map_nil, List.cons.injEq, and_true] at hm
  obtain ⟨m1, m2, m3, m4⟩ := hm
  have one : ∀ k : Nat, mp φ ⟨#[k]⟩ = ⟨#[φ k]⟩ := fun k => by simp [mp]
  have f1 : mp φ a1 = r1 := by rw [show a1 = ⟨#[40]⟩ by decide, one, m1, ← e1]
  have f2 : mp φ a2 = r2 := by rw [show a2 = ⟨#[41]⟩ by decide, one, m2, ← e2]
  have f3 : mp φ a3 = r3 := by rw [show a3 = ⟨#[91]⟩ by decide, one, m3, ← e3]
  have f4 : mp φ a4 = r4 := by rw [show a4 = ⟨#[93]⟩ by decide, one, m4, ← e4]
  refine ⟨φ, e, ?_⟩
  show _ = [mp φ a1, mp φ a2, mp φ a3, mp φ a4]
  rw [f1, f2, f3, f4]
theorem chg_ex {row : List Str} (ho : ∀ x ∈ row, x ∈ ordL) (hd : row.Nodup) (hn : row.length = 4) :
    ∃ φ ψ row0, Chg φ ψ ∧ row0 ∈ rows24 ∧ row = row0.map (mp φ) ∧ (ordL.filter fun x => row.any (· == x)) = [mp φ a1, mp φ a2, mp φ a3, mp φ a4] := by
  have hmem : ∀ x, x ∈ (ordL.filter fun x => row.any (· == x)) ↔ x ∈ row := fun x => by
    rw [List.mem_filter, List.any_eq_true]
    constructor
    · rintro ⟨_, y, hy, e⟩
      rw [← eq_of_beq e]; exact hy
    · intro h
      exact ⟨ho x h, x, h, beq_self_eq_true x⟩
  have hs : (ordL.filter fun x => row.any (· == x)).Sublist ordL := List.filter_sublist
  generalize (ordL.filter fun x => row.any (· == x)) = F at hmem hs
  have hF : F.Nodup := ord_nodup.sublist hs
  have hp : F.Perm row := List.perm_iff_count.mpr fun a => by
    rw [nodup_count hF, nodup_count hd]
    simp only [hmem]
  obtain ⟨r1, r2, r3, r4, rfl⟩ : ∃ r1 r2 r3 r4, F = [r1, r2, r3, r4] := by
    have h4 := hp.length_eq.trans hn
    rcases F with _ | ⟨a, _ | ⟨b, _ | ⟨c, _ | ⟨d, _ | ⟨e, r⟩⟩⟩⟩⟩ <;> first | exact ⟨_, _, _, _, rfl⟩ | (simp at h4)
  have ht := ord_tok.sublist hs
  have hoF : ∀ x ∈ [r1, r2, r3, r4], x ∈ ordL := fun x h => hs.subset h
  obtain ⟨φ, e, hm⟩ := row_ex hoF hF rfl
  have f1 : mp φ a1 = r1 := ((List.cons.inj hm).1).symm
  have f2 : mp φ a2 = r2 := ((List.cons.inj (List.cons.inj hm).2).1).symm
  have f3 : mp φ a3 = r3 := ((List.cons.inj (List.cons.inj (List.cons.inj hm).2).2).1).symm
  have f4 : mp φ a4 = r4 := ((List.cons.inj (List.cons.inj (List.cons.inj (List.cons.inj hm).2).2).2).1).symm
  simp only [List.pairwise_cons, List.mem_cons, List.not_mem_nil, or_false, forall_eq_or_imp, forall_eq] at ht
  obtain ⟨⟨t12, -, -⟩, ⟨t23, -⟩, t34, -⟩ := ht
  have pre : ∀ x ∈ row, ∃ a ∈ A4, x = mp φ a := fun x hx => by
    have := hp.mem_iff.mpr hx
    simp only [List.mem_cons, List.not_mem_nil, or_false] at this
    rcases this with rfl | rfl | rfl | rfl
    · exact ⟨a1, by decide, f1.symm⟩
    · exact ⟨a2, by decide, f2.symm⟩
    · exact ⟨a3, by decide, f3.symm⟩
    · exact ⟨a4, by decide, f4.symm⟩
  obtain ⟨x1, x2, x3, x4, rfl⟩ : ∃ r1 r2 r3 r4, row = [r1, r2, r3, r4] := by
    rcases row with _ | ⟨a, _ | ⟨b, _ | ⟨c, _ | ⟨d, _ | ⟨e, r⟩⟩⟩⟩⟩ <;> first | exact ⟨_, _, _, _, rfl⟩ | (simp at hn)
  obtain ⟨w, hw, rfl⟩ := pre x1 (by simp)
  obtain ⟨x, hx, rfl⟩ := pre x2 (by simp)
  obtain ⟨y, hy, rfl⟩ := pre x3 (by simp)
  obtain ⟨z, hz, rfl⟩ := pre x4 (by simp)
  refine ⟨φ, psi (tokF r1) (tokF r2) (tokF r3) (tokF r4), [w, x, y, z], ⟨e, psi_mon t12 t23 t34, ?_, ?_⟩, ?_, rfl, by rw [f1, f2, f3, f4]⟩
  · intro a ha
    simp only [A4, List.mem_cons, List.not_mem_nil, or_false] at ha
    rcases ha with rfl | rfl | rfl | rfl
    · rw [f1]; rw [show tokF a1 = 7 by decide +kernel]; exact (psi_7 ..).symm
    · rw [f2]; rw [show tokF a2 = 8 by decide +kernel]; exact (psi_8 ..).symm
    · rw [f3]; rw [show tokF a3 = 9 by decide +kernel]; exact (psi_9 ..).symm
    · rw [f4]; rw [show tokF a4 = 10 by decide +kernel]; exact (psi_10 ..).symm
  · intro a ha
    simp only [A4, List.mem_cons, List.not_mem_nil, or_false] at ha
    rcases ha with rfl | rfl | rfl | rfl
    · rw [f1]; exact hoF _ (by simp)
    · rw [f2]; exact hoF _ (by simp)
    · rw [f3]; exact hoF _ (by simp)
    · rw [f4]; exact hoF _ (by simp)
  · have nd : [w, x, y, z].Nodup := by
      have h1 : ([w, x, y, z].map (mp φ)).Nodup := hd
      exact List.Pairwise.of_map (mp φ) (fun a b h h2 => h (congrArg _ h2)) h1
    have key : ∀ w ∈ A4, ∀ x ∈ A4, ∀ y ∈ A4, ∀ z ∈ A4, [w, x, y, z].Nodup → [w, x, y, z] ∈ rows24 := by decide +kernel
    exact key w hw x hx y hy z hz nd
noncomputable def asks (rs : List Str) (mk x : Str) : List Str := rs.map (fun y => Txt.replace x (Str.ofString "." ++ y) (mk ++ y)) ++ [x]
noncomputable def told (rs : List Str) (mk tl x : Str) : List Str := (asks rs mk x).map fun y => stripF (y ++ tl)
noncomputable def leadsOf (R names : List Str) : List Int := names.map fun y => if (R.any fun z => z == y) = true then ((R.idxOf y : Nat) : Int) else 9
section
variable {φ : Nat → Nat} {ψ : Int → Int} {x y mk tl tp : Str}
theorem any_mp (e : Eqv φ) (R : List Str) (y : Str) : ((R.map (mp φ)).any fun z => z == mp φ y) = R.any fun z => z == y := by
  rw [List.any_map]
  congr 1
  funext z
  exact mp_beq e
theorem idx_mp (e : Eqv φ) (R : List Str) (y : Str) : (R.map (mp φ)).idxOf (mp φ y) = R.idxOf y := by
  induction R with
  | nil => rfl
  | cons a R ih => rw [List.map_cons, List.idxOf_cons, List.idxOf_cons, mp_beq e, ih]
theorem leads_mp (e : Eqv φ) (R N : List Str) : leadsOf (R.map (mp φ)) (N.map (mp φ)) = leadsOf R N := by
  unfold leadsOf
  rw [List.map_map]
  refine List.map_congr_left fun y _ => ?_
  show (if _ then _ else _) = _
  rw [any_mp e, idx_mp e]
theorem asks_mp (e : Eqv φ) (hm : plain mk = true) (rs : List Str) : asks (rs.map (mp φ)) mk (mp φ x) = (asks rs mk x).map (mp φ) := by
  unfold asks
  rw [List.map_append, List.map_map, List.map_map]
  congr 1
  refine List.map_congr_left fun y _ => ?_
  show Txt.replace (mp φ x) (Str.ofString "." ++ mp φ y) (mk ++ mp φ y) = mp φ (Txt.replace x (Str.ofString "." ++ y) (mk ++ y))
  rw [← replace_mp e, mp_app, mp_app, mp_fix e hm, mp_fix e (x := Str.ofString ".") (by decide)]
theorem told_mp (e : Eqv φ) (hm : plain mk = true) (ht : plain tl = true) (rs : List Str) : told (rs.map (mp φ)) mk tl (mp φ x) = (told rs mk tl x).map (mp φ) := by
  unfold told
  rw [asks_mp e hm, List.map_map, List.map_map]
  refine List.map_congr_left fun y _ => ?_
  show stripF (mp φ y ++ tl) = mp φ (stripF (y ++ tl))
  rw [← strip_mp e, mp_app, mp_fix e ht]
theorem all_len {k : Nat} {l : List Str} (h : ∀ z ∈ l, z.length ≤ k) : ∀ z ∈ l.map (mp φ), z.length ≤ k := by
  intro z hz
  obtain ⟨y, hy, rfl⟩ := List.mem_map.mp hz
  rw [mp_len]; exact h y hy
theorem mp_n0 : mp φ n0 = n0 := by
  have h : n0 = ⟨#[]⟩ := by decide +kernel
  rw [h]; simp [mp]
theorem txt_mp (e : Eqv φ) (row : List Str) : txtOf (row.map (mp φ)) = mp φ (txtOf row) := by
  have hd : mp φ dot = dot := mp_fix e (by decide)
  rcases row with _ | ⟨a, _ | ⟨b, _ | ⟨c, _ | ⟨d, _ | ⟨f, r⟩⟩⟩⟩⟩ <;> first | exact hd.symm | skip
  show dot ++ mp φ a ++ (dot ++ mp φ b) ++ (dot ++ mp φ c) ++ (dot ++ mp φ d) = mp φ (dot ++ a ++ (dot ++ b) ++ (dot ++ c) ++ (dot ++ d))
  simp only [mp_app, hd]
end
end Mine
end
section
open PySem PySem.W PySem.Calls PyProof.Rows Builtin
set_option maxRecDepth 100000
namespace Mine
noncomputable def R5 : List Str := [n0, a1, a2, a3, a4]
/-- the leads of a canonical row -/
noncomputable def own0 (row : List Str) : List Int := (List.range 5).map (ownF R5 (n0 :: row))
theorem c_mt : ∀ mk ∈ marks, plain mk = true ∧ mk.length ≤ 10 ∧ mk.length ≠ 0 ∧ ∀ r ∈ A4, (Str.ofString "." ++ r == mk ++ r) = false := by decide +kernel
theorem c_tl : ∀ tl ∈ tails, plain tl = true ∧ tl.length ≤ 10 := by decide +kernel
theorem c_tp : ∀ tp ∈ tops, plain tp = true ∧ tp.length ≤ 100 ∧ asc tp = true := by decide +kernel
theorem c_A1 : ∀ r ∈ A4, r.length = 1 := by decide +kernel
theorem c_mem : ∀ row ∈ rows24, row.length = 4 ∧ (∀ r ∈ row, r ∈ A4) ∧ ∀ r ∈ A4, r ∈ row := by decide +kernel
theorem c_nod : ∀ row ∈ rows24, row.Nodup := by decide +kernel
theorem c_A4 : ∀ r ∈ A4, r ∈ ordL := by decide +kernel
theorem can_ex {row : List Str} (h : row ∈ rows24) : ∃ φ, Eqv φ ∧ row = A4.map (mp φ) :=
  row_ex (fun x hx => c_A4 x ((c_mem row h).2.1 x hx)) (c_nod row h) (c_mem row h).1
theorem c_told : ∀ mk ∈ marks, ∀ tl ∈ tails, told A4 mk tl (txtOf A4) = n0 :: A4 ∧ ∀ z ∈ asks A4 mk (txtOf A4), z.length ≤ 100 := by decide +kernel
noncomputable def prevIn (row : List Str) (y : Str) : Str := (n0 :: row).getD ((n0 :: row).idxOf y - 1) n0
theorem c_pos : ∀ row ∈ rows24, ∀ y ∈ A4, ∃ i ∈ List.range 4, row.getD i n0 = y ∧ (n0 :: row).getD i n0 = prevIn row y := by decide +kernel
theorem c_comb : ∀ row ∈ rows24, leadsOf R5 (A4.map (prevIn row) ++ [row.getD 3 n0]) = own0 row := by decide +kernel
theorem lead0 {row : List Str} {mk tl : Str} (h : row ∈ rows24) (hm : mk ∈ marks) (ht : tl ∈ tails) : LeadOk (txtOf row) mk tl n0 a1 a2 a3 a4 (own0 row) := by
  obtain ⟨pm, m1, m2, m3⟩ := c_mt mk hm
  obtain ⟨pt, t1⟩ := c_tl tl ht
  obtain ⟨k1, k2⟩ := c_told mk hm tl ht
  obtain ⟨n4, mA, mR⟩ := c_mem row h
  obtain ⟨φ, e, er⟩ := can_ex h
  have ea : asks row mk (txtOf row) = (asks A4 mk (txtOf A4)).map (mp φ) := by
    rw [er, txt_mp e, asks_mp e pm]
  have et : told row mk tl (txtOf row) = n0 :: row := by
    have h1 : told row mk tl (txtOf row) = (told A4 mk tl (txtOf A4)).map (mp φ) := by rw [er, txt_mp e, told_mp e pm pt]
    rw [h1, k1, List.map_cons, mp_n0, ← er]
  have sub : ∀ z ∈ asks A4 mk (txtOf row), z ∈ asks row mk (txtOf row) := by
    intro z hz
    unfold asks at hz ⊢
    rcases List.mem_append.mp hz with hz | hz
    · obtain ⟨y, hy, rfl⟩ := List.mem_map.mp hz
      exact List.mem_append_left _ (List.mem_map_of_mem (mR y hy))
    · exact List.mem_append_right _ hz
  have ht1 : row.map (fun y => stripF (Txt.replace (txtOf row) (Str.ofString "." ++ y) (mk ++ y) ++ tl)) ++ [stripF (txtOf row ++ tl)] = n0 :: row := by
    rw [← et]
    unfold told asks
    rw [List.map_append, List.map_map]
    rfl
  have hg : ∀ i, i < 4 → stripF (Txt.replace (txtOf row) (Str.ofString "." ++ row.getD i n0) (mk ++ row.getD i n0) ++ tl) = (n0 :: row).getD i n0 := fun i hi => by
    rw [← ht1, List.getD_eq_getElem?_getD, List.getD_eq_getElem?_getD, List.getElem?_append_left (by rw [List.length_map]; omega), List.getElem?_map, List.getElem?_eq_getElem (by omega)]
    rfl
  have hl : stripF (txtOf row ++ tl) = row.getD 3 n0 := by
    have h1 := congrArg (fun l : List Str => l[4]?) ht1
    rw [List.getElem?_append_right (by rw [List.length_map]; omega), List.length_map, n4] at h1
    have h2 : some (stripF (txtOf row ++ tl)) = row[3]? := h1
    rw [List.getD_eq_getElem?_getD, ← h2]
    rfl
  have hA : told A4 mk tl (txtOf row) = A4.map (prevIn row) ++ [row.getD 3 n0] := by
    unfold told asks
    rw [List.map_append, List.map_map]
    refine congr (congrArg _ (List.map_congr_left fun y hy => ?_)) (by rw [← hl]; rfl)
    obtain ⟨i, hi, e1, e2⟩ := c_pos row h y hy
    rw [← e2, ← hg i (List.mem_range.mp hi), e1]
    rfl
  refine ⟨?_, m1, m2, t1, c_A1, m3, ?_, ?_, ?_⟩
  · have : txtOf row ∈ asks row mk (txtOf row) := by unfold asks; simp
    rw [ea] at this
    obtain ⟨z, hz, e2⟩ := List.mem_map.mp this
    rw [← e2, mp_len]; exact k2 z hz
  · intro z hz
    have := sub z hz
    rw [ea] at this
    obtain ⟨z, hz, e2⟩ := List.mem_map.mp this
    rw [← e2, mp_len]; exact k2 z hz
  · intro z hz
    obtain ⟨y, hy, rfl⟩ := List.mem_map.mp hz
    have h1 : stripF (y ++ tl) ∈ told row mk tl (txtOf row) := List.mem_map_of_mem (f := fun y => stripF (y ++ tl)) (sub y hy)
    rw [et] at h1
    rcases List.mem_cons.mp h1 with h1 | h1
    · rw [h1]; decide
    · rw [c_A1 _ (mA _ h1)]; decide
  · refine Eq.trans ?_ (c_comb row h)
    rw [← hA]; rfl
theorem c_good : ∀ row ∈ rows24, (own0 row).length = 5 ∧ ∀ x ∈ own0 row, 0 ≤ x ∧ x < 5 := by decide +kernel
theorem good0 {row : List Str} (h : row ∈ rows24) : Good5 (own0 row) := ⟨(c_good row h).1, (c_good row h).2⟩
theorem c_exch0 : (rows24.all fun row => (List.range 5).all fun d => (List.range d).all fun c => (List.range (c + 1)).all fun b => (List.range b).all fun a => rows24.contains (exchR row a b c d)) = true := by decide +kernel
theorem c_exch {row : List Str} (h : row ∈ rows24) {a b c d : Nat} (h1 : a < b) (h2 : b ≤ c) (h3 : c < d) (h4 : d ≤ 4) : exchR row a b c d ∈ rows24 := by
  have := c_exch0
  rw [List.all_eq_true] at this
  have := this row h
  rw [List.all_eq_true] at this
  have := this d (List.mem_range.mpr (by omega))
  rw [List.all_eq_true] at this
  have := this c (List.mem_range.mpr (by omega))
  rw [List.all_eq_true] at this
  have := this b (List.mem_range.mpr (by omega))
  rw [List.all_eq_true] at this
  have := this a (List.mem_range.mpr (by omega))
  exact List.contains_iff_mem.mp this
theorem c_gain : ∀ row ∈ rows24, (gA own0 row (ringsF (own0 row)) 3).length ≤ 500 ∧ gA own0 row (ringsF (own0 row)) 3 ≠ [] ∧ (∀ g ∈ gA own0 row (ringsF (own0 row)) 3, g = -2 ∨ g = 0 ∨ g = 2) ∧ ((gA own0 row (ringsF (own0 row)) 3).any fun x => x == 2) = decide (ringsF (own0 row) < 5) := by decide +kernel
theorem c_in : ∀ row ∈ rows24, (∀ k, k < 5 → R5.getD ((k + 1) % 5) (Str.ofString "") ∈ Str.ofString "" :: row) ∧ ∀ k, k < 5 → prevF R5 (Str.ofString "" :: row) k ∈ R5 := by decide +kernel
theorem c_side : ∀ row ∈ rows24, besideF (txtOf row) a1 a2 a3 a4 ((own0 row).getD 0 0) ((own0 row).getD 1 0) ((own0 row).getD 2 0) ((own0 row).getD 3 0) ((own0 row).getD 4 0) = true := by decide +kernel
theorem c_read0 : ∀ tp ∈ tops, readF (txtOf A4) tp = A4 := by decide +kernel
theorem c_read {row : List Str} (h : row ∈ rows24) {tp : Str} (ht : tp ∈ tops) : readF (txtOf row) tp = row := by
  obtain ⟨φ, e, er⟩ := can_ex h
  rw [er, txt_mp e, read_mp e (c_tp tp ht).1, c_read0 tp ht]
theorem c_asc : ∀ row ∈ rows24, asc (txtOf row) = true := by decide +kernel
theorem c_bare : ∀ tl ∈ tails, A4.map (fun y => stripF (y ++ tl)) = A4 ∧ (A4.map (fun y => stripF (y ++ tl))).all PyData.strOk = true ∧ A4.map (fun y => stripF (Str.ofString ". " ++ y ++ Str.ofString " " ++ tl)) = A4.map (fun y => Str.ofString " " ++ y ++ Str.ofString " ") := by decide +kernel
noncomputable def mins : List Int → Int
  | [] => 0
  | x :: r => r.foldl min x
noncomputable def maxs : List Int → Int
  | [] => 0
  | x :: r => r.foldl max x
noncomputable def mnF (nums : List Int) : Int := mins (lateF nums 4)
noncomputable def cF (nums : List Int) : Nat := nums.idxOf (mnF nums)
noncomputable def grF (nums : List Int) : Int := maxs (nums.take (cF nums))
noncomputable def moreF (nums : List Int) : List Int := nums.filter fun x => decide (x > grF nums)
noncomputable def meF (nums : List Int) : Int := mins (moreF nums)
noncomputable def dF (nums : List Int) : Nat := if moreF nums = [] then 4 else nums.idxOf (meF nums)
noncomputable def aF (nums : List Int) : Nat := (nums.filter fun x => decide (x < mnF nums)).length
noncomputable def bF (nums : List Int) : Nat := nums.idxOf (grF nums) + 1
/-- the cuts of a row that is not in order -/
theorem c_cut : ∀ row ∈ rows24, lateF (row.map tokF) 4 ≠ [] → (mnF (row.map tokF) ∈ lateF (row.map tokF) 4 ∧ (∀ x ∈ lateF (row.map tokF) 4, mnF (row.map tokF) ≤ x) ∧ mnF (row.map tokF) ∈ row.map tokF ∧ grF (row.map tokF) ∈ (row.map tokF).take (cF (row.map tokF)) ∧ (∀ x ∈ (row.map tokF).take (cF (row.map tokF)), x ≤ grF (row.map tokF)) ∧ grF (row.map tokF) ∈ row.map tokF) ∧
    (moreF (row.map tokF) ≠ [] → meF (row.map tokF) ∈ moreF (row.map tokF) ∧ (∀ x ∈ moreF (row.map tokF), meF (row.map tokF) ≤ x) ∧ meF (row.map tokF) ∈ row.map tokF) ∧
    aF (row.map tokF) < bF (row.map tokF) ∧ bF (row.map tokF) ≤ cF (row.map tokF) ∧ cF (row.map tokF) < dF (row.map tokF) ∧ dF (row.map tokF) ≤ 4 := by decide +kernel
/-- the way of a row -/
noncomputable def roadB (R0 : Int) : Nat → Int → List Str → Bool
  | 0, _, _ => false
  | k + 1, st, row => decide (row ∈ rows24) && decide (ringsF (own0 row) = R0 + 2 * st) && (if lateF (row.map tokF) 4 = [] then decide (R0 + 2 * st = 5) && decide (row = A4) else roadB R0 k (st + 1) (exchR row (aF (row.map tokF)) (bF (row.map tokF)) (cF (row.map tokF)) (dF (row.map tokF))))
theorem c_road : ∀ row ∈ rows24, roadB (ringsF (own0 row)) 3 0 row = true := by decide +kernel
/-- the words of _law_names, canonical -/
noncomputable abbrev tA : Str := txtOf A4
noncomputable abbrev grA (tp : Str) : Str := Txt.upper (Str.ofString "." ++ a4 ++ Str.ofString "." ++ tp)
noncomputable abbrev fuA (tp : Str) : Str := Txt.upper (Str.ofString "y" ++ tA ++ Str.ofString "." ++ tp)
noncomputable abbrev glA (tp : Str) : Str := Txt.lower (grA tp)
theorem c_nm1 : ∀ tp ∈ tops, (grA tp).length ≤ 300 ∧ (fuA tp).length ≤ 300 ∧ (glA tp).length ≤ 300 ∧ asc (grA tp) = true ∧ asc (fuA tp) = true ∧ asc (glA tp) = true := by decide +kernel
theorem c_nm2 : ∀ tp ∈ tops, dmF tA tA = true ∧ dmF (Str.ofString "y" ++ tA ++ Str.ofString "." ++ tp) (grA tp) = true ∧ dmF (fuA tp) (glA tp) = true ∧ udmF (Str.ofString "y" ++ tA ++ Str.ofString "." ++ tp) (grA tp) = true ∧ udmF (fuA tp) (glA tp) = true := by decide +kernel
theorem c_nm3 : udmF (Str.ofString "y" ++ tA) (Str.ofString "y" ++ tA) = true ∧ udmF (Str.ofString "y" ++ tA ++ Str.ofString ".7") (Str.ofString "y" ++ tA ++ Str.ofString ".7") = true ∧ dmF (Str.ofString "y" ++ tA ++ Str.ofString ".7") (Str.ofString "." ++ a4) = false ∧ dmF (Str.ofString "." ++ (Str.ofString "y" ++ tA)) tA = false ∧ dmF (Str.ofString "xyz" ++ tA) (Str.ofString "yz" ++ tA) = false := by decide +kernel
theorem c_nm4 : ∀ tp ∈ tops, dmF (Str.ofString "y" ++ tA ++ Str.ofString ".7." ++ tp) (Str.ofString "." ++ a4 ++ Str.ofString ".7") = false ∧ dmF (Str.ofString "y" ++ tA ++ Str.ofString "." ++ tp) (Str.ofString "." ++ a4 ++ Str.ofString ".") = false := by decide +kernel
theorem c_nm5 : dmF (Str.ofString "y" ++ tA) (Str.ofString ".") = false ∧ udmF (Str.ofString "y" ++ tA) a4 = false ∧ udmF (Str.ofString "y" ++ tA ++ Str.ofString ".7") (Str.ofString "." ++ a4 ++ Str.ofString ".7") = false ∧ reachF (Str.ofString "y" ++ tA ++ Str.ofString ".7") = (Str.ofString "y" ++ tA ++ Str.ofString ".7") ∧ reachF (a4 ++ Str.ofString ".xlocal") = a4 ++ Str.ofString ".xlocal" := by decide +kernel
end Mine
end
section
open PySem PySem.W PySem.Calls PyProof.Rows Builtin
set_option maxRecDepth 100000
set_option linter.unusedSimpArgs false
namespace Mine
section
variable {φ : Nat → Nat} {ψ : Int → Int} {x y mk tl tp : Str}
theorem LeadOk.mp {r0 r1 r2 r3 r4 : Str} {ls : List Int} (e : Eqv φ) (hm : plain mk = true) (ht : plain tl = true) (h : LeadOk x mk tl r0 r1 r2 r3 r4 ls) : LeadOk (mp φ x) mk tl (mp φ r0) (mp φ r1) (mp φ r2) (mp φ r3) (mp φ r4) ls := by
  have a := asks_mp (x := x) e hm [r1, r2, r3, r4]
  have t := told_mp (x := x) e hm ht [r1, r2, r3, r4]
  have l := leads_mp e [r0, r1, r2, r3, r4] (told [r1, r2, r3, r4] mk tl x)
  refine ⟨by rw [mp_len]; exact h.hx, h.hmk, h.hmk0, h.htl, ?_, ?_, ?_, ?_, ?_⟩
  · intro r hr
    obtain ⟨y, hy, rfl⟩ := List.mem_map.mp (show r ∈ [r1, r2, r3, r4].map (Mine.mp φ) from hr)
    rw [mp_len]; exact h.hr y hy
  · intro r hr
    obtain ⟨y, hy, rfl⟩ := List.mem_map.mp (show r ∈ [r1, r2, r3, r4].map (Mine.mp φ) from hr)
    have := mp_beq (x := Str.ofString "." ++ y) (y := mk ++ y) e
    rw [mp_app, mp_app, mp_fix e hm, mp_fix e (x := Str.ofString ".") (by decide), h.hne y hy] at this
    exact this
  · intro z hz
    exact all_len h.hb2 z (show z ∈ (asks [r1, r2, r3, r4] mk x).map (Mine.mp φ) from a ▸ (show z ∈ asks ([r1, r2, r3, r4].map (Mine.mp φ)) mk (Mine.mp φ x) from hz))
  · intro z hz
    exact all_len h.hb3 z (show z ∈ (told [r1, r2, r3, r4] mk tl x).map (Mine.mp φ) from t ▸ (show z ∈ told ([r1, r2, r3, r4].map (Mine.mp φ)) mk tl (Mine.mp φ x) from hz))
  · refine Eq.trans ?_ h.e
    refine Eq.trans ?_ l
    rw [← t]; rfl
theorem exch_mp (row : List Str) (a b c d : Nat) : exchR (row.map (mp φ)) a b c d = (exchR row a b c d).map (mp φ) := by
  unfold exchR
  simp only [List.map_append, List.map_take, List.map_drop]
theorem getD_mp (l : List Str) (k : Nat) : (l.map (mp φ)).getD k n0 = mp φ (l.getD k n0) := by
  rw [List.getD_eq_getElem?_getD, List.getD_eq_getElem?_getD, List.getElem?_map]
  cases l[k]? with
  | none => exact mp_n0.symm
  | some c => rfl
theorem prev_mp (e : Eqv φ) (R G : List Str) (k : Nat) : prevF (R.map (mp φ)) (G.map (mp φ)) k = mp φ (prevF R G k) := by
  show (G.map (mp φ)).getD (((G.map (mp φ)).idxOf ((R.map (mp φ)).getD ((k + 1) % 5) n0) + 4) % 5) n0 = mp φ (G.getD ((G.idxOf (R.getD ((k + 1) % 5) n0) + 4) % 5) n0)
  rw [getD_mp, getD_mp, idx_mp e]
theorem own_mp (e : Eqv φ) (R G : List Str) (k : Nat) : ownF (R.map (mp φ)) (G.map (mp φ)) k = ownF R G k := by
  unfold ownF
  rw [prev_mp e, idx_mp e]
theorem own0_mp (e : Eqv φ) (row : List Str) : (List.range 5).map (ownF [n0, mp φ a1, mp φ a2, mp φ a3, mp φ a4] (n0 :: row.map (mp φ))) = own0 row := by
  have h1 : [n0, mp φ a1, mp φ a2, mp φ a3, mp φ a4] = R5.map (mp φ) := by
    show _ = [mp φ n0, _, _, _, _]
    rw [mp_n0]
  have h2 : n0 :: row.map (mp φ) = (n0 :: row).map (mp φ) := by rw [List.map_cons, mp_n0]
  rw [h1, h2]
  refine List.map_congr_left fun k _ => ?_
  exact own_mp e _ _ k
theorem asc_app : asc (x ++ y) = (asc x && asc y) := by
  unfold asc
  show (List.all (x.cps ++ y.cps).toList _) = _
  rw [Array.toList_append, List.all_append]
theorem asc_A4 : ∀ a ∈ A4, asc a = true := by decide
theorem side_mp (e : Eqv φ) {r1 r2 r3 r4 : Str} {o0 o1 o2 o3 o4 : Int} (hx : asc x = true) (h1 : asc r1 = true) (h2 : asc r2 = true) (h3 : asc r3 = true) (h4 : asc r4 = true) : besideF (mp φ x) (mp φ r1) (mp φ r2) (mp φ r3) (mp φ r4) o0 o1 o2 o3 o4 = besideF x r1 r2 r3 r4 o0 o1 o2 o3 o4 := by
  have cy : mp φ (Str.ofString "y") = Str.ofString "y" := mp_fix e (by decide)
  have cd : mp φ (Str.ofString ".") = Str.ofString "." := mp_fix e (by decide)
  have ay : asc (Str.ofString "y") = true := by decide
  have ad : asc (Str.ofString ".") = true := by decide
  have two : ∀ r s, asc r = true → asc s = true → dmF (Str.ofString "y" ++ mp φ x) (Str.ofString "." ++ mp φ r ++ Str.ofString "." ++ mp φ s) = dmF (Str.ofString "y" ++ x) (Str.ofString "." ++ r ++ Str.ofString "." ++ s) := fun r s hr hs => by
    have := dm_mp (x := Str.ofString "y" ++ x) (y := Str.ofString "." ++ r ++ Str.ofString "." ++ s) e (by simp only [asc_app, ay, hx]; rfl) (by simp only [asc_app, ad, hr, hs]; rfl)
    simpa only [mp_app, cy, cd] using this
  have last : udmF (Str.ofString "y" ++ mp φ x) (Str.ofString "." ++ mp φ r4) = udmF (Str.ofString "y" ++ x) (Str.ofString "." ++ r4) := by
    have := udm_mp (x := Str.ofString "y" ++ x) (y := Str.ofString "." ++ r4) e (by simp only [asc_app, ay, hx]; rfl) (by simp only [asc_app, ad, h4]; rfl)
    simpa only [mp_app, cy, cd] using this
  unfold besideF
  rw [two _ _ h1 h2, two _ _ h2 h3, two _ _ h3 h4, last]
theorem names_mp (e : Eqv φ) (ht : tp ∈ tops) : NamesOk (mp φ tA) (mp φ a4) tp (mp φ (grA tp)) (mp φ (fuA tp)) (mp φ (glA tp)) := by
  obtain ⟨pt, lt, at'⟩ := c_tp tp ht
  obtain ⟨l1, l2, l3, b1, b2, b3⟩ := c_nm1 tp ht
  obtain ⟨d1, d2, d3, d4, d5⟩ := c_nm2 tp ht
  obtain ⟨d6, d7, e1, e3, e4⟩ := c_nm3
  obtain ⟨e2, e5⟩ := c_nm4 tp ht
  obtain ⟨e6, e7, e8, q1, q2⟩ := c_nm5
  have cy : mp φ (Str.ofString "y") = Str.ofString "y" := mp_fix e (by decide)
  have cyz : mp φ (Str.ofString "yz") = Str.ofString "yz" := mp_fix e (by decide)
  have cx : mp φ (Str.ofString "xyz") = Str.ofString "xyz" := mp_fix e (by decide)
  have cl : mp φ (Str.ofString ".xlocal") = Str.ofString ".xlocal" := mp_fix e (by decide)
  have c7 : mp φ (Str.ofString ".7") = Str.ofString ".7" := mp_fix e (by decide)
  have c8 : mp φ (Str.ofString ".7.") = Str.ofString ".7." := mp_fix e (by decide)
  have cd : mp φ (Str.ofString ".") = Str.ofString "." := mp_fix e (by decide)
  have ct : mp φ tp = tp := mp_fix e pt
  have ay : asc (Str.ofString "y") = true := by decide
  have ayz : asc (Str.ofString "yz") = true := by decide
  have ax : asc (Str.ofString "xyz") = true := by decide
  have a7 : asc (Str.ofString ".7") = true := by decide
  have a8 : asc (Str.ofString ".7.") = true := by decide
  have ad : asc (Str.ofString ".") = true := by decide
  have aA : asc tA = true := by decide +kernel
  have a4' : asc a4 = true := by decide
  have dm : ∀ {x y : Str} {b : Bool}, dmF x y = b → asc x = true → asc y = true → dmF (mp φ x) (mp φ y) = b := fun h hx hy => (dm_mp e hx hy).trans h
  have um : ∀ {x y : Str} {b : Bool}, udmF x y = b → asc x = true → asc y = true → udmF (mp φ x) (mp φ y) = b := fun h hx hy => (udm_mp e hx hy).trans h
  refine ⟨?_, ?_, lt, ?_, ?_, ?_, ?_, ?_, ?_, ?_, ?_, ?_, ?_, ?_, ?_, ?_, ?_, ?_, ?_, ?_, ?_, ?_, ?_, ?_, ?_, ?_⟩
  · rw [mp_len]; decide +kernel
  · rw [mp_len]; decide +kernel
  · rw [mp_len]; exact l1
  · rw [mp_len]; exact l2
  · rw [mp_len]; exact l3
  · have := upper_mp (x := Str.ofString "." ++ a4 ++ Str.ofString "." ++ tp) e (by simp only [asc_app, ad, a4', at']; rfl)
    simpa only [mp_app, cd, ct] using this
  · have := upper_mp (x := Str.ofString "y" ++ tA ++ Str.ofString "." ++ tp) e (by simp only [asc_app, ad, ay, aA, at']; rfl)
    simpa only [mp_app, cd, ct, cy] using this
  · exact lower_mp e b1
  · exact dm d1 aA aA
  · have := dm d2 (by simp only [asc_app, ad, ay, aA, at']; rfl) b1
    simpa only [mp_app, cd, ct, cy] using this
  · exact dm d3 b2 b3
  · have := um d4 (by simp only [asc_app, ad, ay, aA, at']; rfl) b1
    simpa only [mp_app, cd, ct, cy] using this
  · exact um d5 b2 b3
  · have := um d6 (by simp only [asc_app, ad, ay, aA, at']; rfl) (by simp only [asc_app, ad, ay, aA, at']; rfl)
    simpa only [mp_app, cd, ct, cy] using this
  · have := um d7 (by simp only [asc_app, a7, ay, aA, at']; rfl) (by simp only [asc_app, a7, ay, aA, at']; rfl)
    simpa only [mp_app, c7, ct, cy] using this
  · have := dm e1 (by simp only [asc_app, a7, ay, aA, at']; rfl) (by simp only [asc_app, ad, a4', ay, aA, at']; rfl)
    simpa only [mp_app, c7, cd, ct, cy] using this
  · have := dm e2 (by simp only [asc_app, a8, ay, aA, at']; rfl) (by simp only [asc_app, a7, ad, a4', ay, aA, at']; rfl)
    simpa only [mp_app, c8, c7, cd, ct, cy] using this
  · have := dm e3 (by simp only [asc_app, ad, ay, aA, at']; rfl) aA
    simpa only [mp_app, cd, ct, cy] using this
  · have := dm e4 (by simp only [asc_app, ax, aA]; rfl) (by simp only [asc_app, ayz, aA]; rfl)
    simpa only [mp_app, cx, cyz] using this
  · have := dm e5 (by simp only [asc_app, ad, ay, aA, at']; rfl) (by simp only [asc_app, ad, a4']; rfl)
    simpa only [mp_app, cd, ct, cy] using this
  · have := dm e6 (by simp only [asc_app, ad, ay, aA, at']; rfl) ad
    simpa only [mp_app, cd, ct, cy] using this
  · have := um e7 (by simp only [asc_app, ad, ay, aA, at']; rfl) a4'
    simpa only [mp_app, cd, ct, cy] using this
  · have := um e8 (by simp only [asc_app, a7, ay, aA, at']; rfl) (by simp only [asc_app, a7, ad, a4']; rfl)
    simpa only [mp_app, c7, cd, ct, cy] using this
  · have := congrArg (mp φ) q1
    rw [← reach_mp e] at this
    simpa only [mp_app, c7, cy] using this
  · have := congrArg (mp φ) q2
    rw [← reach_mp e] at this
    simpa only [mp_app, cl] using this
theorem ord_ok : ∀ r ∈ ordL, PyData.strOk r = true ∧ PyData.strOk (Str.ofString " " ++ r ++ Str.ofString " ") = true ∧ r.length = 1 := by decide +kernel
theorem bare_mp (C : Chg φ ψ) (ht : tl ∈ tails) : BareOk (A4.map (mp φ)) tl := by
  obtain ⟨h1, h2, h3⟩ := c_bare tl ht
  obtain ⟨pt, lt⟩ := c_tl tl ht
  have e := C.e
  have cs : mp φ (Str.ofString " ") = Str.ofString " " := mp_fix e (by decide)
  have cd : mp φ (Str.ofString ". ") = Str.ofString ". " := mp_fix e (by decide)
  have ct : mp φ tl = tl := mp_fix e pt
  have k1 : (A4.map (mp φ)).map (fun y => stripF (y ++ tl)) = A4.map (mp φ) := by
    refine Eq.trans ?_ (congrArg (List.map (mp φ)) h1)
    rw [List.map_map, List.map_map]
    refine List.map_congr_left fun y _ => ?_
    show stripF (mp φ y ++ tl) = mp φ (stripF (y ++ tl))
    rw [← strip_mp e, mp_app, ct]
  have k2 : (A4.map (mp φ)).map (fun y => stripF (Str.ofString ". " ++ y ++ Str.ofString " " ++ tl)) = (A4.map (mp φ)).map (fun y => Str.ofString " " ++ y ++ Str.ofString " ") := by
    have := congrArg (List.map (mp φ)) h3
    rw [List.map_map, List.map_map] at this ⊢
    refine Eq.trans (List.map_congr_left fun y _ => ?_) (Eq.trans this (List.map_congr_left fun y _ => ?_))
    · show stripF (Str.ofString ". " ++ mp φ y ++ Str.ofString " " ++ tl) = mp φ (stripF (Str.ofString ". " ++ y ++ Str.ofString " " ++ tl))
      rw [← strip_mp e]
      simp only [mp_app, ct, cs, cd]
    · show mp φ (Str.ofString " " ++ y ++ Str.ofString " ") = Str.ofString " " ++ mp φ y ++ Str.ofString " "
      simp only [mp_app, cs]
  have ho : ∀ r ∈ A4.map (mp φ), r ∈ ordL := by
    intro r hr
    obtain ⟨y, hy, rfl⟩ := List.mem_map.mp hr
    exact C.ord y hy
  refine ⟨by omega, k1, ?_, k2, ?_⟩
  · rw [k1, List.all_eq_true]
    exact fun r hr => (ord_ok r (ho r hr)).1
  · rw [k2, List.all_eq_true]
    intro r hr
    obtain ⟨y, hy, rfl⟩ := List.mem_map.mp hr
    exact (ord_ok y (ho y hy)).2.1
theorem late_len (nums : List Int) (k : Nat) (m : Mon ψ) (hk : k < nums.length) : lateK (nums.map ψ) k = (lateK nums k).map ψ := by
  unfold lateK
  have hg : (nums.map ψ).getD k 0 = ψ (nums.getD k 0) := by
    rw [List.getD_eq_getElem?_getD, List.getD_eq_getElem?_getD, List.getElem?_map, List.getElem?_eq_getElem hk]; rfl
  rw [hg, ← List.map_take, List.filter_map]
  congr 1
  refine List.filter_congr fun o _ => ?_
  show decide (256 ≤ 255 + ψ o - _) = _
  have := m.lt (nums.getD k 0) o
  rw [decide_eq_decide]
  omega
theorem late_mp (nums : List Int) (m : Mon ψ) (hn : nums.length = 4) : lateF (nums.map ψ) 4 = (lateF nums 4).map ψ := by
  unfold lateF
  rw [List.map_map]
  have h : ∀ k ∈ List.range 4, lateB (nums.map ψ) k = lateB nums k := fun k hk => by
    unfold lateB
    rw [late_len nums k m (by rw [hn]; exact List.mem_range.mp hk)]
    simp only [List.map_eq_nil_iff]
  rw [List.filter_congr h]
  refine List.map_congr_left fun k hk => ?_
  have hk : k < nums.length := by rw [hn]; exact List.mem_range.mp ((List.mem_filter.mp hk).1)
  show (nums.map ψ).getD k 0 = ψ (nums.getD k 0)
  rw [List.getD_eq_getElem?_getD, List.getD_eq_getElem?_getD, List.getElem?_map, List.getElem?_eq_getElem hk]; rfl
theorem Mon.inj (m : Mon ψ) {a b : Int} (h : ψ a = ψ b) : a = b := by
  have h1 := m.lt a b
  have h2 := m.lt b a
  omega
theorem idxI_mp (m : Mon ψ) (R : List Int) (y : Int) : (R.map ψ).idxOf (ψ y) = R.idxOf y := by
  induction R with
  | nil => rfl
  | cons a R ih =>
    rw [List.map_cons, List.idxOf_cons, List.idxOf_cons, ih]
    by_cases h : a = y
    · rw [h]; simp
    · rw [beq_eq_false_iff_ne.mpr h, beq_eq_false_iff_ne.mpr fun h1 => h (m.inj h1)]
theorem cuts_mp {nums late : List Int} {mn gr me : Int} {a b c d : Nat} (m : Mon ψ) (C : CutsOk nums late mn gr me a b c d) (hl : PyData.layable0 (.list ((nums.map ψ).map .int)) = true) : CutsOk (nums.map ψ) (late.map ψ) (ψ mn) (ψ gr) (ψ me) a b c d := by
  have le : ∀ x y, ψ x ≤ ψ y ↔ x ≤ y := fun x y => by have := m.lt y x; omega
  have f1 : (nums.map ψ).filter (fun x => decide (x < ψ mn)) = (nums.filter fun x => decide (x < mn)).map ψ := by
    rw [List.filter_map]
    congr 1
    refine List.filter_congr fun o _ => ?_
    show decide (ψ o < ψ mn) = _
    rw [decide_eq_decide, m.lt]
  have f2 : (nums.map ψ).filter (fun x => decide (x > ψ gr)) = (nums.filter fun x => decide (x > gr)).map ψ := by
    rw [List.filter_map]
    congr 1
    refine List.filter_congr fun o _ => ?_
    show decide (ψ o > ψ gr) = _
    rw [decide_eq_decide]
    exact m.lt _ _
  refine ⟨hl, List.mem_map_of_mem C.mn1, ?_, List.mem_map_of_mem C.mn3, (idxI_mp m _ _).trans C.hc, by rw [← List.map_take]; exact List.mem_map_of_mem C.gr1, ?_, List.mem_map_of_mem C.gr3, by rw [idxI_mp m]; exact C.hb, by rw [f1, List.length_map]; exact C.ha, ?_, ?_⟩
  · intro x hx
    obtain ⟨y, hy, rfl⟩ := List.mem_map.mp hx
    exact (le _ _).mpr (C.mn2 y hy)
  · intro x hx
    rw [← List.map_take] at hx
    obtain ⟨y, hy, rfl⟩ := List.mem_map.mp hx
    exact (le _ _).mpr (C.gr2 y hy)
  · rw [f2, List.map_eq_nil_iff]; exact C.hd0
  · rw [f2, Ne, List.map_eq_nil_iff]
    intro h
    obtain ⟨h1, h2, h3, h4⟩ := C.hd1 h
    refine ⟨List.mem_map_of_mem h1, ?_, List.mem_map_of_mem h3, (idxI_mp m _ _).trans h4⟩
    intro x hx
    obtain ⟨y, hy, rfl⟩ := List.mem_map.mp hx
    exact (le _ _).mpr (h2 y hy)
theorem nums_mp (C : Chg φ ψ) {row : List Str} (h : row ∈ rows24) : (row.map (mp φ)).map tokF = (row.map tokF).map ψ := by
  rw [List.map_map, List.map_map]
  refine List.map_congr_left fun y hy => ?_
  exact C.tok y ((c_mem row h).2.1 y hy)
theorem tok_lt : ∀ r ∈ ordL, 0 ≤ tokF r ∧ tokF r < 32 := by decide +kernel
theorem weight_int : ∀ n, n < 32 → PyData.weight (.int (n : Nat)) ≤ 5 := by decide +kernel
theorem weight_int' {a : Int} (h : 0 ≤ a ∧ a < 32) : PyData.weight (.int a) ≤ 5 := by
  obtain ⟨n, rfl⟩ : ∃ n : Nat, a = (n : Int) := ⟨a.toNat, by omega⟩
  exact weight_int n (by omega)
theorem lay_ints {a b c d : Int} (ha : 0 ≤ a ∧ a < 32) (hb : 0 ≤ b ∧ b < 32) (hc : 0 ≤ c ∧ c < 32) (hd : 0 ≤ d ∧ d < 32) : PyData.layable0 (.list [.int a, .int b, .int c, .int d]) = true := by
  have h1 := weight_int' ha
  have h2 := weight_int' hb
  have h3 := weight_int' hc
  have h4 := weight_int' hd
  have hw : PyData.weight (.list [.int a, .int b, .int c, .int d]) = PyData.weight (.int a) + 1 + (PyData.weight (.int b) + 1 + (PyData.weight (.int c) + 1 + (PyData.weight (.int d) + 1 + 0))) := by
    simp only [PyData.weight, PyData.weightAll]
  have hd : PyData.depth (.list [.int a, .int b, .int c, .int d]) = 1 := by simp [PyData.depth, PyData.depthAll]
  have hk : PyData.canLay0 (.list [.int a, .int b, .int c, .int d]) = true := by simp [PyData.canLay0, PyData.canLayAll0]
  unfold PyData.layable0
  have h20 : (2 : Nat) ^ 20 = 1048576 := by decide
  rw [hk, hd, hw, decide_eq_true (show (1 : Nat) ≤ 64 by decide), decide_eq_true (show PyData.weight (.int a) + 1 + (PyData.weight (.int b) + 1 + (PyData.weight (.int c) + 1 + (PyData.weight (.int d) + 1 + 0))) ≤ 2 ^ 20 by omega)]
  rfl
theorem lay_row {row : List Str} (hn : row.length = 4) (ho : ∀ r ∈ row, r ∈ ordL) : PyData.layable0 (.list ((row.map tokF).map .int)) = true := by
  obtain ⟨w, x, y, z, rfl⟩ : ∃ r1 r2 r3 r4, row = [r1, r2, r3, r4] := by
    rcases row with _ | ⟨a, _ | ⟨b, _ | ⟨c, _ | ⟨d, _ | ⟨e, r⟩⟩⟩⟩⟩ <;> first | exact ⟨_, _, _, _, rfl⟩ | (simp at hn)
  exact lay_ints (tok_lt _ (ho _ (by simp))) (tok_lt _ (ho _ (by simp))) (tok_lt _ (ho _ (by simp))) (tok_lt _ (ho _ (by simp)))
theorem row_ok (C : Chg φ ψ) {row : List Str} {R0 st : Int} (h : row ∈ rows24) (hm : mk ∈ marks) (ht : tl ∈ tails) (hp : tp ∈ tops) (hR : ringsF (own0 row) = R0 + 2 * st) (hf : lateF (row.map tokF) 4 = [] → R0 + 2 * st = 5 ∧ row = A4) :
    RowOk mk tl tp n0 (mp φ a1) (mp φ a2) (mp φ a3) (mp φ a4) R0 st (row.map (mp φ)) := by
  have e := C.e
  obtain ⟨n4, mA, mR⟩ := c_mem row h
  obtain ⟨pt, lt, at'⟩ := c_tp tp hp
  obtain ⟨pm, _⟩ := c_mt mk hm
  obtain ⟨ptl, _⟩ := c_tl tl ht
  have hin := c_in row h
  have eR : [n0, mp φ a1, mp φ a2, mp φ a3, mp φ a4] = R5.map (mp φ) := by
    show _ = [mp φ n0, _, _, _, _]
    rw [mp_n0]
  have eG : Str.ofString "" :: row.map (mp φ) = (Str.ofString "" :: row).map (mp φ) := by
    show n0 :: _ = mp φ n0 :: _
    rw [mp_n0]
  have hl := lead0 h hm ht
  have hl' := hl.mp (φ := φ) e pm ptl
  rw [mp_n0, ← txt_mp e] at hl'
  have h5 := (c_good row h).1
  obtain ⟨o0, o1, o2, o3, o4, eo⟩ : ∃ o0 o1 o2 o3 o4, own0 row = [o0, o1, o2, o3, o4] := by
    generalize own0 row = l at h5
    rcases l with _ | ⟨a, _ | ⟨b, _ | ⟨c, _ | ⟨d, _ | ⟨e, _ | ⟨f, r⟩⟩⟩⟩⟩⟩ <;> first | exact ⟨_, _, _, _, _, rfl⟩ | (simp at h5)
  refine ⟨by rw [List.length_map, n4], ?_, ?_, ?_, lt, ?_, ?_, ⟨own0 row, o0, o1, o2, o3, o4, hl', good0 h, (own0_mp e row).trans eo, fun _ => ⟨eo, ?_⟩, hR⟩, ?_⟩
  · intro r hr
    obtain ⟨y, hy, rfl⟩ := List.mem_map.mp hr
    rw [mp_len]; exact c_A1 y (mA y hy)
  · intro r hr
    obtain ⟨y, hy, rfl⟩ := List.mem_map.mp hr
    exact C.ord y (mA y hy)
  · rw [txt_mp e, read_mp e pt, c_read h hp]
  · intro k hk
    rw [eR, eG]
    rw [show (R5.map (mp φ)).getD ((k + 1) % 5) (Str.ofString "") = mp φ (R5.getD ((k + 1) % 5) n0) from getD_mp _ _]
    exact List.mem_map_of_mem (hin.1 k hk)
  · intro k hk
    rw [eR, eG, prev_mp e]
    exact List.mem_map_of_mem (hin.2 k hk)
  · rw [txt_mp e, side_mp e (c_asc row h) (asc_A4 _ (by decide)) (asc_A4 _ (by decide)) (asc_A4 _ (by decide)) (asc_A4 _ (by decide))]
    have := c_side row h
    rw [eo] at this
    exact this
  · intro hfin
    rw [nums_mp C h, late_mp _ C.m (by rw [List.length_map, n4]), List.map_eq_nil_iff] at hfin
    obtain ⟨h1, rfl⟩ := hf hfin
    refine ⟨h1, bare_mp C ht, mp φ (grA tp), mp φ (fuA tp), mp φ (glA tp), ?_⟩
    rw [txt_mp e]
    exact names_mp e hp
theorem road_mp (C : Chg φ ψ) (hm : mk ∈ marks) (ht : tl ∈ tails) (hp : tp ∈ tops) (R0 : Int) : ∀ (k : Nat) (st : Int) (row : List Str), roadB R0 k st row = true → Road mk tl tp n0 (mp φ a1) (mp φ a2) (mp φ a3) (mp φ a4) R0 k st (row.map (mp φ))
  | 0, _, _, h => nomatch h
  | k + 1, st, row, h => by
    unfold roadB at h
    rw [Bool.and_eq_true, Bool.and_eq_true, decide_eq_true_eq, decide_eq_true_eq] at h
    obtain ⟨⟨hr, hR⟩, hn⟩ := h
    obtain ⟨n4, mA, mR⟩ := c_mem row hr
    have l4 : (row.map tokF).length = 4 := by rw [List.length_map, n4]
    refine ⟨row_ok C hr hm ht hp hR fun hf => ?_, fun hf => ?_⟩
    · rw [if_pos hf, Bool.and_eq_true, decide_eq_true_eq, decide_eq_true_eq] at hn
      exact hn
    · rw [nums_mp C hr, late_mp _ C.m l4] at hf ⊢
      have hf' : lateF (row.map tokF) 4 ≠ [] := fun h => hf (by rw [h]; rfl)
      rw [if_neg hf'] at hn
      obtain ⟨⟨b1, b2, b3, b4, b5, b6⟩, b7, b8, b9, b10, b11⟩ := c_cut row hr hf'
      have hC : CutsOk (row.map tokF) (lateF (row.map tokF) 4) (mnF (row.map tokF)) (grF (row.map tokF)) (meF (row.map tokF)) (aF (row.map tokF)) (bF (row.map tokF)) (cF (row.map tokF)) (dF (row.map tokF)) := by
        refine ⟨?_, b1, b2, b3, rfl, b4, b5, b6, rfl, rfl, fun h => if_pos h, fun h => ?_⟩
        · exact lay_row n4 fun r hr => c_A4 r (mA r hr)
        · obtain ⟨c1, c2, c3⟩ := b7 h
          exact ⟨c1, c2, c3, (if_neg h).symm⟩
      have hl : PyData.layable0 (.list (((row.map tokF).map ψ).map .int)) = true := by
        rw [← nums_mp C hr]
        refine lay_row (by rw [List.length_map, n4]) fun r hr2 => ?_
        obtain ⟨y, hy, rfl⟩ := List.mem_map.mp hr2
        exact C.ord y (mA y hy)
      refine ⟨_, _, _, _, _, _, _, cuts_mp C.m hC hl, b8, b9, b10, b11, ?_⟩
      rw [exch_mp]
      exact road_mp C hm ht hp R0 k (st + 1) _ hn
theorem gains_mp (e : Eqv φ) (row : List Str) (R0 : Int) (i : Nat) : gA (fun r => (List.range 5).map (ownF [n0, mp φ a1, mp φ a2, mp φ a3, mp φ a4] (n0 :: r))) (row.map (mp φ)) R0 i = gA own0 row R0 i := by
  have h : ∀ a b c d, gn (fun r => (List.range 5).map (ownF [n0, mp φ a1, mp φ a2, mp φ a3, mp φ a4] (n0 :: r))) (row.map (mp φ)) R0 a b c d = gn own0 row R0 a b c d := fun a b c d => by
    unfold gn
    rw [exch_mp]
    show ringsF ((List.range 5).map _) - R0 = _
    rw [own0_mp e]
  unfold gA gB gC gD
  simp only [h]
end
/-- the plain law -/
theorem pure_law : PureLaw := by
  intro row mk tail tp ho hd hn hm ht hp
  obtain ⟨φ, ψ, row0, C, h0, rfl, hF⟩ := chg_ex ho hd hn
  have e := C.e
  obtain ⟨n4, mA, mR⟩ := c_mem row0 h0
  obtain ⟨pm, _⟩ := c_mt mk hm
  obtain ⟨ptl, _⟩ := c_tl tail ht
  have lead : ∀ {r : List Str}, r ∈ rows24 → LeadOk (txtOf (r.map (mp φ))) mk tail n0 (mp φ a1) (mp φ a2) (mp φ a3) (mp φ a4) (own0 r) := fun hr => by
    have hl' := (lead0 hr hm ht).mp (φ := φ) e pm ptl
    rw [mp_n0, ← txt_mp e] at hl'
    exact hl'
  obtain ⟨g1, g2, g3, g4⟩ := c_gain row0 h0
  refine ⟨n0, mp φ a1, mp φ a2, mp φ a3, mp φ a4, own0 row0, fun r => (List.range 5).map (ownF [n0, mp φ a1, mp φ a2, mp φ a3, mp φ a4] (n0 :: r)), ⟨by rw [hF], lead h0, good0 h0, ⟨hn, ?_, ?_⟩, ?_, ?_, ?_, ?_, road_mp C hm ht hp _ 3 0 row0 (c_road row0 h0)⟩⟩
  · intro r hr
    exact (ord_ok r (ho r hr)).2.2
  · intro a b c d h1 h2 h3 h4
    have h9 := c_exch h0 h1 h2 h3 h4
    rw [exch_mp, own0_mp e]
    exact ⟨lead h9, good0 h9⟩
  · rw [gains_mp e]; exact g1
  · rw [gains_mp e]; exact g2
  · rw [gains_mp e]; exact g3
  · rw [gains_mp e]; exact g4
end Mine
end
open PySem PySem.W PyProof.Rows
theorem PySem.Challenge.cw_xl0024_01_holds : PySem.Challenge.rw_xl0024_01.Holds :=
  Mine.hd Mine.pure_law
